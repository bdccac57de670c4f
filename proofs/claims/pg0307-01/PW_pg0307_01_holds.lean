import PyProof.Rows.All
import Wide.All
import OpenK.AllK
import Wide.FinOn
import PySem.Challenge.RW_pg0307_01
set_option maxRecDepth 100000
set_option Elab.async false
set_option compiler.extract_closed false
set_option maxHeartbeats 8000000
set_option linter.unusedVariables false
set_option linter.unusedSimpArgs false
namespace Mine
open PySem PySem.W PyProof.Rows
/-- the statements of the top that the view keeps -/
def keepAt (ks : List Nat) (l : List Stmt) : List Stmt := ks.filterMap fun i => l[i]?
def view : Program := { PySem.Challenge.pw_pg0307_01 with main := { PySem.Challenge.pw_pg0307_01.main with body := keepAt [0, 2, 3, 4, 5, 6, 7, 14, 16, 17, 18, 19, 20] PySem.Challenge.pw_pg0307_01.main.body } }
/-- one answer of a row of the world: what the top leaves -/
def Arm (p q : Program) (loose : List Str) (Xt : Shared → Bool) {α : Type} (Yf : Shared → α) (Ya : World → α) (N : Nat) (g0 : Bool) (row : String) (b : Bool) : Prop :=
  ∀ w : World, (fencedOpening treeTable p w N).map (fun s₀ => (topFrom treeTable p (w.withFollow row b) N s₀).map (fun s => (openSeen q loose (importedModules p.main.body) Xt g0 s, Yf s))) = some (some (openGood q loose, Ya (w.withFollow row b)))
theorem left_two {p q : Program} {loose : List Str} {Xt : Shared → Bool} {α : Type} {Yf : Shared → α} {Ya : World → α} {N : Nat} {g0 : Bool} (row : String)
    (h0 : Arm p q loose Xt Yf Ya N g0 row false) (h1 : Arm p q loose Xt Yf Ya N g0 row true) : LeftO p q loose Xt Yf Ya N g0 := LeftO.of_split row fun w => by
  obtain ⟨s₀, a, b⟩ := Option.map_eq_some_iff.mp (h0 w)
  obtain ⟨s₁, c, d⟩ := Option.map_eq_some_iff.mp (h1 w)
  rw [a] at c
  cases c
  rw [a]
  exact congrArg some (Prod.ext b d)
set_option hygiene false in
local macro_rules | `(tactic| o_head $H) => `(tactic| (refine W.holds_open (q := Mine.view) (loose := [Str.ofString "insort_right", Str.ofString "bisect_right", Str.ofString "insort_left", Str.ofString "bisect_left", Str.ofString "Whitespace"]) (Xt := fun s => xlAt Mine.view [] s && recOk (RowW.records PySem.Challenge.rw_pg0307_01.row.toRowW) s) (XP := XL Mine.view []) (Yf := Hook.obs $H) (Ya := Hook.val $H) (YP := Hook.says $H) (N := 2198) ?hl (Hook.of $H) (Hook.keeps $H) (fun s e => xl_of s (Bool.and_eq_true_iff.mp e).1) XL.keeps (by rfl) (by rfl) (by rfl) (fun s e => recFacts_of (Bool.and_eq_true_iff.mp e).2) (by rfl) (by first | assumption | decide +kernel) (by decide +kernel) ⟨rfl, rfl, rfl, rfl, rfl, by decide +kernel⟩ ?hw ?hc))
local macro_rules | `(tactic| o_law) => `(tactic| (refine holds_law (by decide +kernel) fun said => ?_))
/-- the head with its look at the top left open: it writes the heap out -/
theorem pre : ∃ P R : Prop, P ∧ R → PySem.Challenge.rw_pg0307_01.Holds := by
  refine' ⟨_, _, fun h => ?g⟩
  case g =>
    w_on
    o_law
    k_head
    case hw => w_witness2
    case hl => exact h.1
    case hc => exact h.2
theorem arm0 : Arm PySem.Challenge.rw_pg0307_01.row.prog view [Str.ofString "insort_right", Str.ofString "bisect_right", Str.ofString "insort_left", Str.ofString "bisect_left", Str.ofString "Whitespace"] (fun s => xlAt view [] s && recOk (RowW.records PySem.Challenge.rw_pg0307_01.row.toRowW) s)
    (Hook.obs (kmHook pre.heap_1 [2, 3, 15, 17, 18, 20, 21, 22, 24, 25, 27, 28, 29, 31, 32, 34, 35, 36, 38, 39, 41, 42, 43, 45, 46, 48, 49, 50, 52, 53, 55, 56, 57, 58, 59, 61, 62, 64, 65, 66, 67, 68, 70, 71, 73, 74, 75, 76, 77, 79, 80, 82, 83, 84, 85, 86, 88, 89, 91, 92, 103, 105, 106, 108, 109, 110, 112, 113, 115, 116, 117, 119, 120, 122, 123, 124, 126, 127, 129, 130, 131, 133, 134, 136, 137, 138, 140, 141, 143, 144, 145, 147, 148, 150, 151, 152, 153, 154, 155, 156, 159, 162, 163, 164, 167, 168, 169, 171, 172, 174, 175, 176, 179, 180, 181, 184, 185] (fun _ => by kernel_rfl) [37, 44, 182])) (Hook.val (kmHook pre.heap_1 [2, 3, 15, 17, 18, 20, 21, 22, 24, 25, 27, 28, 29, 31, 32, 34, 35, 36, 38, 39, 41, 42, 43, 45, 46, 48, 49, 50, 52, 53, 55, 56, 57, 58, 59, 61, 62, 64, 65, 66, 67, 68, 70, 71, 73, 74, 75, 76, 77, 79, 80, 82, 83, 84, 85, 86, 88, 89, 91, 92, 103, 105, 106, 108, 109, 110, 112, 113, 115, 116, 117, 119, 120, 122, 123, 124, 126, 127, 129, 130, 131, 133, 134, 136, 137, 138, 140, 141, 143, 144, 145, 147, 148, 150, 151, 152, 153, 154, 155, 156, 159, 162, 163, 164, 167, 168, 169, 171, 172, 174, 175, 176, 179, 180, 181, 184, 185] (fun _ => by kernel_rfl) [37, 44, 182])) 2198 true "special-get-raises" false := fun w => by kernel_rfl
theorem arm1 : Arm PySem.Challenge.rw_pg0307_01.row.prog view [Str.ofString "insort_right", Str.ofString "bisect_right", Str.ofString "insort_left", Str.ofString "bisect_left", Str.ofString "Whitespace"] (fun s => xlAt view [] s && recOk (RowW.records PySem.Challenge.rw_pg0307_01.row.toRowW) s)
    (Hook.obs (kmHook pre.heap_1 [2, 3, 15, 17, 18, 20, 21, 22, 24, 25, 27, 28, 29, 31, 32, 34, 35, 36, 38, 39, 41, 42, 43, 45, 46, 48, 49, 50, 52, 53, 55, 56, 57, 58, 59, 61, 62, 64, 65, 66, 67, 68, 70, 71, 73, 74, 75, 76, 77, 79, 80, 82, 83, 84, 85, 86, 88, 89, 91, 92, 103, 105, 106, 108, 109, 110, 112, 113, 115, 116, 117, 119, 120, 122, 123, 124, 126, 127, 129, 130, 131, 133, 134, 136, 137, 138, 140, 141, 143, 144, 145, 147, 148, 150, 151, 152, 153, 154, 155, 156, 159, 162, 163, 164, 167, 168, 169, 171, 172, 174, 175, 176, 179, 180, 181, 184, 185] (fun _ => by kernel_rfl) [37, 44, 182])) (Hook.val (kmHook pre.heap_1 [2, 3, 15, 17, 18, 20, 21, 22, 24, 25, 27, 28, 29, 31, 32, 34, 35, 36, 38, 39, 41, 42, 43, 45, 46, 48, 49, 50, 52, 53, 55, 56, 57, 58, 59, 61, 62, 64, 65, 66, 67, 68, 70, 71, 73, 74, 75, 76, 77, 79, 80, 82, 83, 84, 85, 86, 88, 89, 91, 92, 103, 105, 106, 108, 109, 110, 112, 113, 115, 116, 117, 119, 120, 122, 123, 124, 126, 127, 129, 130, 131, 133, 134, 136, 137, 138, 140, 141, 143, 144, 145, 147, 148, 150, 151, 152, 153, 154, 155, 156, 159, 162, 163, 164, 167, 168, 169, 171, 172, 174, 175, 176, 179, 180, 181, 184, 185] (fun _ => by kernel_rfl) [37, 44, 182])) 2198 true "special-get-raises" true := fun w => by kernel_rfl
set_option hygiene false in
local macro_rules | `(tactic| o_head $H) => `(tactic| (refine W.holds_open (q := Mine.view) (loose := [Str.ofString "insort_right", Str.ofString "bisect_right", Str.ofString "insort_left", Str.ofString "bisect_left", Str.ofString "Whitespace"]) (Xt := fun s => xlAt Mine.view [] s && recOk (RowW.records PySem.Challenge.rw_pg0307_01.row.toRowW) s) (XP := XL Mine.view []) (Yf := Hook.obs $H) (Ya := Hook.val $H) (YP := Hook.says $H) (N := 2198) ?hl (Hook.of $H) (Hook.keeps $H) (fun s e => xl_of s (Bool.and_eq_true_iff.mp e).1) XL.keeps (by rfl) (by rfl) (by rfl) (fun s e => recFacts_of (Bool.and_eq_true_iff.mp e).2) (by rfl) (by first | assumption | decide +kernel) (by decide +kernel) ⟨rfl, rfl, rfl, rfl, rfl, by decide +kernel⟩ ?hw ?hc; (case hl => exact left_two "special-get-raises" Mine.arm0 Mine.arm1)))
open_top hd for PySem.Challenge.rw_pg0307_01
open PySem.Spec PySem.Calls
theorem filled (h : PySem.Challenge.rw_pg0307_01 = PySem.Challenge.rw_pg0307_01 ∧ hd.heap_1 = hd.heap_1) : True := by
  w_top off
  have : PySem.Challenge.rw_pg0307_01 = PySem.Challenge.rw_pg0307_01 ∧ hd.heap_1 = hd.heap_1 → True := by
    k_fill
    intro _; trivial
  trivial
/-- every object stays -/
def Stay (h h' : Heap) : Prop := ∀ b o, h.get? b = some o → h'.get? b = some o
theorem Stay.refl (h : Heap) : Stay h h := fun _ _ e => e
theorem Stay.trans {a b c : Heap} (x : Stay a b) (y : Stay b c) : Stay a c := fun _ _ e => y _ _ (x _ _ e)
theorem Stay.size {h h' : Heap} (_x : Stay h h') : True := trivial

section
variable {prog : Program} {w : World} {A₀ A : Around} {s : Shared} {base h₀ : Heap} {outer : List Env} {L : Addr} {m : Str → Option Value} {env : Env} {K : Frag}
  {R : Result → Shared → Prop} {name qual : Str} {params : Arguments} {body : List Stmt} {scope : Scope} {cl : List (Str × Addr)} {dV kV doc pm cdv ct oc : Value} {an od : Option Addr} {osl : Array (Option Value)} {f : Addr} {args : Args} {binds : List (Str × Value)}
  {p : Program} {loose : List Str} {mean : ExcName → Option Value} {mg mb : Str → Option Value}

theorem news_ground {news : List (Addr × Obj)} {h₁ : Heap} (hk : ∀ b o, s.heap.get? b = some o → h₁.get? b = some o) (hn : ∀ p ∈ news, s.heap.get? p.1 = some p.2) :
    News (hideAll s.heap (news.map (·.1))) s.heap.objs.size h₁ news :=
  fun p hp => ⟨hk _ _ (hn p hp), Nat.ne_of_lt (Heap.lt_size (hn p hp)), hideAll_none _ (List.mem_map_of_mem hp)⟩

/-- a call of a plain def: the callee's base is the caller's heap but for the entries of `tb` -/
theorem enterT {tb : List (Addr × Obj)} (B : Below A₀ base outer h₀) (F : Fr h₀ L s.heap m) (X₀ : K.In h₀) (N : News h₀ L s.heap tb) (T : Top p loose mean mg mb h₀) (hA : A.frames = some (env :: outer)) (hf : env.frame = some L) (hke : env.scope.kind = .function)
    (ho : K.lookup f = some ⟨oc, od, .func (fnX name qual params body scope [] dV kV doc pm an cdv ct), osl⟩) (hcd : codeIn K cdv qual = true) (hroom : A.depth < recursionLimit)
    (hbind : BindsTo s (fnX name qual params body scope [] dV kV doc pm an cdv ct) args binds) (hloc : ∀ y ∈ binds, scope.names.lookup y.1 = some .local)
    (h : ∀ g L' h₁, (∀ b o, b ∉ tb.map (·.1) → s.heap.get? b = some o → g.get? b = some o) → (∀ b o, g.get? b = some o → s.heap.get? b = some o) → L' = s.heap.objs.size → Fr g L' h₁ (fun y => binds.reverse.lookup y) → News g L' h₁ tb → Below A base (env :: outer) g → K.In g → Top p loose mean mg mb g →
      wpAny (model prog w) (A.deeper (envX qual scope L' f cdv [])) (execs body (envX qual scope L' f cdv []))
        (fun fl s' => LeaveK h₀ L m g R (match fl with | .ret v => v | _ => .none) s')
        (fun e s' => wpAny (model prog w) (A.deeper (envX qual scope L' f cdv [])) (leaving (envX qual scope L' f cdv []) e) (fun _ s'' => R (.error e) s'') (fun e' s'' => R (.error e') s'') s')
        { s with heap := h₁, toks := s.toks + binds.length })
    (hco : scope.isCoroutine = false) (hgen : scope.isGenerator = false) (hk : scope.kind = .function) (hcell : ∀ x ∈ scope.names, x.2 ≠ .cell) : codeAny (model prog w) A (.call (.ref f) args) R s := by
  obtain ⟨FG, BG, st, lv⟩ := groundX (R := R) B F N hA hf hke
  refine codeAny_call_def (fd := fnX name qual params body scope [] dV kV doc pm an cdv ct) (body := body) (binds := binds) hroom ((X₀.keeps F.keep) _ _ ho) rfl (T.nolimit.keeps F.keep) (codeRec_of (X₀.keeps F.keep) hcd) rfl hbind hcell hloc (fun h₁ hns hk₁ => ?_) hco hgen hk
  exact wpAny_mono (h _ s.heap.objs.size h₁ (fun b o hb e => hideAll_get _ e hb) (fun b o e => of_hideAll _ e) rfl ⟨hns, fun b o e => hk₁ b o (of_hideAll _ e), Nat.le_of_eq (hideAll_size _ _)⟩
    (news_ground hk₁ fun p hp => (N p hp).1) BG (X₀.keeps st) (T.keeps st)) (fun fl s' hl => lv _ _ hl) fun _ _ y => y

theorem enterC {tb : List (Addr × Obj)} (B : Below A₀ base outer h₀) (F : Fr h₀ L s.heap m) (X₀ : K.In h₀) (N : News h₀ L s.heap tb) (T : Top p loose mean mg mb h₀) (hA : A.frames = some (env :: outer)) (hf : env.frame = some L) (hke : env.scope.kind = .function)
    (ho : K.lookup f = some ⟨oc, od, .func (fnX name qual params body scope [] dV kV doc pm an cdv ct), osl⟩) (hcd : codeIn K cdv qual = true) (hroom : A.depth < recursionLimit)
    (hbind : BindsTo s (fnX name qual params body scope [] dV kV doc pm an cdv ct) args binds) (hkind : (binds.all fun y => scope.names.lookup y.1 == some .local || scope.names.lookup y.1 == some .cell) = true)
    (hnd : ((cellsFrom 0 scope.names []).map (·.1)).Nodup)
    (h : ∀ g L' h₁ tk cells, (∀ b o, b ∉ tb.map (·.1) → s.heap.get? b = some o → g.get? b = some o) → (∀ b o, g.get? b = some o → s.heap.get? b = some o) → L' = s.heap.objs.size → Fr g L' h₁ (bindL (envOfC qual scope L' f cdv).kindOf binds fun _ => none) → News g L' h₁ (cells ++ tb) →
      CellsAre (bindC (envOfC qual scope L' f cdv).kindOf binds fun _ => none) (cellsFrom (L' + 1) scope.names []) cells → Below A base (env :: outer) g → K.In g → Top p loose mean mg mb g → (∀ p ∈ tb, p.1 < L') →
      wpAny (model prog w) (A.deeper (envOfC qual scope L' f cdv)) (execs body (envOfC qual scope L' f cdv))
        (fun fl s' => LeaveK h₀ L m g R (match fl with | .ret v => v | _ => .none) s')
        (fun e s' => wpAny (model prog w) (A.deeper (envOfC qual scope L' f cdv)) (leaving (envOfC qual scope L' f cdv) e) (fun _ s'' => R (.error e) s'') (fun e' s'' => R (.error e') s'') s')
        { s with heap := h₁, toks := tk })
    (hco : scope.isCoroutine = false) (hgen : scope.isGenerator = false) (hk : scope.kind = .function) : codeAny (model prog w) A (.call (.ref f) args) R s := by
  obtain ⟨FG, BG, st, lv⟩ := groundX (R := R) B F N hA hf hke
  refine codeAny_call_function hroom ((X₀.keeps F.keep) _ _ ho) rfl hco hgen rfl (codeRec_of (X₀.keeps F.keep) hcd) (hbind _ _ _ _ ?_)
  refine wpAny_newFunctionEnv_cells hk (kindsX hkind _) fun env' he s' x => ?_
  subst he
  refine ⟨(T.nolimit.keeps F.keep).keeps x.toInCall.keep, codeAny_func ?_⟩
  obtain ⟨h₁, tk, rfl, _⟩ := x.done
  have hk₁ := x.toInCall.keep
  obtain ⟨cells, NC, Y⟩ := Cl.news (h₀ := s.heap) (Nat.le_refl _) fun n c hm => ⟨x.cell n c (lookup_of_mem_nodup (cellsFrom_names scope.names 0 (s.heap.objs.size + 1) [] [] rfl ▸ hnd) hm), x.above n c hm⟩
  refine wpAny_mono (h _ s.heap.objs.size h₁ tk cells (fun b o hb e => hideAll_get _ e hb) (fun b o e => of_hideAll _ e) rfl ⟨x.toInCall.ns, fun b o e => hk₁ b o (of_hideAll _ e), Nat.le_of_eq (hideAll_size _ _)⟩ (fun p hp => ?_) Y BG (X₀.keeps st) (T.keeps st) (fun p hp => Heap.lt_size (N p hp).1)) (fun fl s' hl => lv _ _ hl) fun _ _ y => y
  rcases List.mem_append.mp hp with hp | hp
  · refine ⟨(NC p hp).1, (NC p hp).2.1, ?_⟩
    cases q : (hideAll s.heap (tb.map (·.1))).get? p.1 with
    | none => rfl
    | some o => have := of_hideAll _ q; rw [(NC p hp).2.2] at this; cases this
  · exact ⟨hk₁ _ _ (N p hp).1, Nat.ne_of_lt (Heap.lt_size (N p hp).1), hideAll_none _ (List.mem_map_of_mem hp)⟩
end

/-- what is new -/
def Fresh (h h' : Heap) (res : List (Addr × Obj)) : Prop := ∀ p ∈ res, h'.get? p.1 = some p.2 ∧ h.objs.size ≤ p.1

/-- a contract: the call only makes objects -/
def Pure (prog : Program) (w : World) (f : Addr) (vs : List Value) (d : Nat) (Pre : Heap → Prop) (Post : Heap → List (Addr × Obj) → Value → Prop) : Prop :=
  ∀ (p : Program) (loose : List Str) (mean : ExcName → Option Value) (mg mb : Str → Option Value) (dp un : Nat) (gd : Option (List Code)) (cn : Str) (cs : Scope) (a : Addr) (ccd : Value) (cl : List (Str × Addr)) (outer : List Env) (A₀ : Around) (base h₀ : Heap) (L : Addr) (m : Str → Option Value) (s : Shared)
    (Q E : Value → Shared → Prop),
    Below A₀ base outer h₀ → Fr h₀ L s.heap m → (hd.heap_1 w.params).In h₀ → Top p loose mean mg mb h₀ → cs.kind = .function → dp + d < recursionLimit → un + 8 * d < cLine → Pre s.heap →
    (∀ r h' tk' res, Stay s.heap h' → Fresh s.heap h' res → Post h' res r → Q r { s with heap := h', toks := tk' }) →
    wpAny (model prog w) (ktrTop dp un gd cn cs L a ccd cl outer) (call (.ref f) vs) Q E s

theorem fr_stay {h₀ h h' : Heap} {L : Addr} {m : Str → Option Value} (F : Fr h₀ L h m) (x : Stay h h') : Fr h₀ L h' m :=
  ⟨F.ns.keeps x, fun b o e => x b o (F.keep b o e), F.above⟩
theorem news_stay {h₀ h h' : Heap} {L : Addr} {m : Str → Option Value} {news res : List (Addr × Obj)} (F : Fr h₀ L h m) (N : News h₀ L h news) (x : Stay h h') (y : Fresh h h' res) : News h₀ L h' (res ++ news) := fun p hp => by
  rcases List.mem_append.mp hp with hp | hp
  · refine ⟨(y p hp).1, Nat.ne_of_gt (Nat.lt_of_lt_of_le F.ns.lt (y p hp).2), ?_⟩
    cases q : h₀.get? p.1 with
    | none => rfl
    | some o => exact absurd (Heap.lt_size (F.keep _ _ q)) (Nat.not_lt.mpr (y p hp).2)
  · exact ⟨x _ _ (N p hp).1, (N p hp).2⟩
theorem fresh_lt {h₀ h h' : Heap} {L : Addr} {news res : List (Addr × Obj)} (N : News h₀ L h news) (y : Fresh h h' res) : ∀ q ∈ res, ∀ p ∈ news, p.1 < q.1 := fun q hq p hp =>
  Nat.lt_of_lt_of_le (Heap.lt_size (N p hp).1) (y q hq).2

section
variable {prog : Program} {w : World} {f : Addr} {vs : List Value} {d : Nat} {Pre : Heap → Prop} {Post : Heap → List (Addr × Obj) → Value → Prop}
  {p : Program} {loose : List Str} {mean : ExcName → Option Value} {mg mb : Str → Option Value} {dp un : Nat} {gd : Option (List Code)} {cn : Str} {cs : Scope} {a : Addr} {ccd : Value} {cl : List (Str × Addr)} {outer : List Env} {A₀ : Around} {base h₀ : Heap} {L : Addr} {m : Str → Option Value} {s : Shared} {news : List (Addr × Obj)}
    {Q E : Value → Shared → Prop}
theorem Pure.use (C : Pure prog w f vs d Pre Post) (B : Below A₀ base outer h₀) (F : Fr h₀ L s.heap m) (X : (hd.heap_1 w.params).In h₀) (N : News h₀ L s.heap news) (T : Top p loose mean mg mb h₀) (hk : cs.kind = .function) (hd : dp + d < recursionLimit) (hu : un + 8 * d < cLine) (hp : Pre s.heap)
    (ret : ∀ r h' tk' res, Stay s.heap h' → Fr h₀ L h' m → News h₀ L h' (res ++ news) → (∀ q ∈ res, ∀ p ∈ news, p.1 < q.1) → Post h' res r → Q r { s with heap := h', toks := tk' }) :
    wpAny (model prog w) (ktrTop dp un gd cn cs L a ccd cl outer) (call (.ref f) vs) Q E s :=
  C _ _ _ _ _ _ _ _ _ _ _ _ _ _ _ _ _ _ _ _ _ _ B F X T hk hd hu hp fun r h' tk' res st fr po => ret r h' tk' res st (fr_stay F st) (news_stay F N st fr) (fresh_lt N fr) po
end
theorem mul_len (x : Str) (k : Int) : (Txt.mul x k).length = x.length * k.toNat := by
  have h := len_mul x k
  by_cases q : k < 0
  · rw [if_pos (decide_eq_true q)] at h
    have : k.toNat = 0 := by omega
    rw [this]; omega
  · rw [if_neg (by simpa using q)] at h
    have e : (k.toNat : Int) = k := Int.toNat_of_nonneg (by omega)
    rw [← e, ← Int.natCast_mul] at h
    have h2 := Int.ofNat.inj h
    rw [e] at h2
    exact h2
theorem mul_blank (k : Int) : Txt.mul (Str.ofString " ") k = ⟨(List.replicate k.toNat 32).toArray⟩ := by
  show (if k < 1 then Str.empty else if (k == 1 || (Str.ofString " ").length == 0) = true then (Str.ofString " ") else ⟨(List.replicate k.toNat (Str.ofString " ").cps).foldl (· ++ ·) #[]⟩) = _
  by_cases h : k < 1
  · rw [if_pos h, show k.toNat = 0 by omega]; rfl
  · rw [if_neg h]
    by_cases h1 : k = 1
    · subst h1; rfl
    · rw [if_neg (by simp [h1]; decide)]
      have gen : ∀ (n : Nat) (acc : List Nat), (List.replicate n (Str.ofString " ").cps).foldl (· ++ ·) acc.toArray = (acc ++ List.replicate n 32).toArray := by
        intro n
        induction n with
        | zero => intro acc; simp
        | succ n ih => intro acc; rw [List.replicate_succ, List.foldl_cons]; have := ih (acc ++ [32]); rw [show (acc.toArray ++ (Str.ofString " ").cps) = (acc ++ [32]).toArray from by rw [show (Str.ofString " ").cps = #[32] from rfl]; simp]; rw [this, List.replicate_succ]; simp
      have := gen k.toNat []
      simp only [List.nil_append] at this
      rw [← this]
def runsOf (x : Int) : List Nat := [(x % 4116).toNat % 7, (x % 4116).toNat / 7 % 7, (x % 4116).toNat / 49 % 7].take (1 + (x % 4116).toNat / 343 % 3)
def blanksOf (x : Int) : Nat := (x % 4116).toNat / 1029
def codesOf (rs : List Nat) (k : Nat) : List Nat := rs.flatMap (fun r => List.replicate r 32 ++ [9]) ++ List.replicate k 32
def text (l : List Nat) : Str := ⟨l.toArray⟩
def leadText (x : Int) : Str := text (codesOf (runsOf x) (blanksOf x))
theorem text_append (a b : List Nat) : text a ++ text b = text (a ++ b) := Str.ext' (by simp [text, Str.cps_append])
theorem join_1 (a : Str) : Txt.join (Str.ofString "") [a] = a := by rw [Txt.join, StrLaws.glued_eq_join]; rfl
theorem join_2 (a b : Str) : Txt.join (Str.ofString "") [a, b] = a ++ b := by rw [Txt.join, StrLaws.glued_eq_join]; show a ++ Str.ofString "" ++ b = _; exact congrArg (· ++ b) (Str.append_empty a)
theorem join_3 (a b c : Str) : Txt.join (Str.ofString "") [a, b, c] = a ++ (b ++ c) := by
  rw [Txt.join, StrLaws.glued_eq_join]; show a ++ Str.ofString "" ++ (b ++ Str.ofString "" ++ c) = _
  rw [show a ++ Str.ofString "" = a from Str.append_empty a, show b ++ Str.ofString "" = b from Str.append_empty b]
theorem stay_of {h g h' : Heap} {L' : Addr} {m' : Str → Option Value} (hg : ∀ b o, b ∉ ([] : List (Addr × Obj)).map (·.1) → h.get? b = some o → g.get? b = some o) (F : Fr g L' h' m') : Stay h h' :=
  fun b o e => F.keep b o (hg b o (fun q => nomatch q) e)
theorem fm (s k : Nat) : ((s : Int).fmod (k : Int)) = ((s % k : Nat) : Int) := by
  rw [Int.fmod_eq_emod_of_nonneg _ (by omega)]; rfl
theorem fd (s k : Nat) : ((s : Int).fdiv (k : Int)) = ((s / k : Nat) : Int) := by
  rw [Int.fdiv_eq_ediv_of_nonneg _ (by omega)]; rfl
theorem spare_is (x : Int) : x.fmod 4116 = (((x % 4116).toNat : Nat) : Int) := by
  rw [Int.fmod_eq_emod_of_nonneg _ (by decide)]; omega
theorem tab_text : Str.ofString "\t" = text [9] := rfl
theorem blank_text (k : Int) : Txt.mul (Str.ofString " ") k = text (List.replicate k.toNat 32) := mul_blank k
theorem ints1 {ws : List Value} {a : Int} (h : IntsAre ws [a]) : ∃ t, ws = [.int a t] := by
  cases h with | cons _ t h1 => cases h1; exact ⟨t, rfl⟩
theorem ints2 {ws : List Value} {a b : Int} (h : IntsAre ws [a, b]) : ∃ t u, ws = [.int a t, .int b u] := by
  cases h with | cons _ t h1 => obtain ⟨u, rfl⟩ := ints1 h1; exact ⟨t, u, rfl⟩
theorem ints3 {ws : List Value} {a b c : Int} (h : IntsAre ws [a, b, c]) : ∃ t u v, ws = [.int a t, .int b u, .int c v] := by
  cases h with | cons _ t h1 => obtain ⟨u, v, rfl⟩ := ints2 h1; exact ⟨t, u, v, rfl⟩
theorem take3 (y : Int) (a b c : Int) : (List.take (1 + y.fmod 3).toNat [a, b, c] = [a] ∧ y.fmod 3 = 0) ∨ (List.take (1 + y.fmod 3).toNat [a, b, c] = [a, b] ∧ y.fmod 3 = 1) ∨ (List.take (1 + y.fmod 3).toNat [a, b, c] = [a, b, c] ∧ y.fmod 3 = 2) := by
  have h0 : 0 ≤ y.fmod 3 := Int.fmod_nonneg_of_pos y (by decide)
  have h1 : y.fmod 3 < 3 := Int.fmod_lt_of_pos y (by decide)
  generalize y.fmod 3 = q at *
  have : q = 0 ∨ q = 1 ∨ q = 2 := by omega
  rcases this with rfl | rfl | rfl <;> simp

theorem lead_eq (x : Int) (k : Nat) (h : ((x.fmod 4116).fdiv 343).fmod 3 = (k : Int)) :
    (runsOf x = [(x % 4116).toNat % 7, (x % 4116).toNat / 7 % 7, (x % 4116).toNat / 49 % 7].take (1 + k)) ∧ (((x.fmod 4116).fmod 7).toNat = (x % 4116).toNat % 7) ∧ ((((x.fmod 4116).fdiv 7).fmod 7).toNat = (x % 4116).toNat / 7 % 7) ∧ ((((x.fmod 4116).fdiv 49).fmod 7).toNat = (x % 4116).toNat / 49 % 7) ∧ (((x.fmod 4116).fdiv 1029).toNat = (x % 4116).toNat / 1029) := by
  rw [spare_is] at h ⊢
  unfold runsOf
  generalize (x % 4116).toNat = s at h ⊢
  have g1 := fd s 343; have g2 := fm (s / 343) 3
  have a1 := fm s 7
  have a2 := fd s 7; have a3 := fm (s / 7) 7
  have a4 := fd s 49; have a5 := fm (s / 49) 7
  have a6 := fd s 1029
  norm_cast at *
  rw [g1, g2] at h
  rw [a1, a2, a3, a4, a5, a6]
  have : s / 343 % 3 = k := by exact_mod_cast h
  refine ⟨by rw [this], ?_, ?_, ?_, ?_⟩ <;> rfl
theorem lead_1 (x : Int) (h : ((x.fmod 4116).fdiv 343).fmod 3 = 0) : Txt.join (Str.ofString "") [Txt.mul (Str.ofString " ") ((x.fmod 4116).fmod 7) ++ Str.ofString "\t"] ++ Txt.mul (Str.ofString " ") ((x.fmod 4116).fdiv 1029) = leadText x := by
  obtain ⟨h1, h2, h3, h4, h5⟩ := lead_eq x 0 h
  unfold leadText codesOf blanksOf
  rw [h1]
  simp only [join_1, join_2, join_3, tab_text, blank_text, text_append, h2, h3, h4, h5]
  simp
theorem lead_2 (x : Int) (h : ((x.fmod 4116).fdiv 343).fmod 3 = 1) : Txt.join (Str.ofString "") [Txt.mul (Str.ofString " ") ((x.fmod 4116).fmod 7) ++ Str.ofString "\t", Txt.mul (Str.ofString " ") (((x.fmod 4116).fdiv 7).fmod 7) ++ Str.ofString "\t"] ++ Txt.mul (Str.ofString " ") ((x.fmod 4116).fdiv 1029) = leadText x := by
  obtain ⟨h1, h2, h3, h4, h5⟩ := lead_eq x 1 h
  unfold leadText codesOf blanksOf
  rw [h1]
  simp only [join_1, join_2, join_3, tab_text, blank_text, text_append, h2, h3, h4, h5]
  simp
theorem lead_3 (x : Int) (h : ((x.fmod 4116).fdiv 343).fmod 3 = 2) : Txt.join (Str.ofString "") [Txt.mul (Str.ofString " ") ((x.fmod 4116).fmod 7) ++ Str.ofString "\t", Txt.mul (Str.ofString " ") (((x.fmod 4116).fdiv 7).fmod 7) ++ Str.ofString "\t", Txt.mul (Str.ofString " ") (((x.fmod 4116).fdiv 49).fmod 7) ++ Str.ofString "\t"] ++ Txt.mul (Str.ofString " ") ((x.fmod 4116).fdiv 1029) = leadText x := by
  obtain ⟨h1, h2, h3, h4, h5⟩ := lead_eq x 2 h
  unfold leadText codesOf blanksOf
  rw [h1]
  simp only [join_1, join_2, join_3, tab_text, blank_text, text_append, h2, h3, h4, h5]
  simp
abbrev ent (w : World) (k : String) (t : Tok) (v : Value) : DictEntry := { hash := PyData.keyHash w.params (Str.ofString k), key := .str (Str.ofString k) t, val := v }

/-- one sign of _law_walk: column, begun, wide, stops -/
def wkStep (n : Nat) (st : Int × Int × List Int × List Int) (ch : Nat) : Int × Int × List Int × List Int :=
  if ch = 32 then (st.1 + 1, st.2.1, st.2.2.1, st.2.2.2) else
    (st.1 + ((n : Int) - st.1.fmod n), st.1 + ((n : Int) - st.1.fmod n),
     st.2.2.1.take ((n : Int) - st.1.fmod n - 1).toNat ++ [st.2.2.1.getD ((n : Int) - st.1.fmod n - 1).toNat 0 + 1] ++ st.2.2.1.drop ((n : Int) - st.1.fmod n).toNat,
     st.2.2.2 ++ List.foldl (fun l' k' => if k'.fmod (n : Int) = 0 then l' ++ [st.1 - k'] else l') [] (rangeKs (st.2.1 + 1) (st.1 + 1 - (st.2.1 + 1)).toNat))
def wkAll (n : Nat) (l : List Nat) : Int × Int × List Int × List Int := l.foldl (wkStep n) (0, 0, List.replicate n 0, [])
def WInv (n i : Nat) (st : Int × Int × List Int × List Int) : Prop := 0 ≤ st.2.1 ∧ st.2.1 ≤ st.1 ∧ st.1 ≤ 6 * i ∧ st.2.2.1.length = n ∧ st.2.2.2.length ≤ st.2.1.toNat
theorem wk_succ {n i ch : Nat} {l : List Nat} (h : l[i]? = some ch) : wkAll n (l.take (i + 1)) = wkStep n (wkAll n (l.take i)) ch := by
  unfold wkAll
  rw [List.take_add_one, h, List.foldl_append]; rfl
theorem gather_len (p : Int → Prop) [DecidablePred p] (f : Int → Int) : ∀ (xs acc : List Int), (xs.foldl (fun l k => if p k then l ++ [f k] else l) acc).length ≤ acc.length + xs.length
  | [], acc => Nat.le_refl _
  | x :: xs, acc => by
    rw [List.foldl_cons]
    refine Nat.le_trans (gather_len p f xs _) ?_
    split <;> simp only [List.length_append, List.length_cons, List.length_nil] <;> omega
theorem winv_zero {n : Nat} : WInv n 0 (0, 0, List.replicate n 0, []) := ⟨Int.le_refl _, Int.le_refl _, by simp, by simp, by simp⟩
theorem winv_step {n i ch : Nat} {st : Int × Int × List Int × List Int} (hn : 1 ≤ n ∧ n ≤ 6) (h : WInv n i st) : WInv n (i + 1) (wkStep n st ch) := by
  obtain ⟨c, b, ws, ss⟩ := st
  obtain ⟨i1, i2, i3, i4, i5⟩ := h
  dsimp only at i1 i2 i3 i4 i5
  have hb1 : 0 ≤ c.fmod n := Int.fmod_nonneg_of_pos _ (by omega)
  have hb2 : c.fmod n < n := Int.fmod_lt_of_pos _ (by omega)
  have hg := gather_len (fun k' => k'.fmod (n : Int) = 0) (fun k' => c - k') (rangeKs (b + 1) (c + 1 - (b + 1)).toNat) []
  rw [rangeKs_length] at hg
  simp only [List.length_nil] at hg
  unfold wkStep
  split
  · exact ⟨i1, by dsimp only; omega, by dsimp only; omega, i4, i5⟩
  · refine ⟨by dsimp only; omega, by dsimp only; omega, by dsimp only; omega, ?_, ?_⟩
    · dsimp only
      simp only [List.length_append, List.length_take, List.length_drop, List.length_cons, List.length_nil]
      omega
    · dsimp only
      rw [List.length_append]
      omega
theorem flat_rep : ∀ n : Nat, (List.replicate n [(0 : Int)]).flatten = List.replicate n 0
  | 0 => rfl
  | n + 1 => by rw [List.replicate_succ, List.flatten_cons, flat_rep n]; rfl
theorem rep_ints {vs : List Value} {n : Nat} (h : IntsAre vs (List.replicate ((n : Int)).toNat [(0 : Int)]).flatten) : IntsAre vs (List.replicate n 0) := by
  rw [Int.toNat_natCast, flat_rep] at h; exact h
theorem blank_is {ch : Nat} (h : ((⟨#[ch]⟩ : Str) == Str.ofString " ") = true) : ch = 32 := by
  have := congrArg (fun s : Str => s.cps.toList) (eq_of_beq h)
  have e : (Str.ofString " ").cps.toList = [32] := rfl
  rw [e] at this
  simpa using this
theorem blank_not {ch : Nat} (h : ((⟨#[ch]⟩ : Str) == Str.ofString " ") = false) : ¬ ch = 32 := by
  rintro rfl
  exact absurd h (by decide)

/-- one sign of Whitespace's scan: count, b, n, nt -/
def whGrow (cs : List Int) (b : Int) : List Int := if (cs.length : Int) ≤ b then cs ++ List.replicate (b - cs.length + 1).toNat 0 else cs
def whStep (st : List Int × Int × Int × Int) (ch : Nat) : List Int × Int × Int × Int :=
  if ch = 32 then (st.1, st.2.1 + 1, st.2.2.1 + 1, st.2.2.2) else
    ((whGrow st.1 st.2.1).set st.2.1.toNat ((whGrow st.1 st.2.1).getD st.2.1.toNat 0 + 1), 0, st.2.2.1 + 1, st.2.2.2 + 1)
def whAll (l : List Nat) : List Int × Int × Int × Int := l.foldl whStep ([], 0, 0, 0)
def HInv (i : Nat) (st : List Int × Int × Int × Int) : Prop := st.1.length ≤ i ∧ 0 ≤ st.2.1 ∧ st.2.1 ≤ i
theorem wh_succ {i ch : Nat} {l : List Nat} (h : l[i]? = some ch) : whAll (l.take (i + 1)) = whStep (whAll (l.take i)) ch := by
  unfold whAll
  rw [List.take_add_one, h, List.foldl_append]; rfl
theorem hinv_step {i ch : Nat} {st : List Int × Int × Int × Int} (h : HInv i st) : HInv (i + 1) (whStep st ch) := by
  obtain ⟨cs, b, n, nt⟩ := st
  obtain ⟨h1, h2, h3⟩ := h
  dsimp only at h1 h2 h3
  unfold whStep
  split
  · exact ⟨by dsimp only; omega, by dsimp only; omega, by dsimp only; omega⟩
  · refine ⟨?_, by dsimp only; omega, by dsimp only; omega⟩
    dsimp only
    rw [List.length_set]
    unfold whGrow
    split
    · rw [List.length_append, List.length_replicate]; omega
    · omega
theorem up1 (n : Nat) : n < n + 1 := by omega
theorem up2 (n : Nat) : n < n + 1 + 1 := by omega
theorem up3 (n : Nat) : n < n + 1 + 1 + 1 := by omega
theorem up4 (n : Nat) : n < n + 1 + 1 + 1 + 1 := by omega
theorem up5 (n : Nat) : n < n + 1 + 1 + 1 + 1 + 1 := by omega

section
variable {prog : Program} {w : World} {A : Around} {E : Value → Shared → Prop} {s : Shared} {env : Env} {h₀ : Heap} {x : Str} {body : List Stmt} {Q : Flow → Shared → Prop}

/-- a turn's end: the frame and some ledger for which the word holds; the iterator as it was -/
def LEnd (h₀ : Heap) (L : Addr) (J : (Str → Option Value) → List (Addr × Obj) → Prop) (I : Addr) (oI : Obj) (s₁ s₂ : Shared) : Prop :=
  ∃ h' tk m' news' nx, s₂ = { s₁ with heap := h', toks := tk } ∧ Fr h₀ L h' m' ∧ News h₀ L h' news' ∧ (I, oI) ∈ news' ∧ (∀ p ∈ nx, p ∈ news') ∧ (∀ p ∈ nx, p.1 ≠ I) ∧ J m' nx
def LPost (h₀ : Heap) (L : Addr) (J : (Str → Option Value) → List (Addr × Obj) → Prop) (I : Addr) (oI : Obj) (s₁ : Shared) (Q : Flow → Shared → Prop) (f : Flow) (s₂ : Shared) : Prop :=
  match f with
  | .ret v => Q (.ret v) s₂
  | .brk => Q .next s₂
  | _ => LEnd h₀ L J I oI s₁ s₂
theorem LEnd.intro {L : Addr} {J : (Str → Option Value) → List (Addr × Obj) → Prop} {m' : Str → Option Value} {I : Addr} {oI : Obj} {news' nx : List (Addr × Obj)} {s₁ : Shared} {h' : Heap} {tk : Nat} (F : Fr h₀ L h' m') (N : News h₀ L h' news')
    (hi : (I, oI) ∈ news') (hn : ∀ p ∈ nx, p ∈ news') (ha : ∀ p ∈ nx, p.1 ≠ I) (hj : J m' nx) : LEnd h₀ L J I oI s₁ { s₁ with heap := h', toks := tk } := ⟨h', tk, m', news', nx, rfl, F, N, hi, hn, ha, hj⟩

theorem loop1 {I : Addr} {n : Nat} {P : Nat → Value → Prop} {St : Nat → Heap → Prop} {m₀ : Str → Option Value} {news : List (Addr × Obj)} (J : Nat → (Str → Option Value) → List (Addr × Obj) → Prop)
    (W : Walks prog w A I [I] [I] n P St) (hob : ∀ i h, St i h → ∃ o, h.get? I = some o) (hI0 : h₀.get? I = none) (hIL : env.locals ≠ I) (hnw : ∀ p ∈ news, p.1 ≠ I) (hst : St 0 s.heap)
    (F : Fr h₀ env.locals s.heap m₀) (N : News h₀ env.locals s.heap news) (hj : J 0 m₀ news)
    (turn : ∀ i v m₁ nx h tk oI, i < n → P i v → J i m₁ nx → (∀ p ∈ nx, p.1 ≠ I) → Fr h₀ env.locals h (fun y => if y = x then some v else m₁ y) → News h₀ env.locals h ((I, oI) :: nx) →
      wpAny (model prog w) A (execs body env) (LPost h₀ env.locals (J (i + 1)) I oI { s with heap := h, toks := tk } Q) E { s with heap := h, toks := tk })
    (done : ∀ m₁ nx h tk, J n m₁ nx → Fr h₀ env.locals h m₁ → News h₀ env.locals h nx → Q .next { s with heap := h, toks := tk }) :
    LoopAtV prog w A h₀ env x body Q E (.ref I) s := by
  refine ⟨I, [I], [I], n, P, St, m₀, news, J, rfl, W, fun h => hIL (List.mem_singleton.mp h), fun b hb => by rw [List.mem_singleton.mp hb]; exact hI0, fun p hp h => hnw p hp (List.mem_singleton.mp h), hst, F, N, hj, ?_, ?_⟩
  · rintro i v m₁ news₁ s₁ own ⟨hh', tk', rfl⟩ hin hP hJ hoff hown hget hall hst' F₁ N₁
    obtain ⟨o, ho⟩ := hob _ _ hst'
    have hio : (I, o) ∈ own := hall I (List.mem_singleton.mpr rfl) hI0 o ho
    have hone : ∀ p ∈ own, p = (I, o) := fun p hp => by
      have e1 : p.1 = I := List.mem_singleton.mp (hown p hp)
      have e2 := hget p hp
      rw [e1] at e2
      exact Prod.ext e1 (Option.some.inj (e2.symm.trans ho))
    refine wpAny_mono (turn i v m₁ news₁ hh' tk' o hin hP hJ (fun p hp q => hoff p hp (List.mem_singleton.mpr q)) F₁ (news_one hio N₁)) (fun f s₂ p => ?_) fun _ _ e => e
    have fin : LEnd h₀ env.locals (J (i + 1)) I o { s with heap := hh', toks := tk' } s₂ → LoopStepU h₀ env.locals [I] own (J (i + 1)) { s with heap := hh', toks := tk' } .next s₂ := by
      rintro ⟨h', tk, m', news', nx, e, F', N', hi, hn, ha, hm⟩
      refine ⟨rfl, h', tk, m', nx, e, F', fun p hp => ?_, fun p hp q => ha p hp (List.mem_singleton.mp q), hm⟩
      rcases List.mem_append.mp hp with h | h
      · rw [hone p h]; exact N' _ hi
      · exact N' p (hn p h)
    cases f with
    | ret v => exact .ret p
    | brk => exact .brk p
    | next => exact .next (fin p)
    | cont => exact .cont (fin p)
  · rintro h' tk m' news' F' N' _ hJ
    exact done m' news' h' tk hJ F' N'

theorem loop_text {xt : Str} {tx : Tok} {m₀ : Str → Option Value} {news : List (Addr × Obj)} (J : Nat → (Str → Option Value) → List (Addr × Obj) → Prop)
    (hh : A.handled = none) (F : Fr h₀ env.locals s.heap m₀) (N : News h₀ env.locals s.heap news) (hj : J 0 m₀ news)
    (turn : ∀ i c t m₁ nx h tk I oI, xt.cps[i]? = some c → J i m₁ nx → (∀ p ∈ nx, p.1 ≠ I) → Fr h₀ env.locals h (fun y => if y = x then some (.str ⟨#[c]⟩ t) else m₁ y) → News h₀ env.locals h ((I, oI) :: nx) →
      wpAny (model prog w) A (execs body env) (LPost h₀ env.locals (J (i + 1)) I oI { s with heap := h, toks := tk } Q) E { s with heap := h, toks := tk })
    (done : ∀ m₁ nx h tk, J xt.cps.size m₁ nx → Fr h₀ env.locals h m₁ → News h₀ env.locals h nx → Q .next { s with heap := h, toks := tk }) :
    wpAny (model prog w) A (pyIter (.str xt tx)) (fun it s₂ => LoopAtV prog w A h₀ env x body Q E it s₂) E s := by
  have key : ∀ (o : Obj) (St : Nat → Heap → Prop), Walks prog w A s.heap.objs.size [s.heap.objs.size] [s.heap.objs.size] xt.cps.size (SignAt xt) St → (∀ i h, St i h → ∃ o, h.get? s.heap.objs.size = some o) → St 0 (s.heap.push o) →
      LoopAtV prog w A h₀ env x body Q E (.ref s.heap.objs.size) { s with heap := s.heap.push o } := fun o St W hob hst =>
    loop1 J W hob (next_is_new F) (Nat.ne_of_lt F.ns.lt) (fun p hp => Nat.ne_of_lt (Heap.lt_size (N p hp).1)) hst (F.push _) (fun p hp => ⟨Heap.get?_push_of_some _ (N p hp).1, (N p hp).2⟩) hj
      (fun i v m₁ nx h tk oI hi hP hJ hne F₁ N₁ => by
        obtain ⟨c, u, hc, rfl⟩ := hP
        exact turn i c u m₁ nx h tk _ oI hc hJ hne F₁ N₁) done
  cases ha : xt.cps.all (· < 128)
  · exact wpAny_pyIter_wide ha (key _ _ (Walks.strWide hh _ xt tx) (fun _ _ hs => let ⟨o, e, _⟩ := hs; ⟨o, e⟩) ⟨_, Heap.get?_push_size _ rfl, rfl, rfl⟩)
  · exact wpAny_pyIter_ascii ha (key _ _ (Walks.strAscii hh _ xt tx) (fun _ _ hs => let ⟨o, e, _⟩ := hs; ⟨o, e⟩) ⟨_, Heap.get?_push_size _ rfl, rfl, rfl⟩)

theorem loop_range {r : Addr} {a₀ b₀ : Int} {t₀ u₀ v₀ : Tok} {n : Nat} {m₀ : Str → Option Value} {news : List (Addr × Obj)} (J : Nat → (Str → Option Value) → List (Addr × Obj) → Prop)
    (hh : A.handled = none) (hr : IsRange s.heap r a₀ b₀ 1 t₀ u₀ v₀) (hsmall : Builtin.Range.small a₀ b₀ 1 = true) (hn : Builtin.Range.rangeSize a₀ b₀ 1 = (n : Int)) (F : Fr h₀ env.locals s.heap m₀) (N : News h₀ env.locals s.heap news) (hj : J 0 m₀ news)
    (turn : ∀ i t m₁ nx h tk I oI, i < n → J i m₁ nx → (∀ p ∈ nx, p.1 ≠ I) → Fr h₀ env.locals h (fun y => if y = x then some (.int (a₀ + (i : Int)) t) else m₁ y) → News h₀ env.locals h ((I, oI) :: nx) →
      wpAny (model prog w) A (execs body env) (LPost h₀ env.locals (J (i + 1)) I oI { s with heap := h, toks := tk } Q) E { s with heap := h, toks := tk })
    (done : ∀ m₁ nx h tk, J n m₁ nx → Fr h₀ env.locals h m₁ → News h₀ env.locals h nx → Q .next { s with heap := h, toks := tk }) :
    wpAny (model prog w) A (pyIter (.ref r)) (fun it s₂ => LoopAtV prog w A h₀ env x body Q E it s₂) E s := by
  refine wpAny_pyIter_range hr hsmall ?_
  have W : Walks prog w A s.heap.objs.size [s.heap.objs.size] [s.heap.objs.size] n (fun i v => ∃ t, v = .int (a₀ + i * 1) t)
      (fun i h => IsRangeIter h s.heap.objs.size (a₀ + (i : Nat) * 1) ((n : Int) - (i : Nat)) 1) := Walks.range hh _ a₀ 1 n
  refine loop1 J W (fun i h hs => ⟨_, hs⟩) (next_is_new F) (Nat.ne_of_lt F.ns.lt) (fun p hp => Nat.ne_of_lt (Heap.lt_size (N p hp).1)) (by show IsRangeIter _ _ _ _ _; rw [hn]; simpa using Heap.get?_push_size _ rfl) (F.push _) (fun p hp => ⟨Heap.get?_push_of_some _ (N p hp).1, (N p hp).2⟩) hj ?_ done
  intro i v m₁ nx h tk oI hi hP hJ hne F₁ N₁
  obtain ⟨t, rfl⟩ := hP
  rw [Int.mul_one] at F₁
  exact turn i t m₁ nx h tk _ oI hi hJ hne F₁ N₁
end
/-- a frame whose map is said at some names -/
theorem fr_lit {h₀ h : Heap} {L : Addr} {m : Str → Option Value} (ps : List (Str × Value)) (h1 : ∀ p ∈ ps, m p.1 = some p.2) (F : Fr h₀ L h m) : Fr h₀ L h (kstB m ps) := by
  have e : kstB m ps = m := funext fun z => kstB_eq h1 fun _ => rfl
  rw [e]; exact F
theorem news_of {h₀ h : Heap} {L : Addr} {a b : List (Addr × Obj)} (N : News h₀ L h a) (hs : ∀ p ∈ b, p ∈ a) : News h₀ L h b := fun p hp => N p (hs p hp)
theorem news_in {h₀ h : Heap} {L : Addr} {q : Addr × Obj} {a b : List (Addr × Obj)} (N : News h₀ L h (q :: a)) (hs : ∀ p ∈ b, p ∈ a) : News h₀ L h (q :: b) := fun p hp => by
  rcases List.mem_cons.mp hp with rfl | hp
  · exact N _ (.head _)
  · exact N p (.tail _ (hs p hp))
theorem ne_in {I : Addr} {a b : List (Addr × Obj)} (N : ∀ p ∈ a, p.1 ≠ I) (hs : ∀ p ∈ b, p ∈ a) : ∀ p ∈ b, p.1 ≠ I := fun p hp => N p (hs p hp)
theorem ints_snoc {us : List Value} {ns : List Int} {n : Int} {t : Tok} (h : IntsAre us ns) : IntsAre (us ++ [.int n t]) (ns ++ [n]) := by
  induction h with
  | nil => exact .cons _ _ .nil
  | cons a b _ ih => exact .cons _ _ ih
theorem ints_app {us vs : List Value} {ns ms : List Int} (h : IntsAre us ns) (h' : IntsAre vs ms) : IntsAre (us ++ vs) (ns ++ ms) := by
  induction h with
  | nil => exact h'
  | cons a b _ ih => exact .cons _ _ ih
theorem compEnd_mono {h₀ : Heap} {L : Addr} {m : Str → Option Value} {s₁ : Shared} {I : Addr} {oI : Obj} {C : Addr} {oC : Obj} {D : Addr} {oD : Obj} {S : List (Addr × Obj) → Prop} {r r' : Value → List (Addr × Obj) → Prop} {y : Value} {s₂ : Shared}
    (x : LCg.CompEnd h₀ L m s₁ I oI C oC D oD S r y s₂) (k : ∀ n, r y n → r' y n) : LCg.CompEnd h₀ L m s₁ I oI C oC D oD S r' y s₂ := by
  obtain ⟨h', tk, news', e, F, N, off, hS, q⟩ := x
  exact ⟨h', tk, news', e, F, N, off, hS, k _ q⟩
section
variable {prog : Program} {w : World} {A : Around} {E : Value → Shared → Prop} {s : Shared} {h₀ : Heap} {L : Addr} {m : Str → Option Value} {env : Env}
/-- a comprehension with a test, of ints: what is gathered so far is g -/
theorem compT_ints {ct elt : Expr} {x : Str} {scope : Scope} {cl : List (Str × Addr)} {S : List (Addr × Obj) → Prop} {P : Nat → Value → Prop} {Fin : List Value → List (Addr × Obj) → Prop} {n : Nat} {news : List (Addr × Obj)}
    (g : Nat → List Int) (c : Nat → Bool) (f : Nat → Int) (h0 : g 0 = []) (hs : ∀ i, i < n → g (i + 1) = if c i = true then g i ++ [f i] else g i)
    (turn : ∀ i v ys I oI C oC D m₂ h tk (E' : Value → Shared → Prop), i < n → P i v → LCg.NsObj oC m₂ → m₂ x = some v → Fr h₀ L h m → News h₀ L h ((I, oI) :: (C, oC) :: (D, LCg.lst ys) :: news) → LCg.Off3 I C D news → ((@Ne Nat I C) ∧ (@Ne Nat I D) ∧ (@Ne Nat C D)) →
      wpAny (model prog w) A (isTrue ct (compEnvC scope cl C env) (eval ct (compEnvC scope cl C env))) (fun ok s' => if ok = true then
        wpAny (model prog w) A (eval elt (compEnvC scope cl C env)) (LCg.CompEnd h₀ L m { s with heap := h, toks := tk } I oI C oC D (LCg.lst ys) S (fun y news' => c i = true ∧ news' = news ∧ ∃ t, y = .int (f i) t)) E' s'
        else LCg.CompEnd h₀ L m { s with heap := h, toks := tk } I oI C oC D (LCg.lst ys) S (fun _ news' => c i = false ∧ news' = news) Value.none s') E' { s with heap := h, toks := tk })
    (fin : ∀ ys, IntsAre ys (g n) → Fin ys news) : LCt.CompRestT prog w A h₀ L m env ct elt x scope cl s S P Fin n 0 [] news := by
  have all : ∀ k i ys, i + k = n → IntsAre ys (g i) → LCt.CompRestT prog w A h₀ L m env ct elt x scope cl s S P Fin k i ys news := by
    intro k
    induction k with
    | zero =>
      intro i ys e hi
      have : i = n := by omega
      subst this
      exact fin ys hi
    | succ k ih =>
      intro i ys e hi
      refine LCt.CompRestT.succ fun v I oI C oC D m₂ h tk E' hP hC hx F N off ne => ?_
      refine wpAny_mono (turn i v ys I oI C oC D m₂ h tk E' (by omega) hP hC hx F N off ne) (fun ok s' hk => ?_) fun _ _ e => e
      have hg := hs i (by omega)
      cases ok with
      | true =>
        simp only [if_true] at hk ⊢
        refine wpAny_mono hk (fun y s₂ hy => compEnd_mono hy ?_) fun _ _ e => e
        rintro nn ⟨hc, rfl, t, rfl⟩
        refine ih (i + 1) _ (by omega) ?_
        rw [hg, if_pos hc]
        exact ints_snoc hi
      | false =>
        simp only [Bool.false_eq_true, if_false] at hk ⊢
        refine compEnd_mono hk ?_
        rintro nn ⟨hc, rfl⟩
        refine ih (i + 1) _ (by omega) ?_
        rw [hg, if_neg (by rw [hc]; exact Bool.false_ne_true)]
        exact hi
  exact all n 0 [] (by omega) (h0 ▸ .nil)
end
def AllNe (d : Nat) : List (Addr × Obj) → Prop
  | [] => True
  | p :: r => @Ne Nat p.1 d ∧ AllNe d r
theorem allNe_of {d : Addr} : ∀ {l : List (Addr × Obj)}, (∀ p ∈ l, p.1 ≠ d) → AllNe d l
  | [], _ => trivial
  | p :: _, h => ⟨h p (.head _), allNe_of fun q hq => h q (.tail _ hq)⟩
section
variable {prog : Program} {w : World} {A : Around} {E : Value → Shared → Prop} {s : Shared}
theorem item_ints {value slice : PySem.Expr} {l : Addr} {vs : List Value} {ns : List Int} {k : Int} {u : Tok} {Q : Value → Shared → Prop}
    (hl : s.heap.IsList l vs.toArray) (hi : IntsAre vs ns) (h0 : 0 ≤ k) (h1 : k < ns.length) (h2 : k < 2 ^ 63) (h : ∀ t, Q (.int (ns.getD k.toNat 0) t) s)
    (hs : subscripted slice false (.ref l) (.int k u) = operate [.ref l, .int k u] (getItem (.ref l) (.int k u))) :
    wpAny (model prog w) A (subscriptTail value slice (.ref l) (.int k u)) Q E s := by
  have hk : k.toNat < ns.length := by omega
  obtain ⟨t, hx⟩ := hi.get k.toNat ns[k.toNat] (by simp [hk])
  have e : ns.getD k.toNat 0 = ns[k.toNat] := by simp [List.getD, hk]
  exact tail_any hl.typeIs slot_list_getitem.lookup (wpAny_getItem_list hl h0 h2 (by simpa using hx) (e ▸ h t)) hs
end
theorem ne_news {h₀ h : Heap} {L a b : Addr} {news : List (Addr × Obj)} {oa ob : Obj} (N : News h₀ L h news) (ha : (a, oa) ∈ news) (hb : (b, ob) ∈ news) (hc : oa.cls ≠ ob.cls) : @Ne Nat a b := by
  rintro rfl
  have := (N _ ha).1.symm.trans (N _ hb).1
  cases this
  exact hc rfl
theorem ne_newsT {h₀ h : Heap} {L a b : Addr} {news : List (Addr × Obj)} {oa ob : Obj} {ca cb : String} (N : News h₀ L h news) (ha : (a, oa) ∈ news) (hb : (b, ob) ∈ news) (h1 : oa.cls = .type ca) (h2 : ob.cls = .type cb) (hc : (ca == cb) = false) : @Ne Nat a b :=
  ne_news N ha hb fun e => by
    rw [h1, h2] at e
    cases e
    simp at hc
abbrev tupObj (vs : Array Value) : Obj := { cls := .type "tuple", data := .seq vs }
/-- what an object of Whitespace is, made of l and an x behind it -/
inductive WhiteRes (w : World) (l : List Nat) (x d tn tc : Addr) (vc : List Value) (res : List (Addr × Obj)) : Prop
  | mk (raw : Str) (u0 u1 u2 u3 u4 v0 v1 v2 vb : Tok) (h0 : IntsAre vc (whAll l).1) (h1 : res = [(x, instObj 154 d), (d, dictOf [ent w "raw" u0 (.str raw v0), ent w "n" u1 (.int (whAll l).2.2.1 v1), ent w "nt" u2 (.int (whAll l).2.2.2 v2), ent w "norm" u3 (.ref tn), ent w "is_simple" u4 (.bool (decide ((((whAll l).1.length : Nat) : Int) ≤ 1)))] 5), (tn, tupObj #[.ref tc, .int (whAll l).2.1 vb]), (tc, tupObj vc.toArray)])
inductive WhitePost (w : World) (l : List Nat) (_ : Heap) (res : List (Addr × Obj)) (r : Value) : Prop
  | mk (x d tn tc : Addr) (vc : List Value) (h0 : r = .ref x) (h1 : WhiteRes w l x d tn tc vc res)
theorem stay_of2 {h h' g hf : Heap} {L' x d : Addr} {ox od : Obj} {m' : Str → Option Value} (st : Stay h h') (hs : h.objs.size ≤ d) (hlt : @LT.lt Nat _ d x) (hg : ∀ b o, b ∉ ([(x, ox), (d, od)] : List (Addr × Obj)).map (·.1) → h'.get? b = some o → g.get? b = some o) (F : Fr g L' hf m') : Stay h hf := fun b o e => by
  refine F.keep b o (hg b o (fun q => ?_) (st b o e))
  have hb := Heap.lt_size e
  simp only [List.map_cons, List.map_nil, List.mem_cons, List.not_mem_nil, or_false] at q
  have hb' : @LT.lt Nat _ b h.objs.size := hb
  have hs' : @LE.le Nat _ h.objs.size d := hs
  rcases q with q | q
  · have q' : @Eq Nat b x := q
    omega
  · have q' : @Eq Nat b d := q
    omega
theorem call_clsE {prog : Program} {w : World} {A : Around} {E : Value → Shared → Prop} {s : Shared} {K : Frag} {C L : Addr} {h₀ : Heap} {m : Str → Option Value} {Q : Value → Shared → Prop} {pos : List Value} {kw : List (Str × Value)} {fI : Addr} (F : Fr h₀ L s.heap m) (X₀ : K.In h₀) (hm : makesIn K C = true) (hi : findIn K (.ref C) "__init__" = some (some (.ref fI))) (hf : isFn K (.ref fI) = true)
    (h : ∀ x dx h', Stay s.heap h' → s.heap.objs.size ≤ dx → Fr h₀ L h' m → News h₀ L h' [(x, instObj C dx), (dx, dictOf [] 0)] → dx < x →
      codeAny (model prog w) (A.under (.builtin "type.__call__" ⟨.ref C :: pos, kw⟩)) (.call (.ref fI) ⟨.ref x :: pos, kw⟩) (InitBack x fun r s' => match r with | .ok (.ret v) => Q v s' | .ok _ => False | .error e => E e s') { s with heap := h' }) :
    wpAny (model prog w) A (call (.ref C) pos kw) Q E s := by
  obtain ⟨hh, g, d, t, os⟩ := s
  have X := X₀.keeps F.keep
  have N : News h₀ L hh [] := fun _ hp => nomatch hp
  have N2 := (N.push F emptyDict).push (F.push _) (instObj C hh.objs.size)
  rw [Heap.size_push] at N2
  exact wpAny_call (make_core (makes_of X hm) (looks_findIn X hi) (fun self => bind_fn X self (beq_iff_eq.mp hf)) (.inl rfl)
    (h _ hh.objs.size _ (fun b o e => Heap.get?_push_of_some _ (Heap.get?_push_of_some _ e)) (Nat.le_refl _) ((F.push _).push _) N2 (Nat.lt_succ_self _)))
section
variable {prog : Program} {w : World} {A : Around} {E : Value → Shared → Prop} {s : Shared} {env : Env} {h₀ : Heap} {x : Str} {body : List Stmt} {Q : Flow → Shared → Prop}
/-- a loop down a list of the ledger -/
theorem loop_rev {ax I : Addr} {lo : Obj} {vs : List Value} {n : Nat} {m₀ : Str → Option Value} {news : List (Addr × Obj)} (J : Nat → (Str → Option Value) → List (Addr × Obj) → Prop)
    (hh : A.handled = none) (F : Fr h₀ env.locals s.heap m₀) (N : News h₀ env.locals s.heap ((I, revObj ax ((vs.length : Int) - 1)) :: news)) (hof : ∀ p ∈ news, p.1 ≠ I) (hm : (ax, lo) ∈ news) (hc : lo.cls = .type "list") (hd : lo.data = .seq vs.toArray n)
    (hj : J 0 m₀ news) (hJ : ∀ i m nx, J i m nx → (ax, lo) ∈ nx)
    (turn : ∀ i v m₁ nx h tk oI, vs.reverse[i]? = some v → J i m₁ nx → (∀ p ∈ nx, p.1 ≠ I) → Fr h₀ env.locals h (fun y => if y = x then some v else m₁ y) → News h₀ env.locals h ((I, oI) :: nx) →
      wpAny (model prog w) A (execs body env) (LPost h₀ env.locals (J (i + 1)) I oI { s with heap := h, toks := tk } Q) E { s with heap := h, toks := tk })
    (done : ∀ m₁ nx h tk, J vs.length m₁ nx → Fr h₀ env.locals h m₁ → News h₀ env.locals h nx → Q .next { s with heap := h, toks := tk }) :
    wpAny (model prog w) A (pyIter (.ref I)) (fun it s₂ => LoopAtV prog w A h₀ env x body Q E it s₂) E s := by
  have offI : OffI I (revObj ax ((vs.length : Int) - 1)) news := by
    have gen : ∀ l : List (Addr × Obj), (∀ p ∈ l, p.1 ≠ I) → OffI I (revObj ax ((vs.length : Int) - 1)) l := by
      intro l
      induction l with
      | nil => intro _; trivial
      | cons p r ih => intro h; exact ⟨.inl (h p (.head _)), ih fun q hq => h q (.tail _ hq)⟩
    exact gen _ hof
  refine iter_revUnr hh F N offI hm hc hd ?_
  have all : ∀ k i m nx, i + k = vs.length → J i m nx → (∀ p ∈ nx, p.1 ≠ I) → RevRest prog w A E h₀ env x body Q s I (ax, lo) (vs.reverse.drop i) m nx := by
    intro k
    induction k with
    | zero =>
      intro i m nx e hj hne
      have hi : i = vs.length := by omega
      subst hi
      rw [List.drop_of_length_le (by rw [List.length_reverse]; exact Nat.le_refl _)]
      exact RevRest.zero fun h tk F N => done m nx h tk hj F N
    | succ k ih =>
      intro i m nx e hj hne
      have hlt : i < vs.reverse.length := by rw [List.length_reverse]; omega
      rw [List.drop_eq_getElem_cons hlt]
      refine RevRest.succ fun it h tk hcls F N => ?_
      refine wpAny_mono (turn i _ m nx h tk it (List.getElem?_eq_getElem hlt) hj hne F N) (fun f s₂ p => ?_) fun _ _ e => e
      have fin : LEnd h₀ env.locals (J (i + 1)) I it { s with heap := h, toks := tk } s₂ → UnrEnd h₀ env.locals { s with heap := h, toks := tk } I it (fun m' n' => (ax, lo) ∈ n' ∧ RevRest prog w A E h₀ env x body Q s I (ax, lo) (vs.reverse.drop (i + 1)) m' n') s₂ := by
        rintro ⟨h', tk, m', news', nx, e, F', N', hi, hn, ha, hm⟩
        refine ⟨h', tk, m', nx, e, F', fun p hp => ?_, ha, hJ _ _ _ hm, ih _ _ _ (by omega) hm ha⟩
        rcases List.mem_cons.mp hp with rfl | hp
        · exact N' _ hi
        · exact N' p (hn p hp)
      cases f with
      | ret v => exact p
      | brk => exact p
      | next => exact fin p
      | cont => exact fin p
  have := all vs.length 0 m₀ news (by omega) hj hof
  rwa [List.drop_zero] at this
end

def q37 : Str := Str.ofString "_int2digits.<locals>.inner"
def q44 : Str := Str.ofString "_digits2int.<locals>.inner"
/-- the ledger's part that bears a code table P: empty, or with the inner def's code -/
def TabP (P : Addr) (ln cl : Int) (q : Str) (l : List (Addr × Obj)) : Prop :=
  l = [(P, tabObj #[])] ∨ ∃ (c' : Addr) (oc : Obj) (vs : Array Value) (t : Tok), @LT.lt Nat _ 185 c' ∧ l = [(P, tabObj #[rawInt ln, rawInt cl, .ref c']), (c', oc)] ∧ oc.data = .fields vs ∧ vs[1]? = some (.str q t)

/-- a contract: the call makes objects, and turns the tables' part tb -/
def TSpec (TP : List (Addr × Obj) → Prop) (prog : Program) (w : World) (f : Addr) (vs : List Value) (d : Nat) (Pre : Heap → Prop) (Post : Heap → List (Addr × Obj) → Value → Prop) : Prop :=
  ∀ (p : Program) (loose : List Str) (mean : ExcName → Option Value) (mg mb : Str → Option Value) (dp un : Nat) (gd : Option (List Code)) (cn : Str) (cs : Scope) (a : Addr) (ccd : Value) (cl : List (Str × Addr)) (outer : List Env) (A₀ : Around) (base h₀ : Heap) (L : Addr) (m : Str → Option Value) (tb : List (Addr × Obj)) (s : Shared)
    (Q E : Value → Shared → Prop),
    Below A₀ base outer h₀ → Fr h₀ L s.heap m → (hd.heap_1 w.params).In h₀ → News h₀ L s.heap tb → Top p loose mean mg mb h₀ → CodeHd base 41 37 → CodeHd base 48 44 → TP tb → cs.kind = .function → dp + d < recursionLimit → un + 8 * d < cLine → Pre s.heap →
    (∀ r h' tk' res tb', (∀ b o, b ∉ tb.map (·.1) → s.heap.get? b = some o → h'.get? b = some o) → Fresh s.heap h' res → TP tb' → (∀ p ∈ tb', h'.get? p.1 = some p.2 ∧ (s.heap.objs.size ≤ p.1 ∨ p.1 ∈ tb.map (·.1))) → Post h' res r → Q r { s with heap := h', toks := tk' }) →
    wpAny (model prog w) (ktrTop dp un gd cn cs L a ccd cl outer) (call (.ref f) vs) Q E s

section
variable {M : Model} {A : Around} {E : Value → Shared → Prop} {s : Shared} {h₀ : Heap} {L a : Addr} {m : Str → Option Value} {cn : Str} {cs : Scope} {ccd : Value} {cl : List (Str × Addr)} {x : Str} {pos : Pos} {v : Value} {Q : Value → Shared → Prop} {c : Addr} {o : Obj}
/-- a free name whose cell stands in the base -/
theorem nameX_G (F : Fr h₀ L s.heap m) (hc : cl.lookup x = some c) (ho : h₀.get? c = some o) (hv : o.data = .cell (some v)) (h : Q v s)
    (hk : cs.kind = .function := by rfl) (hx : (envX cn cs L a ccd cl).kindOf x = some .free := by rfl) (hb : (x == ("__debug__" : Str)) = false := by decide) (hn : (x == ("__classdict__" : Str)) = false := by decide) :
    wpAny M A (eval (.Name x pos) (envX cn cs L a ccd cl)) Q E s := wpAny_Name (wpAny_loadName_free hk hx hc ⟨_, F.keep _ _ ho, hv⟩ h hn) hb
end
section
variable {prog : Program} {w : World} {A₀ A : Around} {s : Shared} {base h₀ : Heap} {outer : List Env} {L : Addr} {m : Str → Option Value} {env : Env} {K : Frag}
  {R : Result → Shared → Prop} {name qual : Str} {params : Arguments} {body : List Stmt} {scope : Scope} {cl : List (Str × Addr)} {doc pm ctv : Value} {c' : Addr} {f : Addr} {args : Args} {binds : List (Str × Value)}
  {p : Program} {loose : List Str} {mean : ExcName → Option Value} {mg mb : Str → Option Value}
/-- a call of a def made in a body: the callee's base is the heap but for the entries of `tb` -/
theorem enterN {tb : List (Addr × Obj)} (B : Below A₀ base outer h₀) (F : Fr h₀ L s.heap m) (X₀ : K.In h₀) (N : News h₀ L s.heap tb) (T : Top p loose mean mg mb h₀) (hA : A.frames = some (env :: outer)) (hf : env.frame = some L) (hke : env.scope.kind = .function)
    (ho : s.heap.get? f = some (fnMade name qual params body scope cl doc pm c' ctv)) (hcd : s.heap.CodeRec (.ref c') qual) (hroom : A.depth < recursionLimit)
    (hbind : BindsTo s (fnX name qual params body scope cl .none .none doc pm none (.ref c') ctv) args binds) (hloc : ∀ y ∈ binds, scope.names.lookup y.1 = some .local)
    (h : ∀ g L' h₁, (∀ b o, b ∉ tb.map (·.1) → s.heap.get? b = some o → g.get? b = some o) → (∀ b o, g.get? b = some o → s.heap.get? b = some o) → L' = s.heap.objs.size → Fr g L' h₁ (fun y => binds.reverse.lookup y) → News g L' h₁ tb → Below A base (env :: outer) g → K.In g → Top p loose mean mg mb g →
      wpAny (model prog w) (A.deeper (envX qual scope L' f (.ref c') cl)) (execs body (envX qual scope L' f (.ref c') cl))
        (fun fl s' => LeaveK h₀ L m g R (match fl with | .ret v => v | _ => .none) s')
        (fun e s' => wpAny (model prog w) (A.deeper (envX qual scope L' f (.ref c') cl)) (leaving (envX qual scope L' f (.ref c') cl) e) (fun _ s'' => R (.error e) s'') (fun e' s'' => R (.error e') s'') s')
        { s with heap := h₁, toks := s.toks + binds.length })
    (hco : scope.isCoroutine = false) (hgen : scope.isGenerator = false) (hk : scope.kind = .function) (hcell : ∀ x ∈ scope.names, x.2 ≠ .cell) : codeAny (model prog w) A (.call (.ref f) args) R s := by
  obtain ⟨FG, BG, st, lv⟩ := groundX (R := R) B F N hA hf hke
  refine codeAny_call_def (fd := fnX name qual params body scope cl .none .none doc pm none (.ref c') ctv) (body := body) (binds := binds) hroom ho rfl (T.nolimit.keeps F.keep) hcd rfl hbind hcell hloc (fun h₁ hns hk₁ => ?_) hco hgen hk
  exact wpAny_mono (h _ s.heap.objs.size h₁ (fun b o hb e => hideAll_get _ e hb) (fun b o e => of_hideAll _ e) rfl ⟨hns, fun b o e => hk₁ b o (of_hideAll _ e), Nat.le_of_eq (hideAll_size _ _)⟩
    (news_ground hk₁ fun p hp => (N p hp).1) BG (X₀.keeps st) (T.keeps st)) (fun fl s' hl => lv _ _ hl) fun _ _ y => y
end

/-- a list or a tuple of ints -/
def IsSeq (h : Heap) (a : Addr) (vs : List Value) : Prop := h.IsList a vs.toArray ∨ IsTup h a vs.toArray
theorem IsSeq.keeps {h h' : Heap} {a : Addr} {vs : List Value} (x : IsSeq h a vs) (k : ∀ b o, h.get? b = some o → h'.get? b = some o) : IsSeq h' a vs := x.imp (stays_list k) (stays_tup k)
section
variable {prog : Program} {w : World} {A : Around} {E : Value → Shared → Prop} {s : Shared} {l : Addr} {vs : List Value}
theorem seq_len {Q : Value → Shared → Prop} (hl : IsSeq s.heap l vs) (hn : vs.length < 1000000) (h : ∀ t tk, Q (.int ((vs.length : Nat) : Int) t) { s with toks := tk }) : wpAny (model prog w) A (call (.builtin "len") [.ref l]) Q E s := by
  have e : (vs.toArray.size : Int) = ((vs.length : Nat) : Int) := by simp
  rcases hl with hl | hl
  · exact PyProof.Rows.len_list hl (by omega) (by rw [e]; exact h _ _)
  · exact len_tuple hl (by omega) (by rw [e]; exact h _ _)
theorem seq_truthy {Q : Bool → Shared → Prop} (hl : IsSeq s.heap l vs) (hn : vs.length < 1000000) (h : ∀ tk, Q (decide (0 < vs.length)) { s with toks := tk }) : wpAny (model prog w) A (truthy (.ref l)) Q E s := by
  have e : (!vs.toArray.isEmpty) = decide (0 < vs.length) := by cases vs <;> simp
  have e2 : (vs.toArray.size : Int) = ((vs.length : Nat) : Int) := by simp
  rcases hl with hl | hl
  · exact wpAny_truthy_list hl (by omega) (by rw [e]; exact h _)
  · exact truthy_tuple hl (by omega) (by rw [e]; exact h _)
theorem seq_item {value slice : PySem.Expr} {ns : List Int} {k : Int} {u : Tok} {Q : Value → Shared → Prop} (hl : IsSeq s.heap l vs) (hi : IntsAre vs ns) (hn : vs.length < 1000000) (h0 : 0 ≤ k) (h1 : k < ns.length) (h : ∀ t, Q (.int (ns.getD k.toNat 0) t) s)
    (hs : subscripted slice false (.ref l) (.int k u) = operate [.ref l, .int k u] (getItem (.ref l) (.int k u))) :
    wpAny (model prog w) A (subscriptTail value slice (.ref l) (.int k u)) Q E s := by
  have hlen := hi.length
  rcases hl with hl | hl
  · exact item_ints hl hi h0 h1 (by omega) h hs
  · have hk : k.toNat < ns.length := by omega
    obtain ⟨t, hx⟩ := hi.get k.toNat ns[k.toNat] (by simp [hk])
    have e : ns.getD k.toNat 0 = ns[k.toNat] := by simp [List.getD, hk]
    refine item_tupleT (j := k.toNat) hl (by omega) (by omega) ?_ hx (e ▸ h t) hs
    unfold seqIndex?
    simp only []
    split <;> first | omega | (simp; omega) | (simp_all; omega)
end
/-- the number whose digits to the base 2 ^ n are ds, the lowest first -/
def dval (n : Nat) : List Int → Int
  | [] => 0
  | d :: ds => d + 2 ^ n * dval n ds
theorem dval_append (n : Nat) (a b : List Int) : dval n (a ++ b) = dval n a + 2 ^ (n * a.length) * dval n b := by
  induction a with
  | nil => simp [dval]
  | cons d a ih =>
    rw [List.cons_append, dval, dval, ih, List.length_cons, Nat.mul_succ, Nat.add_comm (n * a.length) n, Int.pow_add, Int.mul_add, Int.mul_assoc]
    omega
theorem dval_bound (n : Nat) (a : List Int) (h : ∀ d ∈ a, 0 ≤ d ∧ d < 2 ^ n) : 0 ≤ dval n a ∧ dval n a < 2 ^ (n * a.length) := by
  induction a with
  | nil => simp [dval]
  | cons d a ih =>
    obtain ⟨h1, h2⟩ := h d (.head _)
    obtain ⟨h3, h4⟩ := ih fun x hx => h x (.tail _ hx)
    rw [dval, List.length_cons, Nat.mul_succ, Nat.add_comm (n * a.length) n, Int.pow_add]
    have hp : (0 : Int) < 2 ^ n := Int.pow_pos (by decide)
    constructor
    · have := Int.mul_nonneg (Int.le_of_lt hp) h3; omega
    · have h5 : dval n a + 1 ≤ 2 ^ (n * a.length) := h4
      have h6 := Int.mul_le_mul_of_nonneg_left h5 (Int.le_of_lt hp)
      rw [Int.mul_add, Int.mul_one] at h6
      omega
theorem TabP.fields {P : Addr} {ln cl : Int} {q : Str} {l : List (Addr × Obj)} (h : TabP P ln cl q l) : ∀ p ∈ l, ∃ vs, p.2.data = .fields vs := by
  rcases h with rfl | ⟨c', oc, vs, t, _, rfl, h1, _⟩
  · intro p hp
    rw [List.mem_singleton.mp hp]; exact ⟨_, rfl⟩
  · intro p hp
    rcases List.mem_cons.mp hp with rfl | hp
    · exact ⟨_, rfl⟩
    · rw [List.mem_singleton.mp hp]; exact ⟨_, h1⟩
theorem off_tab {P : Addr} {ln cl : Int} {q : Str} {l : List (Addr × Obj)} {h : Heap} {b : Addr} {o : Obj} (hT : TabP P ln cl q l) (hn : ∀ p ∈ l, h.get? p.1 = some p.2) (e : h.get? b = some o) (hd : ∀ vs, o.data ≠ .fields vs) : b ∉ l.map (·.1) := fun hm => by
  obtain ⟨p, hp, rfl⟩ := List.mem_map.mp hm
  obtain ⟨vs, hv⟩ := hT.fields p hp
  rw [hn p hp] at e
  cases e
  exact hd vs hv
theorem seq_ground {P : Addr} {ln cl : Int} {q : Str} {l : List (Addr × Obj)} {h g : Heap} {a : Addr} {vs : List Value} (hT : TabP P ln cl q l) (hn : ∀ p ∈ l, h.get? p.1 = some p.2) (hg : ∀ b o, b ∉ l.map (·.1) → h.get? b = some o → g.get? b = some o) (x : IsSeq h a vs) : IsSeq g a vs := by
  rcases x with ⟨o, ho, hc, n, hd⟩ | ⟨o, ho, hc, n, hd⟩
  · exact .inl ⟨o, hg _ _ (off_tab hT hn ho fun vs e => by rw [hd] at e; cases e) ho, hc, n, hd⟩
  · exact .inr ⟨o, hg _ _ (off_tab hT hn ho fun vs e => by rw [hd] at e; cases e) ho, hc, n, hd⟩
theorem codeRec_at {h h' h₀ : Heap} {L c : Addr} {news : List (Addr × Obj)} {oc : Obj} {vs : Array Value} {qual : Str} {t : Tok} (st : Stay h h') (N : News h₀ L h news) (hm : (c, oc) ∈ news) (hd : oc.data = .fields vs) (hv : vs[1]? = some (.str qual t)) : h'.CodeRec (.ref c) qual :=
  ⟨c, oc, vs, t, rfl, st _ _ (N _ hm).1, hd, hv⟩
section
variable {prog : Program} {w : World} {A : Around} {E : Value → Shared → Prop} {s : Shared} {t u : Tok}
theorem rshift_nat {a b : Nat} {Q : Value → Shared → Prop} (h : Q (.int (((a + b) / 2 : Nat) : Int) s.toks) { s with toks := s.toks + 1 }) : wpAny (model prog w) A (binaryOp .RShift (.int ((a : Int) + (b : Int)) t) (.int 1 u)) Q E s := by
  refine PyProof.Rows.rshift_int (by decide) ?_
  have e : ((a : Int) + (b : Int)).fdiv (2 ^ (1 : Int).toNat) = (((a + b) / 2 : Nat) : Int) := by
    rw [← Int.natCast_add]
    exact fd (a + b) 2
  rw [e]; exact h
end
theorem FnAt_up {q : Addr} {g h : Heap} {L : Addr} {m : Str → Option Value} (x : FnAt q g) (F : Fr g L h m) : FnAt q h := let ⟨oc, od, fd, sl, e⟩ := x; ⟨oc, od, fd, sl, F.keep _ _ e⟩
theorem dval_abs (n : Nat) (ds : List Int) (lo k : Nat) (hd : ∀ d ∈ ds, 0 ≤ d ∧ d < 2 ^ n) (hn : n * ds.length ≤ 60) : (dval n ((ds.drop lo).take k)).natAbs < 2 ^ 64 := by
  have hb := dval_bound n ((ds.drop lo).take k) fun d h => hd d (List.mem_of_mem_drop (List.mem_of_mem_take h))
  have hl : ((ds.drop lo).take k).length ≤ ds.length := by rw [List.length_take, List.length_drop]; omega
  have h1 : n * ((ds.drop lo).take k).length ≤ 60 := Nat.le_trans (Nat.mul_le_mul_left n hl) hn
  have h2 : (2 : Int) ^ (n * ((ds.drop lo).take k).length) ≤ 2 ^ 60 := by
    have := Nat.pow_le_pow_right (n := 2) (by decide) h1
    exact_mod_cast this
  have h3 : (2 : Int) ^ 60 < 2 ^ 64 := by decide
  omega
theorem dval_split (n : Nat) (ds : List Int) (lo mid hi : Nat) (h1 : lo ≤ mid) (h2 : mid ≤ hi) (h3 : hi ≤ ds.length) :
    dval n ((ds.drop mid).take (hi - mid)) * 2 ^ (((mid : Int) - (lo : Int)) * (n : Int)).toNat + dval n ((ds.drop lo).take (mid - lo)) = dval n ((ds.drop lo).take (hi - lo)) := by
  have e : (ds.drop lo).take (hi - lo) = (ds.drop lo).take (mid - lo) ++ (ds.drop mid).take (hi - mid) := by
    have e1 : hi - lo = (mid - lo) + (hi - mid) := by omega
    rw [e1, List.take_add, List.drop_drop]
    congr 3
    omega
  have e2 : (((mid : Int) - (lo : Int)) * (n : Int)).toNat = n * ((ds.drop lo).take (mid - lo)).length := by
    rw [List.length_take, List.length_drop, show min (mid - lo) (ds.length - lo) = mid - lo by omega, ← Int.natCast_sub h1, ← Int.natCast_mul, Int.toNat_natCast, Nat.mul_comm]
  rw [e, dval_append, e2, Int.mul_comm, Int.add_comm]
theorem dval_one (n : Nat) (ds : List Int) (lo : Nat) (h : lo < ds.length) : ds.getD lo 0 = dval n ((ds.drop lo).take 1) := by
  have e : (ds.drop lo).take 1 = [ds[lo]] := by rw [List.drop_eq_getElem_cons h]; rfl
  rw [e, dval, dval, Int.mul_zero, Int.add_zero]
  simp [List.getD, h]

/-- how many digits to the base 2 ^ n -/
def cdiv (x n : Nat) : Nat := ((if x = 0 then 0 else x.log2 + 1) + n - 1) / n
theorem bits_is (x n : Nat) (hn : 1 ≤ n) : (((Builtin.Int.intBits (x : Int) : Nat) : Int) + (n : Int) - 1).fdiv (n : Int) = ((cdiv x n : Nat) : Int) := by
  have e : Builtin.Int.intBits (x : Int) = if x = 0 then 0 else x.log2 + 1 := by
    unfold Builtin.Int.intBits
    by_cases h : x = 0
    · subst h; rfl
    · rw [if_neg h, if_neg (by simpa using h)]; simp
  rw [e]
  unfold cdiv
  generalize (if x = 0 then 0 else x.log2 + 1) = b
  have : ((b : Nat) : Int) + (n : Int) - 1 = ((b + n - 1 : Nat) : Int) := by omega
  rw [this, fd]
theorem cdiv_zero {n : Nat} (hn : 1 ≤ n) : cdiv 0 n = 0 := by
  unfold cdiv
  rw [if_pos rfl]
  exact Nat.div_eq_of_lt (by omega)
theorem cdiv_pos {x n : Nat} (hn : 1 ≤ n) (hx : x ≠ 0) : 1 ≤ cdiv x n := by
  unfold cdiv
  rw [if_neg hx]
  exact (Nat.le_div_iff_mul_le hn).mpr (by omega)
theorem lt_cdiv {x n : Nat} (hn : 1 ≤ n) : x < 2 ^ (n * cdiv x n) := by
  by_cases hx : x = 0
  · subst hx; exact Nat.pow_pos (by decide)
  · unfold cdiv
    rw [if_neg hx]
    have h1 : x < 2 ^ (x.log2 + 1) := Nat.lt_log2_self
    refine Nat.lt_of_lt_of_le h1 (Nat.pow_le_pow_right (by decide) ?_)
    have h2 := Nat.div_add_mod (x.log2 + 1 + n - 1) n
    have h3 := Nat.mod_lt (x.log2 + 1 + n - 1) hn
    omega
theorem cdiv_le {x n : Nat} (hn : 1 ≤ n) (hx : x < 2 ^ 60) : cdiv x n ≤ 60 := by
  unfold cdiv
  have hb : (if x = 0 then 0 else x.log2 + 1) ≤ 60 := by
    split
    · omega
    · rename_i h
      have := (Nat.log2_lt h).mpr hx
      omega
  refine Nat.le_of_lt_succ ((Nat.div_lt_iff_lt_mul hn).mpr ?_)
  have : 60 + n ≤ 61 * n := by omega
  omega
/-- m digits of x to the base 2 ^ n, the lowest first -/
def digs (n : Nat) : Nat → Nat → List Int
  | 0, _ => []
  | m + 1, x => ((x % 2 ^ n : Nat) : Int) :: digs n m (x / 2 ^ n)
theorem digs_length (n : Nat) : ∀ m x, (digs n m x).length = m
  | 0, _ => rfl
  | m + 1, x => by rw [digs, List.length_cons, digs_length]
theorem digs_add (n : Nat) : ∀ a b x, digs n (a + b) x = digs n a x ++ digs n b (x / 2 ^ (n * a))
  | 0, b, x => by simp [digs]
  | a + 1, b, x => by
    rw [Nat.add_right_comm, digs, digs, digs_add n a b, List.cons_append, Nat.div_div_eq_div_mul, ← Nat.pow_add, Nat.mul_succ, Nat.add_comm n]
theorem digs_mod (n : Nat) : ∀ a x, digs n a (x % 2 ^ (n * a)) = digs n a x
  | 0, x => rfl
  | a + 1, x => by
    have e1 : x % 2 ^ (n * (a + 1)) % 2 ^ n = x % 2 ^ n := Nat.mod_mod_of_dvd x (Nat.pow_dvd_pow 2 (Nat.le_mul_of_pos_right n (Nat.succ_pos a)))
    have e2 : x % 2 ^ (n * (a + 1)) / 2 ^ n = x / 2 ^ n % 2 ^ (n * a) := by
      rw [Nat.mul_succ, Nat.add_comm, Nat.pow_add, Nat.mod_mul_right_div_self]
    rw [digs, digs, e1, e2, digs_mod n a]
/-- the digits of x in the places from lo -/
def upd (n : Nat) (ds : List Int) (lo m x : Nat) : List Int := ds.take lo ++ digs n m x ++ ds.drop (lo + m)
theorem upd_length {n : Nat} {ds : List Int} {lo m x : Nat} (h : lo + m ≤ ds.length) : (upd n ds lo m x).length = ds.length := by
  unfold upd
  rw [List.length_append, List.length_append, digs_length, List.length_take, List.length_drop]; omega
theorem upd_one {n : Nat} {ds : List Int} {lo x : Nat} (h : lo < ds.length) (hx : x < 2 ^ n) : ds.set lo ((x : Nat) : Int) = upd n ds lo 1 x := by
  unfold upd
  rw [digs, digs, Nat.mod_eq_of_lt hx, List.set_eq_take_append_cons_drop, if_pos h]
  simp
theorem upd_two {n : Nat} {ds : List Int} {lo a b x : Nat} (h : lo + a + b ≤ ds.length) : upd n (upd n ds lo a (x % 2 ^ (n * a))) (lo + a) b (x / 2 ^ (n * a)) = upd n ds lo (a + b) x := by
  have hl : (ds.take lo ++ digs n a x).length = lo + a := by rw [List.length_append, digs_length, List.length_take]; omega
  unfold upd
  rw [digs_mod, digs_add]
  rw [show (ds.take lo ++ digs n a x ++ ds.drop (lo + a)).take (lo + a) = ds.take lo ++ digs n a x by rw [List.take_append_of_le_length (by omega), List.take_of_length_le (by omega)]]
  rw [show (ds.take lo ++ digs n a x ++ ds.drop (lo + a)).drop (lo + a + b) = ds.drop (lo + (a + b)) by
    rw [List.drop_append, List.drop_of_length_le (by omega), List.nil_append, hl, List.drop_drop]; congr 1; omega]
  simp only [List.append_assoc]
theorem and_low (x s : Nat) : x &&& (x / 2 ^ s * 2 ^ s) = x / 2 ^ s * 2 ^ s := by
  apply Nat.eq_of_testBit_eq
  intro i
  rw [Nat.testBit_and, Nat.testBit_mul_two_pow, Nat.testBit_div_two_pow]
  by_cases h : s ≤ i
  · rw [Nat.sub_add_cancel h]
    simp [h]
  · simp [h]
theorem bitXor_low (x s : Nat) : Builtin.bitXor (x : Int) ((x / 2 ^ s * 2 ^ s : Nat) : Int) = ((x % 2 ^ s : Nat) : Int) := by
  have ha : Builtin.bitAnd (x : Int) ((x / 2 ^ s * 2 ^ s : Nat) : Int) = ((x / 2 ^ s * 2 ^ s : Nat) : Int) := by
    unfold Builtin.bitAnd
    rw [decide_eq_true (Int.natCast_nonneg _), decide_eq_true (Int.natCast_nonneg _)]
    simp only [Int.toNat_natCast]
    rw [and_low]
  rw [PyProof.Rows.bitXor_and, ha]
  have := Nat.div_add_mod x (2 ^ s)
  rw [Nat.mul_comm] at this
  omega
section
variable {prog : Program} {w : World} {A : Around} {E : Value → Shared → Prop} {s : Shared} {t u : Tok} {Q : Value → Shared → Prop}
theorem rshift_natS {x S : Nat} {k : Int} (hk : k = (S : Int)) (h : Q (.int ((x / 2 ^ S : Nat) : Int) s.toks) { s with toks := s.toks + 1 }) : wpAny (model prog w) A (binaryOp .RShift (.int (x : Int) t) (.int k u)) Q E s := by
  subst hk
  refine PyProof.Rows.rshift_int (by omega) ?_
  have e : (x : Int).fdiv (2 ^ ((S : Nat) : Int).toNat) = ((x / 2 ^ S : Nat) : Int) := by
    rw [Int.toNat_natCast]
    have := fd x (2 ^ S)
    rw [← this]
    congr 1
  rw [e]; exact h
theorem lshift_natS {y S : Nat} {k : Int} (hk : k = (S : Int)) (hS : S ≤ 1000000) (hy : y < 2 ^ 64) (h : Q (.int ((y * 2 ^ S : Nat) : Int) s.toks) { s with toks := s.toks + 1 }) : wpAny (model prog w) A (binaryOp .LShift (.int (y : Int) t) (.int k u)) Q E s := by
  subst hk
  refine lshift_int_small (by omega) (by omega) (by omega) ?_
  have e : (y : Int) * 2 ^ ((S : Nat) : Int).toNat = ((y * 2 ^ S : Nat) : Int) := by
    rw [Int.toNat_natCast, Int.natCast_mul, Int.natCast_pow]; rfl
  rw [e]; exact h
theorem xor_natS {x S : Nat} (h : Q (.int ((x % 2 ^ S : Nat) : Int) s.toks) { s with toks := s.toks + 1 }) : wpAny (model prog w) A (binaryOp .BitXor (.int (x : Int) t) (.int ((x / 2 ^ S * 2 ^ S : Nat) : Int) u)) Q E s :=
  xor_int (by rw [bitXor_low]; exact h)
end
/-- the inner def of _int2digits: it writes y's digits into al's list from lo on -/
def InnerU (prog : Program) (w : World) (f al : Addr) (kk : Nat) (H : Heap) (n d lo m y : Nat) (args : List Value) : Prop :=
  ∀ (p : Program) (loose : List Str) (mean : ExcName → Option Value) (mg mb : Str → Option Value) (dp un : Nat) (gd : Option (List Code)) (cn : Str) (cs : Scope) (a : Addr) (ccd : Value) (cl : List (Str × Addr)) (outer : List Env) (A₀ : Around) (base h₀ : Heap) (L : Addr) (mm : Str → Option Value) (s : Shared) (vs : List Value) (ds : List Int)
    (Q E : Value → Shared → Prop),
    Below A₀ base outer h₀ → Fr h₀ L s.heap mm → (hd.heap_1 w.params).In h₀ → News h₀ L s.heap [(al, W.listOf vs.toArray kk)] → Top p loose mean mg mb h₀ → cs.kind = .function → dp + d < recursionLimit → un + 8 * d < cLine →
    (∀ b o, b ≠ al → H.get? b = some o → s.heap.get? b = some o) → IntsAre vs ds → lo + m ≤ ds.length → ds.length ≤ 100 →
    (∀ h' tk' vs', (∀ b o, b ≠ al → s.heap.get? b = some o → h'.get? b = some o) → h'.get? al = some (W.listOf vs'.toArray kk) → IntsAre vs' (upd n ds lo m y) → Q .none { s with heap := h', toks := tk' }) →
    wpAny (model prog w) (ktrTop dp un gd cn cs L a ccd cl outer) (call (.ref f) args) Q E s
theorem InnerU.use {prog : Program} {w : World} {f al : Addr} {kk : Nat} {H : Heap} {n d lo m y : Nat} {args : List Value} (C : InnerU prog w f al kk H n d lo m y args)
  {p : Program} {loose : List Str} {mean : ExcName → Option Value} {mg mb : Str → Option Value} {dp un : Nat} {gd : Option (List Code)} {cn : Str} {cs : Scope} {a : Addr} {ccd : Value} {cl : List (Str × Addr)} {outer : List Env} {A₀ : Around} {base h₀ : Heap} {L : Addr} {mm : Str → Option Value} {s : Shared} {vs : List Value} {ds : List Int} {news : List (Addr × Obj)}
    {Q E : Value → Shared → Prop} (rest : List (Addr × Obj)) (B : Below A₀ base outer h₀) (F : Fr h₀ L s.heap mm) (X : (hd.heap_1 w.params).In h₀) (N : News h₀ L s.heap news) (T : Top p loose mean mg mb h₀) (hk : cs.kind = .function) (hd : dp + d < recursionLimit) (hu : un + 8 * d < cLine)
    (hm : (al, W.listOf vs.toArray kk) ∈ news) (hs : ∀ p ∈ rest, p ∈ news) (hne : ∀ p ∈ rest, p.1 ≠ al) (hH : ∀ b o, b ≠ al → H.get? b = some o → s.heap.get? b = some o) (hi : IntsAre vs ds) (hl : lo + m ≤ ds.length) (hl2 : ds.length ≤ 100)
    (ret : ∀ h' tk' vs', (∀ b o, b ≠ al → s.heap.get? b = some o → h'.get? b = some o) → Fr h₀ L h' mm → News h₀ L h' ((al, W.listOf vs'.toArray kk) :: rest) → IntsAre vs' (upd n ds lo m y) → Q .none { s with heap := h', toks := tk' }) :
    wpAny (model prog w) (ktrTop dp un gd cn cs L a ccd cl outer) (call (.ref f) args) Q E s := by
  have hal := N _ hm
  refine C _ _ _ _ _ _ _ _ _ _ _ _ _ _ _ _ _ _ _ _ _ _ _ _ B F X (fun p hp => by rw [List.mem_singleton.mp hp]; exact hal) T hk hd hu hH hi hl hl2 fun h' tk' vs' st e iv => ?_
  refine ret h' tk' vs' st ⟨F.ns.at' fun o e => st _ o (Ne.symm hal.2.1) e, fun b o e => st b o (fun q => by rw [q, hal.2.2] at e; cases e) (F.keep b o e), F.above⟩ (fun p hp => ?_) iv
  rcases List.mem_cons.mp hp with rfl | hp
  · exact ⟨e, hal.2⟩
  · exact ⟨st _ _ (hne p hp) (N p (hs p hp)).1, (N p (hs p hp)).2⟩
theorem upd_full (n k x : Nat) : upd n (List.replicate k 0) 0 k x = digs n k x := by
  unfold upd
  rw [List.take_zero, List.nil_append, Nat.zero_add, List.drop_of_length_le (by simp), List.append_nil]
/-- what _int2digits hands back -/
inductive Int2Post (n x : Nat) (_ : Heap) (res : List (Addr × Obj)) (r : Value) : Prop
  | mk (al : Addr) (vs : List Value) (h0 : r = .ref al) (h1 : res = [(al, W.listOf vs.toArray 0)]) (h2 : IntsAre vs (digs n (cdiv x n) x))

/-- the tables' part of the ledger: both defs with an inner def -/
def TabL (tb : List (Addr × Obj)) : Prop := ∃ l1 l2, tb = l1 ++ l2 ∧ TabP 37 35 4 q37 l1 ∧ TabP 44 50 4 q44 l2
theorem TabP.offP {P P' : Addr} {ln cl ln' cl' : Int} {q q' : Str} {l1 l2 : List (Addr × Obj)} {h : Heap} (h1 : TabP P ln cl q l1) (h2 : TabP P' ln' cl' q' l2) (hP : @Ne Nat P P') (hP1 : @LE.le Nat _ P 185) (hP2 : @LE.le Nat _ P' 185) (hq : q ≠ q')
    (n1 : ∀ p ∈ l1, h.get? p.1 = some p.2) (n2 : ∀ p ∈ l2, h.get? p.1 = some p.2) : ∀ p ∈ l1, p.1 ∉ l2.map (·.1) := by
  have key : ∀ p ∈ l1, ∀ p' ∈ l2, @Ne Nat p.1 p'.1 := by
    intro p hp p' hp' e
    have ho : p.2 = p'.2 := by
      have a := n1 p hp
      have b := n2 p' hp'
      have e' : p.1 = p'.1 := e
      rw [e'] at a
      exact Option.some.inj (a.symm.trans b)
    rcases h1 with rfl | ⟨c1, o1, v1, t1, lt1, rfl, d1, e1⟩
    · rw [List.mem_singleton.mp hp] at e ho
      rcases h2 with rfl | ⟨c2, o2, v2, t2, lt2, rfl, d2, e2⟩
      · rw [List.mem_singleton.mp hp'] at e; exact hP e
      · rcases List.mem_cons.mp hp' with rfl | hp'
        · exact hP e
        · rw [List.mem_singleton.mp hp'] at e
          dsimp only at e; omega
    · rcases List.mem_cons.mp hp with rfl | hp
      · rcases h2 with rfl | ⟨c2, o2, v2, t2, lt2, rfl, d2, e2⟩
        · rw [List.mem_singleton.mp hp'] at e; exact hP e
        · rcases List.mem_cons.mp hp' with rfl | hp'
          · exact hP e
          · rw [List.mem_singleton.mp hp'] at e
            dsimp only at e; omega
      · rw [List.mem_singleton.mp hp] at e ho
        rcases h2 with rfl | ⟨c2, o2, v2, t2, lt2, rfl, d2, e2⟩
        · rw [List.mem_singleton.mp hp'] at e
          dsimp only at e; omega
        · rcases List.mem_cons.mp hp' with rfl | hp'
          · dsimp only at e; omega
          · rw [List.mem_singleton.mp hp'] at ho
            dsimp only at ho
            subst ho
            rw [d1] at d2
            cases d2
            rw [e1] at e2
            cases e2
            exact hq rfl
  intro p hp hm
  obtain ⟨p', hp', e⟩ := List.mem_map.mp hm
  exact key p hp p' hp' e.symm
theorem TabL.fields {l : List (Addr × Obj)} (h : TabL l) : ∀ p ∈ l, ∃ vs, p.2.data = .fields vs := by
  obtain ⟨l1, l2, rfl, h1, h2⟩ := h
  intro p hp
  rcases List.mem_append.mp hp with hp | hp
  · exact h1.fields p hp
  · exact h2.fields p hp
theorem TabL.off {l : List (Addr × Obj)} {h : Heap} {b : Addr} {o : Obj} (hT : TabL l) (hn : ∀ p ∈ l, h.get? p.1 = some p.2) (e : h.get? b = some o) (hd : ∀ vs, o.data ≠ .fields vs) : b ∉ l.map (·.1) := fun hm => by
  obtain ⟨p, hp, rfl⟩ := List.mem_map.mp hm
  obtain ⟨vs, hv⟩ := hT.fields p hp
  rw [hn p hp] at e
  cases e
  exact hd vs hv
theorem ne_map {l : List (Addr × Obj)} {b : Addr} : b ∉ l.map (·.1) ↔ ∀ p ∈ l, p.1 ≠ b := by
  constructor
  · intro h p hp e; exact h (List.mem_map.mpr ⟨p, hp, e⟩)
  · intro h hm
    obtain ⟨p, hp, e⟩ := List.mem_map.mp hm
    exact h p hp e
theorem nf_cell {o : Obj} {v : Option Value} (d : o.data = .cell v) : ∀ vs, o.data ≠ .fields vs := fun vs e => by rw [d] at e; cases e
/-- an object that is no record stands off the tables -/
theorem tab_off {h₀ h : Heap} {L d : Addr} {news tb : List (Addr × Obj)} {o : Obj} (hT : TabL tb) (N : News h₀ L h news) (hs : ∀ p ∈ tb, p ∈ news) (hm : (d, o) ∈ news) (hd : ∀ vs, o.data ≠ .fields vs) : ∀ p ∈ tb, p.1 ≠ d :=
  ne_map.mp (hT.off (fun p hp => (N p (hs p hp)).1) (N _ hm).1 hd)
theorem TSpec.lift1 {prog : Program} {w : World} {f : Addr} {vs : List Value} {d : Nat} {Pre : Heap → Prop} {Post : Heap → List (Addr × Obj) → Value → Prop} (C : TSpec (TabP 37 35 4 q37) prog w f vs d Pre Post) : TSpec TabL prog w f vs d Pre Post := by
  intro p loose mean mg mb dp un gd cn cs a ccd cl outer A₀ base h₀ L m tb s Q E B F X N T C1 C2 ht hk hdp hun hpre hret
  obtain ⟨l1, l2, rfl, h1, h2⟩ := ht
  have n1 : ∀ p ∈ l1, s.heap.get? p.1 = some p.2 := fun p hp => (N p (List.mem_append.mpr (.inl hp))).1
  have n2 : ∀ p ∈ l2, s.heap.get? p.1 = some p.2 := fun p hp => (N p (List.mem_append.mpr (.inr hp))).1
  have off := TabP.offP h2 h1 (by decide) (by decide) (by decide) (by decide) n2 n1
  refine C p loose mean mg mb dp un gd cn cs a ccd cl outer A₀ base h₀ L m l1 s Q E B F X (fun p hp => N p (List.mem_append.mpr (.inl hp))) T C1 C2 h1 hk hdp hun hpre fun r h' tk' res tb' st fr tp tm po => ?_
  refine hret r h' tk' res (tb' ++ l2) (fun b o hb e => st b o (fun q => hb (by rw [List.map_append]; exact List.mem_append.mpr (.inl q))) e) fr ⟨tb', l2, rfl, tp, h2⟩ (fun p hp => ?_) po
  rcases List.mem_append.mp hp with hp | hp
  · obtain ⟨a, b⟩ := tm p hp
    exact ⟨a, b.imp id fun q => by rw [List.map_append]; exact List.mem_append.mpr (.inl q)⟩
  · exact ⟨st _ _ (off p hp) (n2 p hp), .inr (by rw [List.map_append]; exact List.mem_append.mpr (.inr (List.mem_map_of_mem hp)))⟩
theorem TSpec.lift2 {prog : Program} {w : World} {f : Addr} {vs : List Value} {d : Nat} {Pre : Heap → Prop} {Post : Heap → List (Addr × Obj) → Value → Prop} (C : TSpec (TabP 44 50 4 q44) prog w f vs d Pre Post) : TSpec TabL prog w f vs d Pre Post := by
  intro p loose mean mg mb dp un gd cn cs a ccd cl outer A₀ base h₀ L m tb s Q E B F X N T C1 C2 ht hk hdp hun hpre hret
  obtain ⟨l1, l2, rfl, h1, h2⟩ := ht
  have n1 : ∀ p ∈ l1, s.heap.get? p.1 = some p.2 := fun p hp => (N p (List.mem_append.mpr (.inl hp))).1
  have n2 : ∀ p ∈ l2, s.heap.get? p.1 = some p.2 := fun p hp => (N p (List.mem_append.mpr (.inr hp))).1
  have off := TabP.offP h1 h2 (by decide) (by decide) (by decide) (by decide) n1 n2
  refine C p loose mean mg mb dp un gd cn cs a ccd cl outer A₀ base h₀ L m l2 s Q E B F X (fun p hp => N p (List.mem_append.mpr (.inr hp))) T C1 C2 h2 hk hdp hun hpre fun r h' tk' res tb' st fr tp tm po => ?_
  refine hret r h' tk' res (l1 ++ tb') (fun b o hb e => st b o (fun q => hb (by rw [List.map_append]; exact List.mem_append.mpr (.inr q))) e) fr ⟨l1, tb', rfl, h1, tp⟩ (fun p hp => ?_) po
  rcases List.mem_append.mp hp with hp | hp
  · exact ⟨st _ _ (off p hp) (n1 p hp), .inr (by rw [List.map_append]; exact List.mem_append.mpr (.inl (List.mem_map_of_mem hp)))⟩
  · obtain ⟨a, b⟩ := tm p hp
    exact ⟨a, b.imp id fun q => by rw [List.map_append]; exact List.mem_append.mpr (.inr q)⟩
/-- the tables' part after a call: as before, or new -/
def TabStep (h h' : Heap) (tb tb' : List (Addr × Obj)) : Prop := (∀ b o, b ∉ tb.map (·.1) → h.get? b = some o → h'.get? b = some o) ∧ ∀ p ∈ tb', h'.get? p.1 = some p.2 ∧ (h.objs.size ≤ p.1 ∨ p.1 ∈ tb.map (·.1))
theorem TabStep.refl {h : Heap} {tb : List (Addr × Obj)} (hn : ∀ p ∈ tb, h.get? p.1 = some p.2) : TabStep h h tb tb := ⟨fun _ _ _ e => e, fun p hp => ⟨hn p hp, .inr (List.mem_map_of_mem hp)⟩⟩
section
variable {prog : Program} {w : World} {f : Addr} {vs : List Value} {d : Nat} {Pre : Heap → Prop} {Post : Heap → List (Addr × Obj) → Value → Prop}
  {p : Program} {loose : List Str} {mean : ExcName → Option Value} {mg mb : Str → Option Value} {dp un : Nat} {gd : Option (List Code)} {cn : Str} {cs : Scope} {a : Addr} {ccd : Value} {cl : List (Str × Addr)} {outer : List Env} {A₀ : Around} {base h₀ : Heap} {L : Addr} {m : Str → Option Value} {s : Shared} {news tb : List (Addr × Obj)}
    {Q E : Value → Shared → Prop}
theorem TSpec.use (rest : List (Addr × Obj)) (C : TSpec TabL prog w f vs d Pre Post) (B : Below A₀ base outer h₀) (F : Fr h₀ L s.heap m) (X : (hd.heap_1 w.params).In h₀) (N : News h₀ L s.heap news) (T : Top p loose mean mg mb h₀) (C1 : CodeHd base 41 37) (C2 : CodeHd base 48 44) (ht : TabL tb) (hk : cs.kind = .function) (hd : dp + d < recursionLimit) (hu : un + 8 * d < cLine) (hp : Pre s.heap)
    (hs1 : ∀ p ∈ tb, p ∈ news) (hs2 : ∀ p ∈ rest, p ∈ news) (hoff : ∀ p ∈ rest, (∀ vs, p.2.data ≠ .fields vs) ∨ ∀ q ∈ tb, q.1 ≠ p.1)
    (ret : ∀ r h' tk' res tb', TabL tb' → TabStep s.heap h' tb tb' → Fr h₀ L h' m → News h₀ L h' (res ++ (rest ++ tb')) → (∀ q ∈ res, ∀ p ∈ news, p.1 < q.1) → (∀ q ∈ res, @LT.lt Nat _ L q.1) → (∀ p ∈ rest, ∀ q ∈ tb', q.1 ≠ p.1) → Post h' res r → Q r { s with heap := h', toks := tk' }) :
    wpAny (model prog w) (ktrTop dp un gd cn cs L a ccd cl outer) (call (.ref f) vs) Q E s := by
  have Nt : News h₀ L s.heap tb := fun p hp => N p (hs1 p hp)
  refine C _ _ _ _ _ _ _ _ _ _ _ _ _ _ _ _ _ _ _ _ _ _ _ B F X Nt T C1 C2 ht hk hd hu hp fun r h' tk' res tb' st fr tp tm po => ?_
  have offL : L ∉ tb.map (·.1) := fun hm => by
    obtain ⟨p, hp, e⟩ := List.mem_map.mp hm
    exact (Nt p hp).2.1 e
  have off : ∀ p ∈ rest, p.1 ∉ tb.map (·.1) := fun p hp => (hoff p hp).elim (fun x => ht.off (fun p hp => (Nt p hp).1) (N p (hs2 p hp)).1 x) ne_map.mpr
  have F' : Fr h₀ L h' m := ⟨F.ns.at' fun o e => st _ o offL e, fun b o e => st b o (fun hm => by
    obtain ⟨p, hp, e2⟩ := List.mem_map.mp hm
    have := (Nt p hp).2.2
    rw [e2, e] at this
    cases this) (F.keep b o e), F.above⟩
  have gt0 : ∀ b, s.heap.objs.size ≤ b → b ≠ L ∧ h₀.get? b = none := fun b hb => ⟨Nat.ne_of_gt (Nat.lt_of_lt_of_le F.ns.lt hb), by
    cases q : h₀.get? b with
    | none => rfl
    | some o => exact absurd (Heap.lt_size (F.keep _ _ q)) (Nat.not_lt.mpr hb)⟩
  refine ret r h' tk' res tb' tp ⟨st, tm⟩ F' (fun p hp => ?_) (fresh_lt N fr) (fun q hq => Nat.lt_of_lt_of_le F.ns.lt (fr q hq).2) (fun p hp q hq e => ?_) po
  · rcases List.mem_append.mp hp with hp | hp
    · exact ⟨(fr p hp).1, gt0 _ (fr p hp).2⟩
    · rcases List.mem_append.mp hp with hp | hp
      · exact ⟨st _ _ (off p hp) (N p (hs2 p hp)).1, (N p (hs2 p hp)).2⟩
      · obtain ⟨h1, h2⟩ := tm p hp
        refine ⟨h1, ?_⟩
        rcases h2 with h2 | h2
        · exact gt0 _ h2
        · obtain ⟨p', hp', e⟩ := List.mem_map.mp h2
          rw [← e]; exact (Nt p' hp').2
  · obtain ⟨h1, h2⟩ := tm q hq
    rcases h2 with h2 | h2
    · rw [e] at h2
      exact absurd (Heap.lt_size (N p (hs2 p hp)).1) (Nat.not_lt.mpr h2)
    · rw [e] at h2
      exact off p hp h2
end
def TabIn (h : Heap) (tb tb' : List (Addr × Obj)) : Prop := ∀ p ∈ tb', @LE.le Nat _ h.objs.size p.1 ∨ p.1 ∈ tb.map (·.1)
theorem TabIn.refl {h : Heap} {tb : List (Addr × Obj)} : TabIn h tb tb := fun _ hp => .inr (List.mem_map_of_mem hp)
theorem TabIn.step {h h1 h2 : Heap} {tb tb1 tb2 : List (Addr × Obj)} (x : TabIn h tb tb1) (y : TabStep h1 h2 tb1 tb2) (hs : @LE.le Nat _ h.objs.size h1.objs.size) : TabIn h tb tb2 := fun p hp => by
  rcases (y.2 p hp).2 with q | q
  · exact .inl (Nat.le_trans hs q)
  · obtain ⟨p', hp', e⟩ := List.mem_map.mp q
    rw [← e]; exact x p' hp'
theorem size_le {h g h1 : Heap} {L' : Addr} {m : Str → Option Value} (hL : L' = h.objs.size) (F : Fr g L' h1 m) : @LE.le Nat _ h.objs.size h1.objs.size := by
  have := F.ns.lt
  rw [hL] at this
  exact Nat.le_of_lt this
theorem digs_get (n : Nat) : ∀ (m x i : Nat), i < m → (digs n m x)[i]? = some ((x / 2 ^ (n * i) % 2 ^ n : Nat) : Int)
  | 0, _, _, h => absurd h (Nat.not_lt_zero _)
  | m + 1, x, 0, _ => by simp [digs]
  | m + 1, x, i + 1, h => by
    rw [digs, List.getElem?_cons_succ, digs_get n m _ i (by omega), Nat.div_div_eq_div_mul, ← Nat.pow_add, Nat.mul_succ, Nat.add_comm n]
/-- a long division's state after i digits from the top -/
def DivInv (n m a b i : Nat) (r : Nat) (qs : List Int) : Prop := r = a / 2 ^ (n * (m - i)) % b ∧ dval n qs.reverse = ((a / 2 ^ (n * (m - i)) / b : Nat) : Int) ∧ qs.length = i ∧ ∀ d ∈ qs, 0 ≤ d ∧ d < 2 ^ n
theorem divInv_zero {n m a b : Nat} (h : a < 2 ^ (n * m)) : DivInv n m a b 0 0 [] := by
  have : a / 2 ^ (n * (m - 0)) = 0 := Nat.div_eq_of_lt h
  refine ⟨by rw [this]; simp, by rw [this]; simp [dval], rfl, fun d hd => nomatch hd⟩
theorem divInv_step {n m a b i d r : Nat} {qs : List Int} (hb : 1 ≤ b) (h : DivInv n m a b i r qs) (hi : i < m) (hd : d = a / 2 ^ (n * (m - 1 - i)) % 2 ^ n) : DivInv n m a b (i + 1) ((r * 2 ^ n + d) % b) (qs ++ [((((r * 2 ^ n + d) / b : Nat)) : Int)]) := by
  obtain ⟨h1, h2, h3, h4⟩ := h
  have e1 : m - (i + 1) = m - 1 - i := by omega
  have e2 : m - i = m - 1 - i + 1 := by omega
  have hA : a / 2 ^ (n * (m - i)) = a / 2 ^ (n * (m - 1 - i)) / 2 ^ n := by
    rw [Nat.div_div_eq_div_mul, ← Nat.pow_add, e2, Nat.mul_succ]
  rw [hA] at h1 h2
  unfold DivInv
  rw [e1]
  generalize a / 2 ^ (n * (m - 1 - i)) = A at *
  subst hd
  have hp : 0 < 2 ^ n := Nat.pow_pos (by decide)
  have hr : r < b := by rw [h1]; exact Nat.mod_lt _ hb
  have key : A = A / 2 ^ n / b * 2 ^ n * b + (r * 2 ^ n + A % 2 ^ n) := by
    have a1 := Nat.div_add_mod A (2 ^ n)
    have a2 := Nat.div_add_mod (A / 2 ^ n) b
    rw [← h1] at a2
    have a3 : (b * (A / 2 ^ n / b) + r) * 2 ^ n = A / 2 ^ n * 2 ^ n := by rw [a2]
    rw [Nat.add_mul] at a3
    have a4 : b * (A / 2 ^ n / b) * 2 ^ n = A / 2 ^ n / b * 2 ^ n * b := by rw [Nat.mul_comm b, Nat.mul_assoc, Nat.mul_assoc, Nat.mul_comm b]
    rw [Nat.mul_comm (2 ^ n)] at a1
    omega
  generalize hx : r * 2 ^ n + A % 2 ^ n = x at *
  have k1 : A % b = x % b := by
    conv => lhs; rw [key]
    rw [Nat.add_comm, Nat.add_mul_mod_self_right]
  have k2 : A / b = A / 2 ^ n / b * 2 ^ n + x / b := by
    conv => lhs; rw [key]
    rw [Nat.add_comm, Nat.add_mul_div_right _ _ hb, Nat.add_comm]
  refine ⟨k1.symm, ?_, by rw [List.length_append, h3]; rfl, fun d hd => ?_⟩
  · rw [List.reverse_append, List.reverse_cons, List.reverse_nil, List.nil_append, List.singleton_append, dval, h2, k2]
    rw [Int.natCast_add, Int.natCast_mul, Int.natCast_pow]
    rw [Int.mul_comm]
    exact Int.add_comm _ _
  · rcases List.mem_append.mp hd with hd | hd
    · exact h4 d hd
    · rw [List.mem_singleton.mp hd]
      refine ⟨Int.natCast_nonneg _, ?_⟩
      have h5 : x < b * 2 ^ n := by
        have h6 : A % 2 ^ n < 2 ^ n := Nat.mod_lt _ hp
        have h7 : (r + 1) * 2 ^ n ≤ b * 2 ^ n := Nat.mul_le_mul_right _ hr
        rw [Nat.add_mul, Nat.one_mul] at h7
        omega
      have h8 : x / b < 2 ^ n := Nat.div_lt_of_lt_mul h5
      exact_mod_cast h8
theorem divInv_end {n m a b r : Nat} {qs : List Int} (h : DivInv n m a b m r qs) : r = a % b ∧ dval n qs.reverse = ((a / b : Nat) : Int) := by
  obtain ⟨h1, h2, _, _⟩ := h
  rw [Nat.sub_self, Nat.mul_zero, Nat.pow_zero, Nat.div_one] at h1 h2
  exact ⟨h1, h2⟩
theorem bits_facts {b : Nat} (h1 : 1 ≤ b) (h2 : b < 2 ^ 20) : ∃ n : Nat, (Builtin.Int.intBits (b : Int) : Nat) = n ∧ 1 ≤ n ∧ n ≤ 20 ∧ b < 2 ^ n := by
  refine ⟨_, rfl, ?_⟩
  have e : Builtin.Int.intBits (b : Int) = b.log2 + 1 := by
    unfold Builtin.Int.intBits
    rw [if_neg (by simpa using (show ¬ b = 0 by omega))]; simp
  rw [e]
  refine ⟨by omega, ?_, Nat.lt_log2_self⟩
  have := (Nat.log2_lt (by omega : b ≠ 0)).mpr h2
  omega
theorem cdiv_mul {x n : Nat} (hn : 1 ≤ n) (hn2 : n ≤ 20) (hx : x < 2 ^ 40) : n * cdiv x n ≤ 60 := by
  unfold cdiv
  have hb : (if x = 0 then 0 else x.log2 + 1) ≤ 40 := by
    split
    · omega
    · rename_i h
      have := (Nat.log2_lt h).mpr hx
      omega
  generalize (if x = 0 then 0 else x.log2 + 1) = b at *
  have := Nat.mul_div_le (b + n - 1) n
  omega
inductive DivJ (n M a b : Nat) (al : Addr) (va : List Value) (tb : List (Addr × Obj)) (i : Nat) (m : Str → Option Value) (nx : List (Addr × Obj)) : Prop
  | mk (r : Nat) (qs : List Int) (vq : List Value) (lq : Addr) (kq : Nat) (tr tn t2 : Tok) (h0 : m (Str.ofString "n") = some (.int (n : Int) tn)) (h1 : m (Str.ofString "b") = some (.int (b : Int) t2)) (h2 : m (Str.ofString "q_digits") = some (.ref lq)) (h3 : m (Str.ofString "r") = some (.int (r : Int) tr)) (h4 : IntsAre vq qs) (h5 : DivInv n M a b i r qs) (h6 : @LT.lt Nat _ al lq) (h7 : (∀ p ∈ (lq, W.listOf vq.toArray kq) :: (al, W.listOf va.toArray 0) :: tb, p ∈ nx))
theorem rev_get {n M a i : Nat} {va : List Value} {v : Value} (h : IntsAre va (digs n M a)) (e : va.reverse[i]? = some v) : i < M ∧ ∃ t, v = .int ((a / 2 ^ (n * (M - 1 - i)) % 2 ^ n : Nat) : Int) t := by
  have hl := h.length
  rw [digs_length] at hl
  have hi : i < va.length := by
    have := (List.getElem?_eq_some_iff.mp e).1
    rwa [List.length_reverse] at this
  refine ⟨by omega, ?_⟩
  rw [List.getElem?_reverse hi] at e
  obtain ⟨t, ht⟩ := h.get (M - 1 - i) _ (digs_get n M a (M - 1 - i) (by omega))
  have e2 : va.length - 1 - i = M - 1 - i := by omega
  rw [e2, ht] at e
  exact ⟨t, (Option.some.inj e).symm⟩
inductive SplitTail (tb : List (Addr × Obj)) : List (Addr × Obj) → List (Addr × Obj) → Prop
  | nil : SplitTail tb [] tb
  | cons {p : Addr × Obj} {own news : List (Addr × Obj)} : SplitTail tb own news → SplitTail tb (p :: own) (p :: news)
theorem SplitTail.mem {tb own news : List (Addr × Obj)} (S : SplitTail tb own news) : (∀ p ∈ tb, p ∈ news) ∧ ∀ p ∈ own, p ∈ news := by
  induction S with
  | nil => exact ⟨fun _ h => h, fun _ h => nomatch h⟩
  | cons _ ih =>
    refine ⟨fun p h => .tail _ (ih.1 p h), fun p h => ?_⟩
    rcases List.mem_cons.mp h with rfl | h
    · exact .head _
    · exact .tail _ (ih.2 p h)
theorem TSpec.useS {prog : Program} {w : World} {f : Addr} {vs : List Value} {d : Nat} {Pre : Heap → Prop} {Post : Heap → List (Addr × Obj) → Value → Prop}
  {p : Program} {loose : List Str} {mean : ExcName → Option Value} {mg mb : Str → Option Value} {dp un : Nat} {gd : Option (List Code)} {cn : Str} {cs : Scope} {a : Addr} {ccd : Value} {cl : List (Str × Addr)} {outer : List Env} {A₀ : Around} {base h₀ : Heap} {L : Addr} {m : Str → Option Value} {s : Shared} {news tb own : List (Addr × Obj)}
    {Q E : Value → Shared → Prop} (C : TSpec TabL prog w f vs d Pre Post) (S : SplitTail tb own news) (B : Below A₀ base outer h₀) (F : Fr h₀ L s.heap m) (X : (hd.heap_1 w.params).In h₀) (N : News h₀ L s.heap news) (T : Top p loose mean mg mb h₀) (C1 : CodeHd base 41 37) (C2 : CodeHd base 48 44) (ht : TabL tb) (hk : cs.kind = .function) (hd : dp + d < recursionLimit) (hu : un + 8 * d < cLine) (hp : Pre s.heap)
    (hoff : ∀ p ∈ own, (∀ vs, p.2.data ≠ .fields vs) ∨ ∀ q ∈ tb, q.1 ≠ p.1)
    (ret : ∀ r h' tk' res tb', TabL tb' → TabStep s.heap h' tb tb' → Fr h₀ L h' m → News h₀ L h' (res ++ (own ++ tb')) → (∀ q ∈ res, ∀ p ∈ news, p.1 < q.1) → (∀ q ∈ res, @LT.lt Nat _ L q.1) → (∀ p ∈ own, ∀ q ∈ tb', q.1 ≠ p.1) → Post h' res r → Q r { s with heap := h', toks := tk' }) :
    wpAny (model prog w) (ktrTop dp un gd cn cs L a ccd cl outer) (call (.ref f) vs) Q E s :=
  TSpec.use own C B F X N T C1 C2 ht hk hd hu hp S.mem.1 S.mem.2 hoff ret

theorem InstAt.of_base {g h : Heap} {L x C dx : Addr} {m : Str → Option Value} {od : Obj} {sl : Array (Option Value)} (F : Fr g L h m) (h1 : g.get? x = some (⟨.ref C, some dx, .plain, sl⟩ : Obj)) (h2 : g.get? dx = some od) :
    InstAt h x ⟨.ref C, some dx, .plain, sl⟩ C (some od) := ⟨F.keep _ _ h1, rfl, rfl, F.keep _ _ h2⟩
/-- an object of Whitespace stands in the heap -/
inductive WhiteAt (w : World) (l : List Nat) (x : Addr) (h : Heap) : Prop
  | mk (d tn tc : Addr) (vc : List Value) (res : List (Addr × Obj)) (h0 : WhiteRes w l x d tn tc vc res) (h1 : ∀ p ∈ res, h.get? p.1 = some p.2)
theorem WhiteAt.keeps {w : World} {l : List Nat} {x : Addr} {h h' : Heap} (W : WhiteAt w l x h) (k : ∀ b o, (∀ vs, o.data ≠ .fields vs) → h.get? b = some o → h'.get? b = some o) : WhiteAt w l x h' := by
  obtain ⟨d, tn, tc, vc, res, ⟨raw, u0, u1, u2, u3, u4, v0, v1, v2, vb, hi, rfl⟩, hr⟩ := W
  refine ⟨d, tn, tc, vc, _, ⟨raw, u0, u1, u2, u3, u4, v0, v1, v2, vb, hi, rfl⟩, fun p hp => k _ _ ?_ (hr p hp)⟩
  simp only [List.mem_cons, List.not_mem_nil, or_false] at hp
  rcases hp with rfl | rfl | rfl | rfl <;> (intro vs e; cases e)
/-- the fold of a lead: the number, and what divides it -/
def foldA (l : List Nat) : Nat := (dval 3 (whAll l).1).toNat
def foldB (n : Nat) : Nat := 8 ^ n - 1
inductive FoldPost (l : List Nat) (n : Nat) (_ : Heap) (res : List (Addr × Obj)) (r : Value) : Prop
  | mk (a : Addr) (t u : Tok) (h0 : r = .ref a) (h1 : res = [(a, tupObj #[.int ((foldA l / foldB n : Nat) : Int) t, .int ((foldA l % foldB n : Nat) : Int) u])])
/-- what the digits of a lead must be -/
def LeadOk (l : List Nat) : Prop := (∀ d ∈ (whAll l).1, 0 ≤ d ∧ d < 2 ^ 3) ∧ (whAll l).1.length ≤ 13
theorem foldA_is {l : List Nat} (h : LeadOk l) : dval 3 (whAll l).1 = ((foldA l : Nat) : Int) ∧ foldA l < 2 ^ 40 := by
  obtain ⟨h1, h2⟩ := h
  obtain ⟨b1, b2⟩ := dval_bound 3 _ h1
  have h3 : (2 : Int) ^ (3 * (whAll l).1.length) ≤ 2 ^ 39 := by
    have := Nat.pow_le_pow_right (n := 2) (by decide) (show 3 * (whAll l).1.length ≤ 39 by omega)
    exact_mod_cast this
  unfold foldA
  constructor
  · rw [Int.toNat_of_nonneg b1]
  · have : (2 : Int) ^ 39 < 2 ^ 40 := by decide
    omega
theorem foldB_is {n : Nat} (h : 1 ≤ n ∧ n ≤ 6) : (8 : Int) ^ n - 1 = ((foldB n : Nat) : Int) ∧ 1 ≤ foldB n ∧ foldB n < 2 ^ 20 := by
  obtain ⟨h1, h2⟩ := h
  have : n = 1 ∨ n = 2 ∨ n = 3 ∨ n = 4 ∨ n = 5 ∨ n = 6 := by omega
  rcases this with rfl | rfl | rfl | rfl | rfl | rfl <;> decide

/-- what indent_level adds up -/
def ilSum (cs : List Int) (ts : Nat) : Nat → Int
  | 0 => 0
  | k + 1 => ilSum cs ts k + (((ts : Int) + (k : Int)).fdiv (ts : Int)) * cs.getD ((ts : Int) + (k : Int)).toNat 0
def indentOf (l : List Nat) (ts : Nat) : Int := (whAll l).2.1 + (ts : Int) * (ilSum (whAll l).1 ts ((whAll l).1.length - ts) + (whAll l).2.2.2)
inductive IndJ (ts : Nat) (cs : List Int) (x tc : Addr) (ct : Int) (i : Nat) (m : Str → Option Value) (nx : List (Addr × Obj)) : Prop
  | mk (t1 t2 t3 : Tok) (h0 : m (Str.ofString "self") = some (.ref x)) (h1 : m (Str.ofString "tabsize") = some (.int (ts : Int) t1)) (h2 : m (Str.ofString "count") = some (.ref tc)) (h3 : m (Str.ofString "trailing") = some (.int ct t2)) (h4 : m (Str.ofString "il") = some (.int (ilSum cs ts i) t3))

def colOf (n : Nat) (l : List Nat) : Int := (wkAll n l).1
def wideOf (n : Nat) (l : List Nat) : List Int := (wkAll n l).2.2.1
def stopsOf (n : Nat) (l : List Nat) : List Int := (wkAll n l).2.2.2
/-- the rest's digits as the law shows them -/
def shownOf (n : Nat) (l : List Nat) : List Int := ((wideOf n l).dropWhile (· == 0)).reverse
def topOf (ss : List Int) : Int := ss.foldl max (-1)
def countsOf (ss : List Int) : List Int := (List.range (topOf ss + 1).toNat).map (fun j => ((ss.count ((j : Nat) : Int) : Nat) : Int))
def anewOf (n : Nat) (l : List Nat) : List Nat :=
  (List.range (shownOf n l).length).flatMap (fun j => (List.replicate ((shownOf n l).getD j 0).toNat (List.replicate j 32 ++ [9])).flatten) ++ List.replicate (whAll l).2.1.toNat 32
structure ToldOk (n : Nat) (l : List Nat) : Prop where
  len : l.length ≤ 24
  signs : ∀ c ∈ l, c = 32 ∨ c = 9
  lead : LeadOk l
  wlen : (wideOf n l).length = n
  slen : (shownOf n l).length ≤ 6
  tail : 0 ≤ (whAll l).2.1 ∧ (whAll l).2.1 ≤ 24
  some : (wideOf n l).dropWhile (· == 0) ≠ []
  rest : digs 3 (cdiv (foldA l % foldB n) 3) (foldA l % foldB n) = shownOf n l
  many : digs 3 (cdiv (foldA l / foldB n) 3) (foldA l / foldB n) = countsOf (stopsOf n l)
  stops : (stopsOf n l).length ≤ 200 ∧ ∀ d ∈ stopsOf n l, 0 ≤ d ∧ d < 100
  shown : ∀ d ∈ shownOf n l, 0 ≤ d ∧ d < 8
  alen : (anewOf n l).length ≤ 24
  asigns : ∀ c ∈ anewOf n l, c = 32 ∨ c = 9
  alead : LeadOk (anewOf n l)
  due : ∀ part, 1 ≤ part → part ≤ n → n % part = 0 → indentOf l part = colOf part l ∧ indentOf (anewOf n l) part = colOf part l - (n : Int) * ((stopsOf n l).length : Int)
abbrev wDict (w : World) (l : List Nat) (raw : Str) (tn : Addr) (u0 u1 u2 u3 u4 v0 v1 v2 : Tok) : Obj := dictOf [ent w "raw" u0 (.str raw v0), ent w "n" u1 (.int (whAll l).2.2.1 v1), ent w "nt" u2 (.int (whAll l).2.2.2 v2), ent w "norm" u3 (.ref tn), ent w "is_simple" u4 (.bool (decide ((((whAll l).1.length : Nat) : Int) ≤ 1)))] 5
/-- between two cuts of shown -/
inductive ToldJ (n : Nat) (l : List Nat) (L' xw : Addr) (tl t0 tq tr : Tok) (rest : List (Addr × Obj)) (k : Nat) (m : Str → Option Value) (nx : List (Addr × Obj)) : Prop
  | mk (j : Nat) (D : Addr) (vs : List Value) (oS : Obj) (h0 : k = n - j) (h1 : j ≤ n) (h2 : (wideOf n l).dropWhile (· == 0) = ((wideOf n l).drop j).dropWhile (· == 0)) (h3 : IntsAre vs ((wideOf n l).drop j).reverse) (h4 : oS.data = .cell (some (.ref D))) (h5 : @LT.lt Nat _ (L' + 1 + 1) D) (h6 : m (Str.ofString "lead") = some (.str (text l) tl)) (h7 : m (Str.ofString "size") = some (.int (n : Int) t0)) (h8 : m (Str.ofString "white") = some (.ref xw)) (h9 : m (Str.ofString "many") = some (.int ((foldA l / foldB n : Nat) : Int) tq)) (h10 : m (Str.ofString "rest") = some (.int ((foldA l % foldB n : Nat) : Int) tr)) (h11 : (∀ p ∈ (D, W.listOf vs.toArray 0) :: (L' + 1 + 1, oS) :: rest, p ∈ nx))
theorem drop_zero_step {ws : List Int} {j : Nat} (hj : j < ws.length) (h : ws.dropWhile (· == 0) = (ws.drop j).dropWhile (· == 0)) (h0 : ws[j] = 0) : ws.dropWhile (· == 0) = (ws.drop (j + 1)).dropWhile (· == 0) := by
  rw [h, List.drop_eq_getElem_cons hj, List.dropWhile_cons, h0]; simp
theorem drop_nonzero {ws : List Int} {j : Nat} (hj : j < ws.length) (h : ws.dropWhile (· == 0) = (ws.drop j).dropWhile (· == 0)) (h0 : ws[j] ≠ 0) : ws.dropWhile (· == 0) = ws.drop j := by
  rw [h, List.drop_eq_getElem_cons hj, List.dropWhile_cons, if_neg (by simpa using h0)]
theorem rev_last {ws : List Int} {j : Nat} (hj : j < ws.length) : ((ws.drop j).reverse).getD ((-1 : Int) + (((ws.drop j).reverse.length : Nat) : Int)).toNat 0 = ws[j] := by
  rw [List.drop_eq_getElem_cons hj, List.reverse_cons, List.length_append, List.length_reverse, List.length_cons, List.length_nil]
  have : ((-1 : Int) + (((ws.drop (j + 1)).length + (0 + 1) : Nat) : Int)).toNat = (ws.drop (j + 1)).reverse.length := by rw [List.length_reverse]; omega
  rw [this, List.getD_eq_getElem?_getD, List.getElem?_append_right (Nat.le_refl _), Nat.sub_self]; rfl
theorem take_rev {ws : List Int} {j : Nat} (hj : j < ws.length) : ((ws.drop j).reverse).take (((ws.drop j).reverse).length - 1) = (ws.drop (j + 1)).reverse := by
  rw [List.drop_eq_getElem_cons hj, List.reverse_cons, List.length_append, List.length_cons, List.length_nil, Nat.zero_add, Nat.add_sub_cancel, List.take_append_of_le_length (Nat.le_refl _), List.take_length]
theorem ints_take_rev {vs : List Value} {ws : List Int} {j : Nat} (hj : j < ws.length) (h : IntsAre vs (((ws.drop j).reverse).take (((ws.drop j).reverse).length - 1))) : IntsAre vs (ws.drop (j + 1)).reverse := by
  rw [← take_rev hj]; exact h
section
variable {prog : Program} {w : World} {A : Around} {E : Value → Shared → Prop} {s : Shared} {h₀ : Heap} {L : Addr} {m : Str → Option Value} {env : Env}
/-- a comprehension without a test whose elements leave the ledger as it was -/
theorem comp_gen {elt : Expr} {x : Str} {scope : Scope} {cl : List (Str × Addr)} {S : List (Addr × Obj) → Prop} {P : Nat → Value → Prop} {Fin : List Value → List (Addr × Obj) → Prop} {n : Nat} {news : List (Addr × Obj)} (R : Nat → Value → Prop)
    (turn : ∀ i v ys I oI C oC D m₂ h tk (E' : Value → Shared → Prop), i < n → P i v → LCg.NsObj oC m₂ → m₂ x = some v → Fr h₀ L h m → News h₀ L h ((I, oI) :: (C, oC) :: (D, LCg.lst ys) :: news) → LCg.Off3 I C D news → ((@Ne Nat I C) ∧ (@Ne Nat I D) ∧ (@Ne Nat C D)) →
      wpAny (model prog w) A (eval elt (compEnvC scope cl C env)) (LCg.CompEnd h₀ L m { s with heap := h, toks := tk } I oI C oC D (LCg.lst ys) S (fun y news' => news' = news ∧ R i y)) E' { s with heap := h, toks := tk })
    (fin : ∀ ys, ys.length = n → (∀ i y, ys[i]? = some y → R i y) → Fin ys news) : LCg.CompRest prog w A h₀ L m env elt x scope cl s S P Fin n 0 [] news := by
  have all : ∀ k i ys, i + k = n → ys.length = i → (∀ i y, ys[i]? = some y → R i y) → LCg.CompRest prog w A h₀ L m env elt x scope cl s S P Fin k i ys news := by
    intro k
    induction k with
    | zero =>
      intro i ys e hl hr
      exact fin ys (by omega) hr
    | succ k ih =>
      intro i ys e hl hr
      refine LCg.CompRest.succ fun v I oI C oC D m₂ h tk E' hP hC hx F N off ne => ?_
      refine wpAny_mono (turn i v ys I oI C oC D m₂ h tk E' (by omega) hP hC hx F N off ne) (fun y s₂ hy => compEnd_mono hy ?_) fun _ _ e => e
      rintro nn ⟨rfl, hRy⟩
      refine ih (i + 1) _ (by omega) (by rw [List.length_append, hl]; rfl) fun i' y' hg => ?_
      rcases Nat.lt_or_ge i' ys.length with h1 | h1
      · rw [List.getElem?_append_left h1] at hg; exact hr i' y' hg
      · rw [List.getElem?_append_right h1] at hg
        cases q : i' - ys.length with
        | zero =>
          rw [q] at hg
          have : i' = i := by omega
          subst this
          cases hg
          exact hRy
        | succ r => rw [q] at hg; cases hg
  exact all n 0 [] (by omega) rfl fun i y h => by simp at h
end
theorem ints_of_get (f : Nat → Int) : ∀ {ys : List Value} {k n : Nat}, ys.length = n → (∀ i y, ys[i]? = some y → ∃ t : Tok, y = Value.int (f (k + i)) t) → IntsAre ys ((List.range n).map fun i => f (k + i))
  | [], k, n, h, _ => by subst h; exact .nil
  | y :: ys, k, n, h, hr => by
    subst h
    obtain ⟨t, rfl⟩ := hr 0 y rfl
    rw [List.length_cons, List.range_succ_eq_map, List.map_cons, List.map_map]
    refine .cons _ _ ?_
    have := ints_of_get f (ys := ys) (k := k + 1) rfl fun i y hy => by
      have := hr (i + 1) y (by simpa using hy)
      rwa [show k + 1 + i = k + (i + 1) by omega]
    have e : ((fun i => f (k + i)) ∘ Nat.succ) = fun i => f (k + 1 + i) := funext fun i => by show f (k + (i + 1)) = _; rw [show k + (i + 1) = k + 1 + i by omega]
    rw [e]; exact this
theorem foldl_max_facts : ∀ (ss : List Int) (a : Int), a ≤ ss.foldl max a ∧ (∀ d ∈ ss, d ≤ ss.foldl max a) ∧ (ss.foldl max a = a ∨ ss.foldl max a ∈ ss)
  | [], a => ⟨Int.le_refl _, fun d h => (nomatch h), .inl rfl⟩
  | d :: ss, a => by
    obtain ⟨h1, h2, h3⟩ := foldl_max_facts ss (max a d)
    rw [List.foldl_cons]
    refine ⟨by omega, fun e he => ?_, ?_⟩
    · rcases List.mem_cons.mp he with rfl | he
      · omega
      · exact h2 e he
    · rcases h3 with h3 | h3
      · rw [h3]
        rcases Int.le_total a d with q | q
        · right; rw [Int.max_eq_right q]; exact .head _
        · left; exact Int.max_eq_left q
      · right; exact .tail _ h3
theorem top_is {ss : List Int} {M : Int} (h : M ∈ ss ++ [-1]) (b : ∀ a, a ∈ ss ++ [-1] → a ≤ M) : M = topOf ss := by
  obtain ⟨h1, h2, h3⟩ := foldl_max_facts ss (-1)
  unfold topOf
  generalize ss.foldl max (-1) = T at *
  have a1 : M ≤ T := by
    rcases List.mem_append.mp h with h | h
    · exact h2 _ h
    · rw [List.mem_singleton.mp h]; exact h1
  have a2 : T ≤ M := by
    rcases h3 with h3 | h3
    · rw [h3]; exact b _ (List.mem_append.mpr (.inr (.head _)))
    · exact b _ (List.mem_append.mpr (.inl h3))
  omega
theorem top_bounds {ss : List Int} (h : ∀ d ∈ ss, 0 ≤ d ∧ d < 100) : -1 ≤ topOf ss ∧ topOf ss < 100 := by
  obtain ⟨h1, h2, h3⟩ := foldl_max_facts ss (-1)
  unfold topOf
  rcases h3 with h3 | h3
  · rw [h3]; omega
  · have := h _ h3
    omega
theorem mul_text (l : List Nat) (k : Int) : Txt.mul (text l) k = text (List.replicate k.toNat l).flatten := by
  show (if k < 1 then Str.empty else if (k == 1 || (text l).length == 0) = true then (text l) else ⟨(List.replicate k.toNat (text l).cps).foldl (· ++ ·) #[]⟩) = _
  by_cases h : k < 1
  · rw [if_pos h, show k.toNat = 0 by omega]; rfl
  · rw [if_neg h]
    have gen : ∀ (n : Nat) (acc : List Nat), (List.replicate n (text l).cps).foldl (· ++ ·) acc.toArray = (acc ++ (List.replicate n l).flatten).toArray := by
      intro n
      induction n with
      | zero => intro acc; simp
      | succ n ih =>
        intro acc
        rw [List.replicate_succ, List.foldl_cons, List.replicate_succ, List.flatten_cons]
        have e : acc.toArray ++ (text l).cps = (acc ++ l).toArray := by rw [show (text l).cps = l.toArray from rfl]; simp
        rw [e, ih, List.append_assoc]
    have g0 := gen k.toNat []
    simp only [List.nil_append] at g0
    by_cases h1 : (k == 1 || (text l).length == 0) = true
    · rw [if_pos h1]
      rcases (Bool.or_eq_true _ _).mp h1 with q | q
      · have : k = 1 := by simpa using q
        subst this
        show text l = text (List.replicate 1 l).flatten
        simp
      · have : l = [] := by
          have q' : (text l).length = 0 := by simpa using q
          have q2 : (text l).length = l.length := by
            show (text l).cps.size = _
            simp [text]
          exact List.eq_nil_of_length_eq_zero (q2.symm.trans q')
        subst this
        simp
    · rw [if_neg h1]
      show Str.mk _ = Str.mk _
      exact congrArg Str.mk g0
def piece (n : Nat) (l : List Nat) (i : Nat) : List Nat := (List.replicate ((shownOf n l).getD i 0).toNat (List.replicate i 32 ++ [9])).flatten
theorem anew_is (n : Nat) (l : List Nat) : anewOf n l = ((List.range (shownOf n l).length).map (piece n l)).flatten ++ List.replicate (whAll l).2.1.toNat 32 := by
  unfold anewOf piece
  rw [List.flatMap_def]
theorem piece_text (n : Nat) (l : List Nat) (i : Nat) : Txt.mul (Txt.mul (Str.ofString " ") (0 + ((i : Nat) : Int)) ++ Str.ofString "\t") ((shownOf n l).getD (0 + ((i : Nat) : Int)).toNat 0) = text (piece n l i) := by
  have e : (0 + ((i : Nat) : Int)).toNat = i := by omega
  rw [blank_text, tab_text, text_append, mul_text, e]; rfl
theorem strs_of_get (f : Nat → Str) : ∀ {ys : List Value} {k n : Nat}, ys.length = n → (∀ i y, ys[i]? = some y → ∃ t : Tok, y = Value.str (f (k + i)) t) → StrsAre ys ((List.range n).map fun i => f (k + i))
  | [], k, n, h, _ => by subst h; exact .nil
  | y :: ys, k, n, h, hr => by
    subst h
    obtain ⟨t, rfl⟩ := hr 0 y rfl
    rw [List.length_cons, List.range_succ_eq_map, List.map_cons, List.map_map]
    refine .cons _ _ ?_
    have := strs_of_get f (ys := ys) (k := k + 1) rfl fun i y hy => by
      have := hr (i + 1) y (by simpa using hy)
      rwa [show k + 1 + i = k + (i + 1) by omega]
    have e : ((fun i => f (k + i)) ∘ Nat.succ) = fun i => f (k + 1 + i) := funext fun i => by show f (k + (i + 1)) = _; rw [show k + (i + 1) = k + 1 + i by omega]
    rw [e]; exact this
theorem join_texts : ∀ ls : List (List Nat), Txt.join (Str.ofString "") (ls.map text) = text ls.flatten
  | [] => by rw [Txt.join, StrLaws.glued_eq_join]; rfl
  | [a] => by rw [Txt.join, StrLaws.glued_eq_join, List.flatten_cons, List.flatten_nil, List.append_nil]; rfl
  | a :: b :: r => by
    have h := join_texts (b :: r)
    rw [Txt.join, StrLaws.glued_eq_join] at h ⊢
    rw [List.flatten_cons, ← text_append, ← h]
    show text a ++ Str.ofString "" ++ Str.join (Str.ofString "") (text b :: r.map text) = _
    rw [show text a ++ Str.ofString "" = text a from Str.append_empty _]; rfl
theorem text_len (l : List Nat) : (text l).length = l.length := by
  show (text l).cps.size = _
  simp [text]
theorem sum_texts : ∀ ls : List (List Nat), ((ls.map text).map (·.length)).sum = ls.flatten.length
  | [] => rfl
  | a :: r => by rw [List.map_cons, List.map_cons, List.sum_cons, sum_texts r, text_len, List.flatten_cons, List.length_append]
/-- between two parts -/
inductive PartJ (n : Nat) (l : List Nat) (xw xf : Addr) (tl t0 : Tok) (rest : List (Addr × Obj)) (_i : Nat) (m : Str → Option Value) (nx : List (Addr × Obj)) : Prop
  | mk  (h0 : m (Str.ofString "lead") = some (.str (text l) tl)) (h1 : m (Str.ofString "size") = some (.int (n : Int) t0)) (h2 : m (Str.ofString "white") = some (.ref xw)) (h3 : m (Str.ofString "folded") = some (.ref xf)) (h4 : ∀ p ∈ rest, p ∈ nx)

def sevens : List Nat := [0, 1, 2, 3, 4, 5, 6]
theorem wk_blanks (n : Nat) (l : List Nat) (k : Nat) : wkAll n (l ++ List.replicate k 32) = ((wkAll n l).1 + (k : Int), (wkAll n l).2.1, (wkAll n l).2.2.1, (wkAll n l).2.2.2) := by
  induction k with
  | zero => simp
  | succ k ih =>
    rw [List.replicate_succ', ← List.append_assoc]
    unfold wkAll at ih ⊢
    rw [List.foldl_append, ih, List.foldl_cons, List.foldl_nil, wkStep, if_pos rfl]
    simp only [Int.natCast_add, Int.natCast_one, Int.add_assoc]
theorem wh_blanks (l : List Nat) (k : Nat) : whAll (l ++ List.replicate k 32) = ((whAll l).1, (whAll l).2.1 + (k : Int), (whAll l).2.2.1 + (k : Int), (whAll l).2.2.2) := by
  induction k with
  | zero => simp
  | succ k ih =>
    rw [List.replicate_succ', ← List.append_assoc]
    unfold whAll at ih ⊢
    rw [List.foldl_append, ih, List.foldl_cons, List.foldl_nil, whStep, if_pos rfl]
    simp only [Int.natCast_add, Int.natCast_one, Int.add_assoc]
section
variable (n : Nat) (l : List Nat) (k : Nat)
theorem col_blanks : colOf n (l ++ List.replicate k 32) = colOf n l + (k : Int) := by unfold colOf; rw [wk_blanks]
theorem wide_blanks : wideOf n (l ++ List.replicate k 32) = wideOf n l := by unfold wideOf; rw [wk_blanks]
theorem stops_blanks : stopsOf n (l ++ List.replicate k 32) = stopsOf n l := by unfold stopsOf; rw [wk_blanks]
theorem shown_blanks : shownOf n (l ++ List.replicate k 32) = shownOf n l := by unfold shownOf; rw [wide_blanks]
theorem foldA_blanks : foldA (l ++ List.replicate k 32) = foldA l := by unfold foldA; rw [wh_blanks]
theorem indent_blanks : indentOf (l ++ List.replicate k 32) n = indentOf l n + (k : Int) := by
  unfold indentOf
  rw [wh_blanks]
  dsimp only
  omega
theorem anew_blanks (h0 : (whAll l).2.1 = 0) : anewOf n (l ++ List.replicate k 32) = anewOf n l ++ List.replicate k 32 := by
  unfold anewOf
  rw [shown_blanks, wh_blanks, h0]
  dsimp only
  have e : (0 + (k : Int)).toNat = k := by omega
  rw [e, Int.toNat_zero, List.replicate_zero, List.append_nil]
end
theorem told_of {n : Nat} {l : List Nat} (a1 : l.length ≤ 21) (a2 : ∀ c ∈ l, c = 32 ∨ c = 9) (a3 : ∀ d ∈ (whAll l).1, 0 ≤ d ∧ d < 8) (a4 : (whAll l).1.length ≤ 13) (a5 : (wideOf n l).length = n) (a6 : (shownOf n l).length ≤ 6) (a7 : (whAll l).2.1 = 0) (a8 : (wideOf n l).dropWhile (· == 0) ≠ [])
    (b1 : digs 3 (cdiv (foldA l % foldB n) 3) (foldA l % foldB n) = shownOf n l) (b2 : digs 3 (cdiv (foldA l / foldB n) 3) (foldA l / foldB n) = countsOf (stopsOf n l)) (c1 : (stopsOf n l).length ≤ 200) (c2 : ∀ d ∈ stopsOf n l, 0 ≤ d ∧ d < 100) (c3 : ∀ d ∈ shownOf n l, 0 ≤ d ∧ d < 8)
    (d1 : (anewOf n l).length ≤ 21) (d2 : ∀ c ∈ anewOf n l, c = 32 ∨ c = 9) (d3 : ∀ d ∈ (whAll (anewOf n l)).1, 0 ≤ d ∧ d < 8) (d4 : (whAll (anewOf n l)).1.length ≤ 13)
    (e1 : ∀ part, 1 ≤ part → part ≤ n → n % part = 0 → indentOf l part = colOf part l ∧ indentOf (anewOf n l) part = colOf part l - (n : Int) * ((stopsOf n l).length : Int)) (k : Nat) (hk : k ≤ 3) : ToldOk n (l ++ List.replicate k 32) := by
  have hsp : ∀ c ∈ List.replicate k 32, c = 32 ∨ c = 9 := fun c hc => .inl (List.eq_of_mem_replicate hc)
  have hlead : ∀ m : List Nat, (∀ d ∈ (whAll m).1, 0 ≤ d ∧ d < 8) → (whAll m).1.length ≤ 13 → LeadOk (m ++ List.replicate k 32) := fun m h1 h2 => by
    unfold LeadOk
    rw [wh_blanks]
    exact ⟨fun d hd => by have := h1 d hd; exact ⟨this.1, by show d < 8; exact this.2⟩, h2⟩
  constructor
  · rw [List.length_append, List.length_replicate]; omega
  · exact List.forall_mem_append.mpr ⟨a2, hsp⟩
  · exact hlead l a3 a4
  · rw [wide_blanks]; exact a5
  · rw [shown_blanks]; exact a6
  · rw [wh_blanks, a7]; dsimp only; omega
  · rw [wide_blanks]; exact a8
  · rw [foldA_blanks, shown_blanks]; exact b1
  · rw [foldA_blanks, stops_blanks]; exact b2
  · rw [stops_blanks]; exact ⟨c1, c2⟩
  · rw [shown_blanks]; exact c3
  · rw [anew_blanks n l k a7, List.length_append, List.length_replicate]; omega
  · rw [anew_blanks n l k a7]; exact List.forall_mem_append.mpr ⟨d2, hsp⟩
  · rw [anew_blanks n l k a7]; exact hlead _ d3 d4
  · intro part h1 h2 h3
    obtain ⟨he1, he2⟩ := e1 part h1 h2 h3
    rw [anew_blanks n l k a7, indent_blanks, indent_blanks, col_blanks, stops_blanks, he1, he2]
    exact ⟨rfl, by omega⟩
theorem codes_split (rs : List Nat) (k : Nat) : codesOf rs k = codesOf rs 0 ++ List.replicate k 32 := by
  unfold codesOf
  rw [List.replicate_zero, List.append_nil]

/-- a contract: the call makes objects, and turns the ledger's part tb -/
def TSpec2 (TP TP' : List (Addr × Obj) → Prop) (prog : Program) (w : World) (f : Addr) (vs : List Value) (kw : List (Str × Value)) (d : Nat) (Pre : Heap → Prop) (Post : Heap → List (Addr × Obj) → Value → Prop) : Prop :=
  ∀ (p : Program) (loose : List Str) (mean : ExcName → Option Value) (mg mb : Str → Option Value) (dp un : Nat) (gd : Option (List Code)) (cn : Str) (cs : Scope) (a : Addr) (ccd : Value) (cl : List (Str × Addr)) (outer : List Env) (A₀ : Around) (base h₀ : Heap) (L : Addr) (m : Str → Option Value) (tb : List (Addr × Obj)) (s : Shared)
    (Q E : Value → Shared → Prop),
    Below A₀ base outer h₀ → Fr h₀ L s.heap m → (hd.heap_1 w.params).In h₀ → News h₀ L s.heap tb → Top p loose mean mg mb h₀ → CodeHd base 41 37 → CodeHd base 48 44 → TP tb → cs.kind = .function → dp + d < recursionLimit → un + 8 * d < cLine → Pre s.heap →
    (∀ r h' tk' res tb', (∀ b o, b ∉ tb.map (·.1) → s.heap.get? b = some o → h'.get? b = some o) → Fresh s.heap h' res → TP' tb' → (∀ p ∈ tb', h'.get? p.1 = some p.2 ∧ (s.heap.objs.size ≤ p.1 ∨ p.1 ∈ tb.map (·.1))) → Post h' res r → Q r { s with heap := h', toks := tk' }) →
    wpAny (model prog w) (ktrTop dp un gd cn cs L a ccd cl outer) (call (.ref f) vs kw) Q E s
theorem TSpec.to2 {TP : List (Addr × Obj) → Prop} {prog : Program} {w : World} {f : Addr} {vs : List Value} {d : Nat} {Pre : Heap → Prop} {Post : Heap → List (Addr × Obj) → Value → Prop} (C : TSpec TP prog w f vs d Pre Post) : TSpec2 TP TP prog w f vs [] d Pre Post := C
section
variable {TP TP' : List (Addr × Obj) → Prop} {prog : Program} {w : World} {f : Addr} {vs : List Value} {kw : List (Str × Value)} {d : Nat} {Pre : Heap → Prop} {Post : Heap → List (Addr × Obj) → Value → Prop}
  {p : Program} {loose : List Str} {mean : ExcName → Option Value} {mg mb : Str → Option Value} {dp un : Nat} {gd : Option (List Code)} {cn : Str} {cs : Scope} {a : Addr} {ccd : Value} {cl : List (Str × Addr)} {outer : List Env} {A₀ : Around} {base h₀ : Heap} {L : Addr} {m : Str → Option Value} {s : Shared} {news tb : List (Addr × Obj)}
    {Q E : Value → Shared → Prop}
theorem TSpec2.use (own : List (Addr × Obj)) (C : TSpec2 TP TP' prog w f vs kw d Pre Post) (B : Below A₀ base outer h₀) (F : Fr h₀ L s.heap m) (X : (hd.heap_1 w.params).In h₀) (N : News h₀ L s.heap news) (T : Top p loose mean mg mb h₀) (C1 : CodeHd base 41 37) (C2 : CodeHd base 48 44) (ht : TP tb) (hk : cs.kind = .function) (hd : dp + d < recursionLimit) (hu : un + 8 * d < cLine) (hp : Pre s.heap)
    (hs1 : ∀ p ∈ tb, p ∈ news) (hs2 : ∀ p ∈ own, p ∈ news) (hoff : ∀ p ∈ own, ∀ q ∈ tb, q.1 ≠ p.1)
    (ret : ∀ r h' tk' res tb', TP' tb' → TabStep s.heap h' tb tb' → Fr h₀ L h' m → News h₀ L h' (res ++ (own ++ tb')) → (∀ q ∈ res, ∀ p ∈ news, p.1 < q.1) → (∀ q ∈ res, @LT.lt Nat _ L q.1) → (∀ p ∈ own, ∀ q ∈ tb', q.1 ≠ p.1) → Post h' res r → Q r { s with heap := h', toks := tk' }) :
    wpAny (model prog w) (ktrTop dp un gd cn cs L a ccd cl outer) (call (.ref f) vs kw) Q E s := by
  have Nt : News h₀ L s.heap tb := fun p hp => N p (hs1 p hp)
  refine C _ _ _ _ _ _ _ _ _ _ _ _ _ _ _ _ _ _ _ _ _ _ _ B F X Nt T C1 C2 ht hk hd hu hp fun r h' tk' res tb' st fr tp tm po => ?_
  have offL : L ∉ tb.map (·.1) := fun hm => by
    obtain ⟨p, hp, e⟩ := List.mem_map.mp hm
    exact (Nt p hp).2.1 e
  have off : ∀ p ∈ own, p.1 ∉ tb.map (·.1) := fun p hp => ne_map.mpr (hoff p hp)
  have F' : Fr h₀ L h' m := ⟨F.ns.at' fun o e => st _ o offL e, fun b o e => st b o (fun hm => by
    obtain ⟨p, hp, e2⟩ := List.mem_map.mp hm
    have := (Nt p hp).2.2
    rw [e2, e] at this
    cases this) (F.keep b o e), F.above⟩
  have gt0 : ∀ b, s.heap.objs.size ≤ b → b ≠ L ∧ h₀.get? b = none := fun b hb => ⟨Nat.ne_of_gt (Nat.lt_of_lt_of_le F.ns.lt hb), by
    cases q : h₀.get? b with
    | none => rfl
    | some o => exact absurd (Heap.lt_size (F.keep _ _ q)) (Nat.not_lt.mpr hb)⟩
  refine ret r h' tk' res tb' tp ⟨st, tm⟩ F' (fun p hp => ?_) (fresh_lt N fr) (fun q hq => Nat.lt_of_lt_of_le F.ns.lt (fr q hq).2) (fun p hp q hq e => ?_) po
  · rcases List.mem_append.mp hp with hp | hp
    · exact ⟨(fr p hp).1, gt0 _ (fr p hp).2⟩
    · rcases List.mem_append.mp hp with hp | hp
      · exact ⟨st _ _ (off p hp) (N p (hs2 p hp)).1, (N p (hs2 p hp)).2⟩
      · obtain ⟨h1, h2⟩ := tm p hp
        refine ⟨h1, ?_⟩
        rcases h2 with h2 | h2
        · exact gt0 _ h2
        · obtain ⟨p', hp', e⟩ := List.mem_map.mp h2
          rw [← e]; exact (Nt p' hp').2
  · obtain ⟨h1, h2⟩ := tm q hq
    rcases h2 with h2 | h2
    · rw [e] at h2
      exact absurd (Heap.lt_size (N p (hs2 p hp)).1) (Nat.not_lt.mpr h2)
    · rw [e] at h2
      exact off p hp h2
end
/-- what stands, and the tables' part beside it -/
def Stands (ow : List (Addr × Obj)) (h : Heap) : Prop := ∀ p ∈ ow, h.get? p.1 = some p.2
def TabO (ow tb : List (Addr × Obj)) : Prop := TabL tb ∧ ∀ p ∈ ow, ∀ q ∈ tb, q.1 ≠ p.1
theorem TabO.sub {ow ow' tb : List (Addr × Obj)} (h : TabO ow' tb) (hs : ∀ p ∈ ow, p ∈ ow') : TabO ow tb := ⟨h.1, fun p hp => h.2 p (hs p hp)⟩
theorem Stands.sub {ow ow' : List (Addr × Obj)} {h : Heap} (x : Stands ow' h) (hs : ∀ p ∈ ow, p ∈ ow') : Stands ow h := fun p hp => x p (hs p hp)
/-- new entries keep off what stands -/
theorem off_step {h h' : Heap} {ow tb tb' : List (Addr × Obj)} (x : Stands ow h) (o : ∀ p ∈ ow, ∀ q ∈ tb, q.1 ≠ p.1) (t : ∀ p ∈ tb', h'.get? p.1 = some p.2 ∧ (h.objs.size ≤ p.1 ∨ p.1 ∈ tb.map (·.1))) : ∀ p ∈ ow, ∀ q ∈ tb', q.1 ≠ p.1 := fun p hp q hq e => by
  rcases (t q hq).2 with y | y
  · rw [e] at y
    exact absurd (Heap.lt_size (x p hp)) (Nat.not_lt.mpr y)
  · obtain ⟨q', hq', e'⟩ := List.mem_map.mp y
    exact o p hp q' hq' (e'.trans e)
/-- the ledger's tables' part beside what stands, for a contract of the tables alone -/
theorem TSpec2.liftO {prog : Program} {w : World} {f : Addr} {vs : List Value} {kw : List (Str × Value)} {d : Nat} {Pre : Heap → Prop} {Post : Heap → List (Addr × Obj) → Value → Prop} (ow : List (Addr × Obj)) (C : TSpec2 TabL TabL prog w f vs kw d Pre Post) (hp : ∀ h, Stands ow h → Pre h) :
    TSpec2 (TabO ow) (TabO ow) prog w f vs kw d (Stands ow) Post := by
  intro p loose mean mg mb dp un gd cn cs a ccd cl outer A₀ base h₀ L m tb s Q E B F X N T C1 C2 ht hk hdp hun hpre hret
  exact C p loose mean mg mb dp un gd cn cs a ccd cl outer A₀ base h₀ L m tb s Q E B F X N T C1 C2 ht.1 hk hdp hun (hp _ hpre) fun r h' tk' res tb' st fr tp tm po => hret r h' tk' res tb' st fr ⟨tp, off_step hpre ht.2 tm⟩ tm po
theorem TSpec2.moreO {prog : Program} {w : World} {f : Addr} {vs : List Value} {kw : List (Str × Value)} {d : Nat} {Post : Heap → List (Addr × Obj) → Value → Prop} {ow ow' : List (Addr × Obj)} (C : TSpec2 (TabO ow) (TabO ow) prog w f vs kw d (Stands ow) Post) (hs : ∀ p ∈ ow, p ∈ ow') :
    TSpec2 (TabO ow') (TabO ow') prog w f vs kw d (Stands ow') Post := by
  intro p loose mean mg mb dp un gd cn cs a ccd cl outer A₀ base h₀ L m tb s Q E B F X N T C1 C2 ht hk hdp hun hpre hret
  exact C p loose mean mg mb dp un gd cn cs a ccd cl outer A₀ base h₀ L m tb s Q E B F X N T C1 C2 (ht.sub hs) hk hdp hun (hpre.sub hs) fun r h' tk' res tb' st fr tp tm po => hret r h' tk' res tb' st fr ⟨tp.1, off_step hpre ht.2 tm⟩ tm po
/-- what stands at a callee's base -/
theorem Stands.base {ow tb : List (Addr × Obj)} {h g : Heap} (x : Stands ow h) (o : ∀ p ∈ ow, ∀ q ∈ tb, q.1 ≠ p.1) (hg : ∀ b o, b ∉ tb.map (·.1) → h.get? b = some o → g.get? b = some o) : Stands ow g := fun p hp => hg _ _ (ne_map.mpr (o p hp)) (x p hp)
theorem Stands.up {ow : List (Addr × Obj)} {g h : Heap} {L : Addr} {m : Str → Option Value} (x : Stands ow g) (F : Fr g L h m) : Stands ow h := fun p hp => F.keep _ _ (x p hp)
/-- a key: what a call of it hands back -/
def KeyAt (prog : Program) (w : World) (f : Addr) (ow : List (Addr × Obj)) (d : Nat) (n : Nat) (key : Nat → Int) : Prop :=
  ∀ (k : Nat) (t : Tok), k < n → TSpec2 (TabO ow) (TabO ow) prog w f [.int (k : Int) t] [] d (Stands ow) (fun _ res r => res = [] ∧ ∃ t', r = .int (key k) t')
def castRow (row : List Nat) : List Int := row.map fun k => ((k : Nat) : Int)
/-- how many are less, or not more -/
def cntLe (ks : List Int) (x : Int) : Nat := (ks.filter fun y => decide (y ≤ x)).length
def cntLt (ks : List Int) (x : Int) : Nat := (ks.filter fun y => decide (y < x)).length
def Srt (ks : List Int) : Prop := ks.Pairwise (· ≤ ·)
theorem filter_le (p : Int → Bool) : ∀ (ks : List Int), (ks.filter p).length ≤ ks.length := fun ks => List.length_filter_le _ _
theorem cnt_split (p : Int → Bool) (ks : List Int) (i : Nat) : (ks.filter p).length = ((ks.take i).filter p).length + ((ks.drop i).filter p).length := by
  conv => lhs; rw [← List.take_append_drop i ks]
  rw [List.filter_append, List.length_append]
theorem srt_take {ks : List Int} (h : Srt ks) {i : Nat} (hi : i < ks.length) : (∀ y ∈ ks.take (i + 1), y ≤ ks[i]) ∧ ∀ y ∈ ks.drop i, ks[i] ≤ y := by
  have e : ks = ks.take i ++ ks[i] :: ks.drop (i + 1) := by rw [← List.drop_eq_getElem_cons hi, List.take_append_drop]
  have h2 : (ks.take i ++ ks[i] :: ks.drop (i + 1)).Pairwise (· ≤ ·) := by rw [← e]; exact h
  obtain ⟨h3, h4, h5⟩ := List.pairwise_append.mp h2
  constructor
  · intro y hy
    rw [List.take_add_one, List.getElem?_eq_getElem hi] at hy
    rcases List.mem_append.mp hy with hy | hy
    · exact h5 y hy _ (.head _)
    · rw [List.mem_singleton.mp hy]; exact Int.le_refl _
  · intro y hy
    rw [List.drop_eq_getElem_cons hi] at hy
    rcases List.mem_cons.mp hy with rfl | hy
    · exact Int.le_refl _
    · exact (List.pairwise_cons.mp h4).1 y hy
theorem cnt_all {p : Int → Bool} {ks : List Int} {i : Nat} (hi : i ≤ ks.length) (h : ∀ y ∈ ks.take i, p y = true) : i ≤ (ks.filter p).length := by
  rw [cnt_split p ks i, List.filter_eq_self.mpr h, List.length_take]; omega
theorem cnt_none {p : Int → Bool} {ks : List Int} {i : Nat} (h : ∀ y ∈ ks.drop i, p y = false) : (ks.filter p).length ≤ i := by
  rw [cnt_split p ks i]
  have : (ks.drop i).filter p = [] := List.filter_eq_nil_iff.mpr fun y hy => by rw [h y hy]; exact Bool.false_ne_true
  rw [this, List.length_nil]
  have := List.length_filter_le p (ks.take i)
  rw [List.length_take] at this
  omega
theorem cntLe_lo {ks : List Int} {x : Int} {i : Nat} (h : Srt ks) (hi : i < ks.length) (hx : ks[i] ≤ x) : i + 1 ≤ cntLe ks x :=
  cnt_all hi fun y hy => decide_eq_true (Int.le_trans ((srt_take h hi).1 y hy) hx)
theorem cntLe_hi {ks : List Int} {x : Int} {i : Nat} (h : Srt ks) (hi : i < ks.length) (hx : x < ks[i]) : cntLe ks x ≤ i :=
  cnt_none fun y hy => decide_eq_false (by have := (srt_take h hi).2 y hy; omega)
theorem cntLt_lo {ks : List Int} {x : Int} {i : Nat} (h : Srt ks) (hi : i < ks.length) (hx : ks[i] < x) : i + 1 ≤ cntLt ks x :=
  cnt_all hi fun y hy => decide_eq_true (by have := (srt_take h hi).1 y hy; omega)
theorem cntLt_hi {ks : List Int} {x : Int} {i : Nat} (h : Srt ks) (hi : i < ks.length) (hx : x ≤ ks[i]) : cntLt ks x ≤ i :=
  cnt_none fun y hy => decide_eq_false (by have := (srt_take h hi).2 y hy; omega)
theorem cntLe_len (ks : List Int) (x : Int) : cntLe ks x ≤ ks.length := List.length_filter_le _ _
theorem cntLt_len (ks : List Int) (x : Int) : cntLt ks x ≤ ks.length := List.length_filter_le _ _
/-- put in at a place -/
def putAt (row : List Nat) (i k : Nat) : List Nat := row.take i ++ k :: row.drop i
theorem putAt_length {row : List Nat} {i k : Nat} : (putAt row i k).length = row.length + 1 := by
  unfold putAt
  rw [List.length_append, List.length_cons, List.length_take, List.length_drop]; omega
theorem srt_put {row : List Nat} {key : Nat → Int} {i k : Nat} (h : Srt (row.map key)) (h1 : ∀ j (hj : j < row.length), j < i → key row[j] ≤ key k) (h2 : ∀ j (hj : j < row.length), i ≤ j → key k ≤ key row[j]) : Srt ((putAt row i k).map key) := by
  unfold putAt Srt
  have h0 : ((row.take i).map key ++ (row.drop i).map key).Pairwise (· ≤ ·) := by
    rw [← List.map_append, List.take_append_drop]; exact h
  obtain ⟨a, b, c⟩ := List.pairwise_append.mp h0
  have le1 : ∀ y ∈ (row.take i).map key, y ≤ key k := fun y hy => by
    obtain ⟨r, hr, rfl⟩ := List.mem_map.mp hy
    obtain ⟨j, hj, rfl⟩ := List.mem_iff_getElem.mp hr
    rw [List.length_take] at hj
    rw [List.getElem_take]
    exact h1 j (by omega) (by omega)
  have le2 : ∀ y ∈ (row.drop i).map key, key k ≤ y := fun y hy => by
    obtain ⟨r, hr, rfl⟩ := List.mem_map.mp hy
    obtain ⟨j, hj, rfl⟩ := List.mem_iff_getElem.mp hr
    rw [List.length_drop] at hj
    rw [List.getElem_drop]
    exact h2 (i + j) (by omega) (by omega)
  rw [List.map_append, List.map_cons]
  refine List.pairwise_append.mpr ⟨a, List.pairwise_cons.mpr ⟨le2, b⟩, fun x hx y hy => ?_⟩
  rcases List.mem_cons.mp hy with rfl | hy
  · exact le1 x hx
  · exact Int.le_trans (le1 x hx) (le2 y hy)
theorem srt_put_le {row : List Nat} {key : Nat → Int} {k : Nat} (h : Srt (row.map key)) : Srt ((putAt row (cntLe (row.map key) (key k)) k).map key) := by
  refine srt_put h (fun j hj hlt => ?_) fun j hj hle => ?_
  · rcases Int.lt_or_le (key k) (key row[j]) with q | q
    · have := cntLe_hi (i := j) h (by rw [List.length_map]; exact hj) (by rw [List.getElem_map]; exact q)
      omega
    · exact q
  · rcases Int.lt_or_le (key row[j]) (key k) with q | q
    · have := cntLe_lo (i := j) (x := key k) h (by rw [List.length_map]; exact hj) (by rw [List.getElem_map]; omega)
      omega
    · exact q
theorem srt_put_lt {row : List Nat} {key : Nat → Int} {k : Nat} (h : Srt (row.map key)) : Srt ((putAt row (cntLt (row.map key) (key k)) k).map key) := by
  refine srt_put h (fun j hj hlt => ?_) fun j hj hle => ?_
  · rcases Int.lt_or_le (key k) (key row[j]) with q | q
    · have := cntLt_hi (i := j) (x := key k) h (by rw [List.length_map]; exact hj) (by rw [List.getElem_map]; omega)
      omega
    · exact q
  · rcases Int.lt_or_le (key row[j]) (key k) with q | q
    · have := cntLt_lo (i := j) h (by rw [List.length_map]; exact hj) (by rw [List.getElem_map]; exact q)
      omega
    · exact q
section
variable {prog : Program} {w : World} {A₀ A : Around} {s : Shared} {base h₀ : Heap} {outer : List Env} {L : Addr} {m : Str → Option Value} {env : Env} {K : Frag}
  {R : Result → Shared → Prop} {name qual : Str} {params : Arguments} {body : List Stmt} {scope : Scope} {dV kV doc pm cdv ct oc : Value} {an od : Option Addr} {osl : Array (Option Value)} {f : Addr} {args : Args}
  {p : Program} {loose : List Str} {mean : ExcName → Option Value} {mg mb : Str → Option Value}
/-- enterT for a call that may be spelled in several ways -/
theorem enterB {α : Type} {tb : List (Addr × Obj)} (ps : α → List (Str × Value)) (B : Below A₀ base outer h₀) (F : Fr h₀ L s.heap m) (X₀ : K.In h₀) (N : News h₀ L s.heap tb) (T : Top p loose mean mg mb h₀) (hA : A.frames = some (env :: outer)) (hf : env.frame = some L) (hke : env.scope.kind = .function)
    (ho : K.lookup f = some ⟨oc, od, .func (fnX name qual params body scope [] dV kV doc pm an cdv ct), osl⟩) (hcd : codeIn K cdv qual = true) (hroom : A.depth < recursionLimit)
    (hbind : ∃ (x : α) (binds : List (Str × Value)), BindsTo s (fnX name qual params body scope [] dV kV doc pm an cdv ct) args binds ∧ (∀ y ∈ binds, scope.names.lookup y.1 = some .local) ∧ ∀ q ∈ ps x, binds.reverse.lookup q.1 = some q.2)
    (h : ∀ x m' g L' h₁ tk, (∀ b o, b ∉ tb.map (·.1) → s.heap.get? b = some o → g.get? b = some o) → (∀ b o, g.get? b = some o → s.heap.get? b = some o) → L' = s.heap.objs.size → Fr g L' h₁ (kstB m' (ps x)) → News g L' h₁ tb → Below A base (env :: outer) g → K.In g → Top p loose mean mg mb g →
      wpAny (model prog w) (A.deeper (envX qual scope L' f cdv [])) (execs body (envX qual scope L' f cdv []))
        (fun fl s' => LeaveK h₀ L m g R (match fl with | .ret v => v | _ => .none) s')
        (fun e s' => wpAny (model prog w) (A.deeper (envX qual scope L' f cdv [])) (leaving (envX qual scope L' f cdv []) e) (fun _ s'' => R (.error e) s'') (fun e' s'' => R (.error e') s'') s')
        { s with heap := h₁, toks := tk })
    (hco : scope.isCoroutine = false) (hgen : scope.isGenerator = false) (hk : scope.kind = .function) (hcell : ∀ x ∈ scope.names, x.2 ≠ .cell) : codeAny (model prog w) A (.call (.ref f) args) R s := by
  obtain ⟨x, binds, hb, hl, hq⟩ := hbind
  exact enterT B F X₀ N T hA hf hke ho hcd hroom hb hl (fun g L' h₁ hg1 hg2 hL F' N' B' X' T' => h x _ g L' h₁ _ hg1 hg2 hL (fr_lit (ps x) hq F') N' B' X' T') hco hgen hk hcell
end

/-- two lists of ints of one length, the first that differs decides -/
def lexB (fin : Bool) : List Int → List Int → Bool
  | x :: xs, y :: ys => if x = y then lexB fin xs ys else decide (x < y)
  | _, _ => fin
section
open PySem.MeetsSeq3 PySem.MeetsSeq
open PySem.AutoSeq1 (wpAny_loadPart')
theorem lt_loop (l b : Addr) (items items2 : List Value) (xs ys : List Int) (n n2 : Nat) (hi : IntsAre items xs) (hj : IntsAre items2 ys) (hsz : xs.length = ys.length) (k : Nat) :
    ∀ i : Nat, xs.length - i = k → Meets (Builtin.«list.__eq__.loop» ⟨[.ref l, .ref b, rawInt i, rawInt 0], []⟩)
      (fun _ R s => s.heap.get? l = some { cls := .type "list", dict := none, data := .seq items.toArray n, slots := #[] } ∧ s.heap.get? b = some { cls := .type "list", dict := none, data := .seq items2.toArray n2, slots := #[] } ∧
        R (.ok (.ret (.bool (lexB false (xs.drop i) (ys.drop i))))) s) := by
  have hl1 := hi.length
  have hl2 := hj.length
  induction k with
  | zero =>
    intro i hk prog w A R s h
    obtain ⟨hp, g, d, tk, os⟩ := s; obtain ⟨hl, hb, h⟩ := h
    wp_walk using wpAny_loadPart' hl, wpAny_loadPart' hb
    have hi1 : items.toArray[((i : Nat) : Int).toNat]? = none := by simp; omega
    have hi2 : items2.toArray[((i : Nat) : Int).toNat]? = none := by simp; omega
    rw [List.drop_of_length_le (by omega), List.drop_of_length_le (by omega)] at h
    rw [hi1, hi2]
    wp_walk using wpAny_loadPart' hl, wpAny_loadPart' hb
    show R (.ok (.ret (.bool (decide (items.toArray.size < items2.toArray.size))))) _
    have : decide (items.toArray.size < items2.toArray.size) = false := by simp; omega
    rw [this]
    exact h
  | succ k ih =>
    intro i hk prog w A R s h
    obtain ⟨hp, g, d, tk, os⟩ := s; obtain ⟨hl, hb, h⟩ := h
    wp_walk using wpAny_loadPart' hl, wpAny_loadPart' hb
    have hlt : i < xs.length := by omega
    have hlt2 : i < ys.length := by omega
    obtain ⟨t1, e1⟩ := hi.get i xs[i] (by simp [hlt])
    obtain ⟨t2, e2⟩ := hj.get i ys[i] (by simp [hlt2])
    have hi1 : items.toArray[((i : Nat) : Int).toNat]? = some (.int xs[i] t1) := by simpa using e1
    have hi2 : items2.toArray[((i : Nat) : Int).toNat]? = some (.int ys[i] t2) := by simpa using e2
    have hc : ((i : Int) + 1) = ((i + 1 : Nat) : Int) := by push_cast; rfl
    rw [List.drop_eq_getElem_cons hlt, List.drop_eq_getElem_cons hlt2, lexB] at h
    rw [hi1, hi2]
    refine wpAny_bind (EqGives.int _ _ _ _ prog w _ _ _ _ ?_)
    by_cases hb' : xs[i] = ys[i]
    · rw [if_pos hb'] at h
      rw [show (xs[i] == ys[i]) = true by simpa using hb']
      wp_walk
      rw [hc]
      exact ⟨plainId_quiet plain_eq_loop _, codeAny_builtin entry_eq_loop (by
        rw [Around.under_plainId plain_eq_loop _]
        exact ih (i + 1) (by omega) prog w A R _ ⟨hl, hb, by simpa using h⟩)⟩
    · rw [if_neg hb'] at h
      rw [show (xs[i] == ys[i]) = false by simpa using hb']
      wp_walk using wpAny_loadPart' hl, wpAny_loadPart' hb
      rw [hi1, hi2]
      dsimp only
      refine wpAny_bind ?_
      show wpAny _ _ (compareOp .Lt (.int xs[i] t1) (.int ys[i] t2)) _ _ _
      refine PyProof.Rows.lt_int ?_
      wp_walk
      exact h
theorem le_loop (l b : Addr) (items items2 : List Value) (xs ys : List Int) (n n2 : Nat) (hi : IntsAre items xs) (hj : IntsAre items2 ys) (hsz : xs.length = ys.length) (k : Nat) :
    ∀ i : Nat, xs.length - i = k → Meets (Builtin.«list.__eq__.loop» ⟨[.ref l, .ref b, rawInt i, rawInt 1], []⟩)
      (fun _ R s => s.heap.get? l = some { cls := .type "list", dict := none, data := .seq items.toArray n, slots := #[] } ∧ s.heap.get? b = some { cls := .type "list", dict := none, data := .seq items2.toArray n2, slots := #[] } ∧
        R (.ok (.ret (.bool (lexB true (xs.drop i) (ys.drop i))))) s) := by
  have hl1 := hi.length
  have hl2 := hj.length
  induction k with
  | zero =>
    intro i hk prog w A R s h
    obtain ⟨hp, g, d, tk, os⟩ := s; obtain ⟨hl, hb, h⟩ := h
    wp_walk using wpAny_loadPart' hl, wpAny_loadPart' hb
    have hi1 : items.toArray[((i : Nat) : Int).toNat]? = none := by simp; omega
    have hi2 : items2.toArray[((i : Nat) : Int).toNat]? = none := by simp; omega
    rw [List.drop_of_length_le (by omega), List.drop_of_length_le (by omega)] at h
    rw [hi1, hi2]
    wp_walk using wpAny_loadPart' hl, wpAny_loadPart' hb
    show R (.ok (.ret (.bool (decide (items.toArray.size ≤ items2.toArray.size))))) _
    have : decide (items.toArray.size ≤ items2.toArray.size) = true := by simp; omega
    rw [this]
    exact h
  | succ k ih =>
    intro i hk prog w A R s h
    obtain ⟨hp, g, d, tk, os⟩ := s; obtain ⟨hl, hb, h⟩ := h
    wp_walk using wpAny_loadPart' hl, wpAny_loadPart' hb
    have hlt : i < xs.length := by omega
    have hlt2 : i < ys.length := by omega
    obtain ⟨t1, e1⟩ := hi.get i xs[i] (by simp [hlt])
    obtain ⟨t2, e2⟩ := hj.get i ys[i] (by simp [hlt2])
    have hi1 : items.toArray[((i : Nat) : Int).toNat]? = some (.int xs[i] t1) := by simpa using e1
    have hi2 : items2.toArray[((i : Nat) : Int).toNat]? = some (.int ys[i] t2) := by simpa using e2
    have hc : ((i : Int) + 1) = ((i + 1 : Nat) : Int) := by push_cast; rfl
    rw [List.drop_eq_getElem_cons hlt, List.drop_eq_getElem_cons hlt2, lexB] at h
    rw [hi1, hi2]
    refine wpAny_bind (EqGives.int _ _ _ _ prog w _ _ _ _ ?_)
    by_cases hb' : xs[i] = ys[i]
    · rw [if_pos hb'] at h
      rw [show (xs[i] == ys[i]) = true by simpa using hb']
      wp_walk
      rw [hc]
      exact ⟨plainId_quiet plain_eq_loop _, codeAny_builtin entry_eq_loop (by
        rw [Around.under_plainId plain_eq_loop _]
        exact ih (i + 1) (by omega) prog w A R _ ⟨hl, hb, by simpa using h⟩)⟩
    · rw [if_neg hb'] at h
      rw [show (xs[i] == ys[i]) = false by simpa using hb']
      wp_walk using wpAny_loadPart' hl, wpAny_loadPart' hb
      rw [hi1, hi2]
      dsimp only
      refine wpAny_bind ?_
      show wpAny _ _ (compareOp .LtE (.int xs[i] t1) (.int ys[i] t2)) _ _ _
      refine PyProof.Rows.le_int ?_
      rw [show decide (xs[i] ≤ ys[i]) = decide (xs[i] < ys[i]) from decide_eq_decide.mpr (by omega)]
      wp_walk
      exact h
theorem list_lt_ints (l b : Addr) (items items2 : List Value) (xs ys : List Int) (n n2 : Nat) (hi : IntsAre items xs) (hj : IntsAre items2 ys) (hsz : xs.length = ys.length) :
    Meets (Builtin.«list.__lt__» ⟨[.ref l, .ref b], []⟩)
      (fun _ R s => s.heap.get? l = some { cls := .type "list", dict := none, data := .seq items.toArray n, slots := #[] } ∧ s.heap.get? b = some { cls := .type "list", dict := none, data := .seq items2.toArray n2, slots := #[] } ∧
        R (.ok (.ret (.bool (lexB false xs ys)))) s) := by
  intro prog w A R s h
  obtain ⟨hp, g, d, tk, os⟩ := s; obtain ⟨hl, hb, h⟩ := h
  have f3 := AutoSeq1.sub_list_list
  wp_walk using wpAny_loadPart' hl, wpAny_loadPart' hb
  exact ⟨plainId_quiet plain_eq_loop _, codeAny_builtin entry_eq_loop (by
    rw [Around.under_plainId plain_eq_loop _]
    exact lt_loop l b items items2 xs ys n n2 hi hj hsz _ 0 rfl prog w A R _ ⟨hl, hb, by simpa using h⟩)⟩
theorem list_le_ints (l b : Addr) (items items2 : List Value) (xs ys : List Int) (n n2 : Nat) (hi : IntsAre items xs) (hj : IntsAre items2 ys) (hsz : xs.length = ys.length) :
    Meets (Builtin.«list.__le__» ⟨[.ref l, .ref b], []⟩)
      (fun _ R s => s.heap.get? l = some { cls := .type "list", dict := none, data := .seq items.toArray n, slots := #[] } ∧ s.heap.get? b = some { cls := .type "list", dict := none, data := .seq items2.toArray n2, slots := #[] } ∧
        R (.ok (.ret (.bool (lexB true xs ys)))) s) := by
  intro prog w A R s h
  obtain ⟨hp, g, d, tk, os⟩ := s; obtain ⟨hl, hb, h⟩ := h
  have f3 := AutoSeq1.sub_list_list
  wp_walk using wpAny_loadPart' hl, wpAny_loadPart' hb
  exact ⟨plainId_quiet plain_eq_loop _, codeAny_builtin entry_eq_loop (by
    rw [Around.under_plainId plain_eq_loop _]
    exact le_loop l b items items2 xs ys n n2 hi hj hsz _ 0 rfl prog w A R _ ⟨hl, hb, by simpa using h⟩)⟩
end
theorem lt_lists {prog : Program} {w : World} {A : Around} {E : Value → Shared → Prop} {s : Shared} {a b : Addr} {xs ys : List Value} {ns ms : List Int} {n n2 : Nat} {Q : Value → Shared → Prop} (ha : s.heap.get? a = some (W.listOf xs.toArray n)) (hb : s.heap.get? b = some (W.listOf ys.toArray n2)) (hi : IntsAre xs ns) (hj : IntsAre ys ms) (hl : ns.length = ms.length)
    (hu : A.units < cLine) (h : Q (.bool (lexB false ns ms)) s) : wpAny (model prog w) A (compareOp .Lt (.ref a) (.ref b)) Q E s := by
  have la : s.heap.IsList a xs.toArray := ⟨_, ha, rfl, n, rfl⟩
  have lb : s.heap.IsList b ys.toArray := ⟨_, hb, rfl, n2, rfl⟩
  show wpAny _ _ (richCompare .Lt (.ref a) (.ref b)) Q E s
  exact wpAny_richCompare_same_room (op := .Lt) (T := "list") la.typeIs lb.typeIs PySem.F.slot_list_lt
    (call_meets PySem.F.slot_list_lt la.typeIs PySem.F.entry_list_lt (PySem.F.args_list_lt_2 _ _) (list_lt_ints a b xs ys ns ms n n2 hi hj hl) ⟨ha, hb, ⟨(fun e => (nomatch e)), h⟩⟩) hu
theorem le_lists {prog : Program} {w : World} {A : Around} {E : Value → Shared → Prop} {s : Shared} {a b : Addr} {xs ys : List Value} {ns ms : List Int} {n n2 : Nat} {Q : Value → Shared → Prop} (ha : s.heap.get? a = some (W.listOf xs.toArray n)) (hb : s.heap.get? b = some (W.listOf ys.toArray n2)) (hi : IntsAre xs ns) (hj : IntsAre ys ms) (hl : ns.length = ms.length)
    (hu : A.units < cLine) (h : Q (.bool (lexB true ns ms)) s) : wpAny (model prog w) A (compareOp .LtE (.ref a) (.ref b)) Q E s := by
  have la : s.heap.IsList a xs.toArray := ⟨_, ha, rfl, n, rfl⟩
  have lb : s.heap.IsList b ys.toArray := ⟨_, hb, rfl, n2, rfl⟩
  show wpAny _ _ (richCompare .LtE (.ref a) (.ref b)) Q E s
  exact wpAny_richCompare_same_room (op := .LtE) (T := "list") la.typeIs lb.typeIs PySem.F.slot_list_le
    (call_meets PySem.F.slot_list_le la.typeIs PySem.F.entry_list_le (PySem.F.args_list_le_2 _ _) (list_le_ints a b xs ys ns ms n n2 hi hj hl) ⟨ha, hb, ⟨(fun e => (nomatch e)), h⟩⟩) hu

/-- the law's own statements -/
def stmtBody : Stmt → List Stmt
  | .FunctionDef _ _ b _ _ _ _ _ _ _ => b
  | _ => []
def stmtScope : Stmt → Option Scope
  | .FunctionDef _ _ _ _ _ _ s _ _ _ => some s
  | _ => none
def lawBody : List Stmt := match PySem.Challenge.pw_pg0307_01.main.body.getLast? with
  | some x => stmtBody x
  | none => []
def lawScope : Scope := match PySem.Challenge.pw_pg0307_01.main.body.getLast? with
  | some x => (stmtScope x).getD PySem.Challenge.pw_pg0307_01.main.scope
  | none => PySem.Challenge.pw_pg0307_01.main.scope
section
variable {prog : Program} {w : World} {A : Around} {E : Value → Shared → Prop} {s : Shared} {env : Env} {h₀ : Heap} {x : Str} {px : Pos} {body : List Stmt} {Q : Flow → Shared → Prop}
/-- a for over a range whose name is stored by the turn itself -/
theorem loop_rangeT {r : Addr} {a₀ b₀ : Int} {t₀ u₀ v₀ : Tok} {n : Nat} {m₀ : Str → Option Value} {news : List (Addr × Obj)} (J : Nat → (Str → Option Value) → List (Addr × Obj) → Prop)
    (hh : A.handled = none) (hr : IsRange s.heap r a₀ b₀ 1 t₀ u₀ v₀) (hsmall : Builtin.Range.small a₀ b₀ 1 = true) (hn : Builtin.Range.rangeSize a₀ b₀ 1 = (n : Int)) (F : Fr h₀ env.locals s.heap m₀) (N : News h₀ env.locals s.heap news) (hj : J 0 m₀ news)
    (turn : ∀ i t m₁ nx (s₁ : Shared) I oI, i < n → J i m₁ nx → (∀ p ∈ nx, p.1 ≠ I) → Fr h₀ env.locals s₁.heap m₁ → News h₀ env.locals s₁.heap ((I, oI) :: nx) →
      wpAny (model prog w) A (assign (.Name x px) env (.int (a₀ + (i : Int)) t)) (fun _ s₃ => wpAny (model prog w) A (execs body env) (fun f s₂ => f = .next ∧ LEnd h₀ env.locals (J (i + 1)) I oI s₁ s₂) E s₃) E s₁)
    (done : ∀ m₁ nx h tk, J n m₁ nx → Fr h₀ env.locals h m₁ → News h₀ env.locals h nx → Q .next { s with heap := h, toks := tk }) :
    wpAny (model prog w) A (pyIter (.ref r)) (fun it s₂ => LoopAtT prog w A h₀ env (.Name x px) body Q E it s₂) E s := by
  refine wpAny_pyIter_range hr hsmall ?_
  have W : Walks prog w A s.heap.objs.size [s.heap.objs.size] [s.heap.objs.size] n (fun i v => ∃ t, v = .int (a₀ + i * 1) t)
      (fun i h => IsRangeIter h s.heap.objs.size (a₀ + (i : Nat) * 1) ((n : Int) - (i : Nat)) 1) := Walks.range hh _ a₀ 1 n
  refine ⟨s.heap.objs.size, [s.heap.objs.size], [s.heap.objs.size], n, _, _, m₀, news, J, rfl, W, ?_, ?_, ?_, ?_, F.push _, fun p hp => ⟨Heap.get?_push_of_some _ (N p hp).1, (N p hp).2⟩, ?_, hj, ?_, ?_⟩
  · exact fun h => (Nat.ne_of_lt F.ns.lt) (List.mem_singleton.mp h)
  · exact fun b hb => by rw [List.mem_singleton.mp hb]; exact next_is_new F
  · exact fun p hp h => Nat.ne_of_lt (Heap.lt_size (N p hp).1) (List.mem_singleton.mp h)
  · show IsRangeIter _ _ _ _ _
    rw [hn]; simpa using Heap.get?_push_size _ rfl
  · intro i s' v Q' _ hQ
    exact wpAny_pure hQ
  · intro i v m₁ nx s₁ own hlt hP hJ hoff hown hget hall hst F₁ N₁
    obtain ⟨t, rfl⟩ := hP
    rw [Int.mul_one]
    have ho : s₁.heap.get? s.heap.objs.size = some _ := hst
    have hio := hall s.heap.objs.size (List.mem_singleton.mpr rfl) (next_is_new F) _ ho
    refine wpAny_mono (turn i t m₁ nx s₁ s.heap.objs.size _ hlt hJ (fun p hp q => hoff p hp (List.mem_singleton.mpr q)) F₁ (news_one hio N₁)) (fun _ s₃ p => wpAny_mono p (fun f s₂ q => ?_) fun _ _ e => e) fun _ _ e => e
    obtain ⟨rfl, h', tk, m', news', nx', e, F', N', hi, hn', ha, hm⟩ := q
    refine ⟨rfl, h', tk, m', nx', e, F', fun p hp => ?_, fun p hp q => ha p hp (List.mem_singleton.mp q), hm⟩
    rcases List.mem_append.mp hp with h | h
    · have e1 : p.1 = s.heap.objs.size := List.mem_singleton.mp (hown p h)
      have e2 := hget p h
      rw [e1, ho] at e2
      have : p = (s.heap.objs.size, _) := Prod.ext e1 (Option.some.inj e2).symm
      rw [this]; exact N' _ hi
    · exact N' p (hn' p h)
  · intro h' tk m' news' F' N' _ hJ
    exact done m' news' h' tk hJ F' N'
end
def leadCodes (x : Int) : List Nat := codesOf (runsOf x) (blanksOf x)
def restOf (n : Nat) (l : List Nat) : Int := ((foldA l % foldB n : Nat) : Int)
/-- the order of the widths is the order of the rests -/
def LexOk (n : Nat) (l l' : List Nat) : Prop :=
  (wideOf n l).length = (wideOf n l').length ∧ lexB true (wideOf n l) (wideOf n l') = decide (restOf n l ≤ restOf n l') ∧ lexB false (wideOf n l) (wideOf n l') = decide (restOf n l < restOf n l')
def keyOf (n : Nat) (cs : List Int) (k : Nat) : Int := restOf n (leadCodes (cs.getD k 0))
/-- what the law has made ahead of its loop, and keeps -/
structure LawSt (prog : Program) (w : World) (n : Nat) (cs : List Int) (L f9 ac al aM : Addr) (vc vl vM : List Value) (kc kl kM : Nat) (oM oS : Obj) (tS tM : Tok) (st : List (Addr × Obj)) : Prop where
  cells : IntsAre vc cs
  leads : StrsAre vl (cs.map leadText)
  mcell : oM.data = .cell (some (.ref aM))
  scell : oS.data = .cell (some (.int (n : Int) tS))
  hcells : (ac, W.listOf vc.toArray kc) ∈ st
  hleads : (al, W.listOf vl.toArray kl) ∈ st
  hmarks : (aM, W.listOf vM.toArray kM) ∈ st
  hmcell : (L + 1, oM) ∈ st
  hscell : (L + 1 + 1 + 1 + 1, oS) ∈ st
  marks : vM.length = cs.length ∧ ∀ k, k < cs.length → ∃ (am : Addr) (vm : List Value) (km : Nat), vM[k]? = some (.ref am) ∧ (am, W.listOf vm.toArray km) ∈ st ∧ IntsAre vm (wideOf n (leadCodes (cs.getD k 0)))
  key : KeyAt prog w f9 st 86 cs.length (keyOf n cs)
  fn : ∀ h, Stands st h → FnAt f9 h
  tab : ∃ ps, ((182 : Addr), tabObj ps) ∈ st
/-- between two places -/
inductive PlaceJ (n : Nat) (cs : List Int) (L f9 ac al ar ad : Addr) (o3 : Obj) (st : List (Addr × Obj)) (sv : Value) (i : Nat) (m : Str → Option Value) (nx : List (Addr × Obj)) : Prop
  | mk (row : List Nat) (oP : Obj) (x0 : Option Value) (vr vd : List Value) (kr kd : Nat) (tb : List (Addr × Obj)) (h0 : m (Str.ofString "cells") = some (.ref ac)) (h1 : m (Str.ofString "leads") = some (.ref al)) (h2 : m (Str.ofString "sought") = some sv) (h3 : m (Str.ofString "worth") = some (.ref f9)) (h4 : m (Str.ofString "row") = some (.ref ar)) (h5 : m (Str.ofString "due") = some (.ref ad)) (h6 : oP.data = .cell x0) (h7 : IntsAre vr (castRow row)) (h8 : IntsAre vd (castRow row)) (h9 : row.length = i) (h10 : (∀ k ∈ row, k < i)) (h11 : Srt (row.map (keyOf n cs))) (h12 : TabO st tb) (h13 : (∀ q ∈ tb, q.1 ≠ L + 1 + 1 ∧ q.1 ≠ L + 1 + 1 + 1 ∧ q.1 ≠ ar ∧ q.1 ≠ ad)) (h14 : ∀ p ∈ (L + 1 + 1, oP) :: (L + 1 + 1 + 1, o3) :: (ar, W.listOf vr.toArray kr) :: (ad, W.listOf vd.toArray kd) :: (st ++ tb), p ∈ nx)
theorem putAt_lt {row : List Nat} {c i : Nat} (h : ∀ k ∈ row, k < i) : ∀ k ∈ putAt row c i, k < i + 1 := by
  intro k hk
  unfold putAt at hk
  rcases List.mem_append.mp hk with hk | hk
  · exact Nat.lt_succ_of_lt (h k (List.mem_of_mem_take hk))
  · rcases List.mem_cons.mp hk with rfl | hk
    · exact Nat.lt_succ_self _
    · exact Nat.lt_succ_of_lt (h k (List.mem_of_mem_drop hk))
theorem cast_filter_le (row : List Nat) (f : Nat → Int) (x : Int) : (castRow (row.filter fun k => decide (f k ≤ x))).length = cntLe (row.map f) x := by
  unfold castRow cntLe
  rw [List.filter_map, List.length_map, List.length_map]; rfl
theorem cast_filter_lt (row : List Nat) (f : Nat → Int) (x : Int) : (castRow (row.filter fun k => decide (f k < x))).length = cntLt (row.map f) x := by
  unfold castRow cntLt
  rw [List.filter_map, List.length_map, List.length_map]; rfl
section
variable {prog : Program} {w : World} {A : Around} {E : Value → Shared → Prop} {s : Shared}
theorem item_last {value slice : PySem.Expr} {l : Addr} {vs : List Value} {v : Value} {u : Tok} {Q : Value → Shared → Prop} (hl : s.heap.IsList l vs.toArray) (h1 : 1 ≤ vs.length) (hx : vs[vs.length - 1]? = some v) (h : Q v s)
    (hs : subscripted slice false (.ref l) (.int (-1) u) = operate [.ref l, .int (-1) u] (getItem (.ref l) (.int (-1) u)) := by with_unfolding_all rfl) (hg : ∀ r, letTemporaryGo value (.ref l) r = pure () := by intro _; with_unfolding_all rfl) :
    wpAny (model prog w) A (subscriptTail value slice (.ref l) (.int (-1) u)) Q E s := by
  refine subscriptTail_builtin hl.typeIs slot_list_getitem.lookup (wpAny_getItem_list_neg hl (by omega) (by rw [List.size_toArray]; omega) (by omega) ?_ h) hs hg
  rw [List.size_toArray]
  have e : ((-1 : Int) + (vs.length : Int)).toNat = vs.length - 1 := by omega
  rw [e]
  simpa using hx
end
theorem strs_get : ∀ {vs : List Value} {xs : List Str} (_ : StrsAre vs xs) {i : Nat} {x : Str}, xs[i]? = some x → ∃ t, vs[i]? = some (.str x t)
  | _, _, .nil, i, x, h => by simp at h
  | _, _, .cons _ t r, 0, x, h => ⟨t, by cases h; rfl⟩
  | _, _, .cons _ t r, i + 1, x, h => strs_get r (i := i) (by simpa using h)
theorem TabL.grown {tb : List (Addr × Obj)} (h : TabL tb) : (∃ ps, ((37 : Addr), tabObj ps) ∈ tb) ∧ ∃ ps, ((44 : Addr), tabObj ps) ∈ tb := by
  obtain ⟨l1, l2, rfl, h1, h2⟩ := h
  constructor
  · rcases h1 with rfl | ⟨c', oc, vs, t, _, rfl, _, _⟩
    · exact ⟨_, List.mem_append_left _ (.head _)⟩
    · exact ⟨_, List.mem_append_left _ (.head _)⟩
  · rcases h2 with rfl | ⟨c', oc, vs, t, _, rfl, _, _⟩
    · exact ⟨_, List.mem_append_right _ (.head _)⟩
    · exact ⟨_, List.mem_append_right _ (.head _)⟩
section
variable {prog : Program} {w : World} {A : Around} {E : Value → Shared → Prop} {s : Shared} {h₀ : Heap} {L : Addr} {m : Str → Option Value} {env : Env}
/-- a comprehension without a test whose turns turn the ledger: G says what holds between them -/
theorem comp_grow {elt : Expr} {x : Str} {scope : Scope} {cl : List (Str × Addr)} {S : List (Addr × Obj) → Prop} {P : Nat → Value → Prop} {Fin : List Value → List (Addr × Obj) → Prop} {n : Nat} {news : List (Addr × Obj)} (G : Nat → List Value → List (Addr × Obj) → Prop) (h0 : G 0 [] news)
    (turn : ∀ i v ys news I oI C oC D m₂ h tk (E' : Value → Shared → Prop), i < n → P i v → G i ys news → LCg.NsObj oC m₂ → m₂ x = some v → Fr h₀ L h m → News h₀ L h ((I, oI) :: (C, oC) :: (D, LCg.lst ys) :: news) → LCg.Off3 I C D news → ((@Ne Nat I C) ∧ (@Ne Nat I D) ∧ (@Ne Nat C D)) →
      wpAny (model prog w) A (eval elt (compEnvC scope cl C env)) (LCg.CompEnd h₀ L m { s with heap := h, toks := tk } I oI C oC D (LCg.lst ys) S (fun y news' => G (i + 1) (ys ++ [y]) news')) E' { s with heap := h, toks := tk })
    (fin : ∀ ys news, G n ys news → Fin ys news) : LCg.CompRest prog w A h₀ L m env elt x scope cl s S P Fin n 0 [] news := by
  have all : ∀ k i ys news, i + k = n → G i ys news → LCg.CompRest prog w A h₀ L m env elt x scope cl s S P Fin k i ys news := by
    intro k
    induction k with
    | zero =>
      intro i ys news e hg
      have : i = n := by omega
      subst this
      exact fin ys news hg
    | succ k ih =>
      intro i ys news e hg
      refine LCg.CompRest.succ fun v I oI C oC D m₂ h tk E' hP hC hx F N off ne => ?_
      exact wpAny_mono (turn i v ys news I oI C oC D m₂ h tk E' (by omega) hP hg hC hx F N off ne) (fun y s₂ hy => compEnd_mono hy fun nn hn => ih (i + 1) _ _ (by omega) hn) fun _ _ e => e
  exact all n 0 [] news (by omega) h0
end
theorem fr_snoc1 {h₀ h : Heap} {L : Addr} {m : Str → Option Value} {x a : Str} {v va : Value} (F : Fr h₀ L h (fun y => if y = x then some v else kstB m [(a, va)] y)) (hne : a ≠ x) : ∃ m', Fr h₀ L h (kstB m' [(a, va), (x, v)]) := by
  refine ⟨_, fr_lit [(a, va), (x, v)] ?_ F⟩
  intro q hq
  simp only [List.mem_cons, List.not_mem_nil, or_false] at hq
  rcases hq with rfl | rfl
  · show (if a = x then some v else (if a = a then some va else m a)) = some va
    rw [if_neg hne, if_pos rfl]
  · exact if_pos rfl
theorem strs_map (f : Int → Str) : ∀ {ys : List Value} {xs : List Int}, ys.length = xs.length → (∀ i y, ys[i]? = some y → ∃ t : Tok, y = Value.str (f (xs.getD i 0)) t) → StrsAre ys (xs.map f)
  | [], [], _, _ => .nil
  | y :: ys, x :: xs, h, hr => by
    obtain ⟨t, rfl⟩ := hr 0 y rfl
    refine .cons _ _ (strs_map f (by simpa using h) fun i y' hy => ?_)
    have := hr (i + 1) y' (by simpa using hy)
    simpa using this
/-- what the comprehension of the objects has made -/
def WhitesG (w : World) (cs : List Int) (lo : Addr) (base : List (Addr × Obj)) (i : Nat) (ys : List Value) (news : List (Addr × Obj)) : Prop :=
  ∃ wt : List (Addr × Obj), news = wt ++ base ∧ (∀ p ∈ wt, @LT.lt Nat _ lo p.1) ∧ ys.length = i ∧
    ∀ j, j < i → ∃ (xw dw nw cw : Addr) (vw : List Value) (res : List (Addr × Obj)), ys[j]? = some (.ref xw) ∧ WhiteRes w (leadCodes (cs.getD j 0)) xw dw nw cw vw res ∧ ∀ p ∈ res, p ∈ wt
/-- what the comprehension of the marks has made -/
def MarksG (n : Nat) (cs : List Int) (lo : Addr) (base : List (Addr × Obj)) (i : Nat) (ys : List Value) (news : List (Addr × Obj)) : Prop :=
  ∃ wt : List (Addr × Obj), news = wt ++ base ∧ (∀ p ∈ wt, @LT.lt Nat _ lo p.1) ∧ ys.length = i ∧
    ∀ j, j < i → ∃ (am : Addr) (vm : List Value) (km : Nat), ys[j]? = some (.ref am) ∧ (am, W.listOf vm.toArray km) ∈ wt ∧ IntsAre vm (wideOf n (leadCodes (cs.getD j 0)))
theorem get_snoc {ys : List Value} {y : Value} {i : Nat} (h : ys.length = i) : (∀ j v, j < i → ys[j]? = some v → (ys ++ [y])[j]? = some v) ∧ (ys ++ [y])[i]? = some y := by
  constructor
  · intro j v hj hv
    rw [List.getElem?_append_left (by omega)]; exact hv
  · rw [List.getElem?_append_right (by omega), h, Nat.sub_self]; rfl
theorem WhitesG.snoc {w : World} {cs : List Int} {lo : Addr} {base news : List (Addr × Obj)} {i : Nat} {ys : List Value} (h : WhitesG w cs lo base i ys news) {xw dw nw cw : Addr} {vw : List Value} {res : List (Addr × Obj)} (hw : WhiteRes w (leadCodes (cs.getD i 0)) xw dw nw cw vw res) (hlo : ∀ p ∈ res, @LT.lt Nat _ lo p.1) : WhitesG w cs lo base (i + 1) (ys ++ [.ref xw]) (res ++ news) := by
  obtain ⟨wt, rfl, h1, h2, h3⟩ := h
  obtain ⟨g1, g2⟩ := get_snoc (y := .ref xw) h2
  refine ⟨res ++ wt, by rw [List.append_assoc], List.forall_mem_append.mpr ⟨hlo, h1⟩, by rw [List.length_append, h2]; rfl, fun j hj => ?_⟩
  rcases Nat.lt_or_ge j i with q | q
  · obtain ⟨a1, a2, a3, a4, a5, a6, b1, b2, b3⟩ := h3 j q
    exact ⟨a1, a2, a3, a4, a5, a6, g1 _ _ q b1, b2, fun p hp => List.mem_append_right _ (b3 p hp)⟩
  · have : j = i := by omega
    subst this
    exact ⟨xw, dw, nw, cw, vw, res, g2, hw, fun p hp => List.mem_append_left _ hp⟩
theorem MarksG.snoc {n : Nat} {cs : List Int} {lo : Addr} {base news : List (Addr × Obj)} {i : Nat} {ys : List Value} (h : MarksG n cs lo base i ys news) {am : Addr} {vm : List Value} {km : Nat} {res : List (Addr × Obj)} (hm : (am, W.listOf vm.toArray km) ∈ res) (hi : IntsAre vm (wideOf n (leadCodes (cs.getD i 0)))) (hlo : ∀ p ∈ res, @LT.lt Nat _ lo p.1) : MarksG n cs lo base (i + 1) (ys ++ [.ref am]) (res ++ news) := by
  obtain ⟨wt, rfl, h1, h2, h3⟩ := h
  obtain ⟨g1, g2⟩ := get_snoc (y := .ref am) h2
  refine ⟨res ++ wt, by rw [List.append_assoc], List.forall_mem_append.mpr ⟨hlo, h1⟩, by rw [List.length_append, h2]; rfl, fun j hj => ?_⟩
  rcases Nat.lt_or_ge j i with q | q
  · obtain ⟨a1, a2, a3, b1, b2, b3⟩ := h3 j q
    exact ⟨a1, a2, a3, g1 _ _ q b1, List.mem_append_right _ b2, b3⟩
  · have : j = i := by omega
    subst this
    exact ⟨am, vm, km, g2, List.mem_append_left _ hm, hi⟩
theorem mem_shift {α : Type} {a b c : α} {r n : List α} : ∀ p ∈ a :: b :: c :: (r ++ n), p ∈ r ++ a :: b :: c :: n := by
  intro p hp
  simp only [List.mem_cons, List.mem_append] at hp ⊢
  rcases hp with h | h | h | h | h
  · exact .inr (.inl h)
  · exact .inr (.inr (.inl h))
  · exact .inr (.inr (.inr (.inl h)))
  · exact .inl h
  · exact .inr (.inr (.inr (.inr h)))
theorem off1_mem {D : Addr} : ∀ {l : List (Addr × Obj)}, LCg.Off1 D l → ∀ p ∈ l, @Ne Nat p.1 D
  | [], _, _, h => nomatch h
  | _ :: _, x, p, h => by
    rcases List.mem_cons.mp h with rfl | h
    · exact x.1
    · exact off1_mem x.2 p h
theorem off3_grow {I C D : Addr} {oI oC oD : Obj} {res news : List (Addr × Obj)} (hr : ∀ q ∈ res, ∀ p ∈ (I, oI) :: (C, oC) :: (D, oD) :: news, p.1 < q.1) (off : LCg.Off3 I C D news) : LCg.Off3 I C D (res ++ news) :=
  LCg.Off3.of fun p hp => by
    rcases List.mem_append.mp hp with hp | hp
    · exact ⟨Nat.ne_of_gt (hr p hp _ (.head _)), Nat.ne_of_gt (hr p hp _ (.tail _ (.head _))), Nat.ne_of_gt (hr p hp _ (.tail _ (.tail _ (.head _))))⟩
    · exact off.mem p hp
theorem mem_swap {α : Type} {a b : List α} : ∀ p ∈ b ++ a, p ∈ a ++ b := fun p hp => by
  rcases List.mem_append.mp hp with h | h
  · exact List.mem_append_right _ h
  · exact List.mem_append_left _ h
theorem mem_perm {α : Type} {a b c : List α} : ∀ p ∈ a ++ (b ++ c), p ∈ b ++ (a ++ c) := fun p hp => by
  rcases List.mem_append.mp hp with h | h
  · exact List.mem_append_right _ (List.mem_append_left _ h)
  · rcases List.mem_append.mp h with h | h
    · exact List.mem_append_left _ h
    · exact List.mem_append_right _ (List.mem_append_right _ h)
theorem ex_obj {h₀ h : Heap} {L : Addr} {news : List (Addr × Obj)} {f : Addr} {o : Obj} (N : News h₀ L h news) (hm : (f, o) ∈ news) : ∃ fo, fo = o ∧ h.get? f = some fo ∧ (f, fo) ∈ news := ⟨o, rfl, (N _ hm).1, hm⟩
section
variable {prog : Program} {w : World} {A₀ A : Around} {s : Shared} {base h₀ : Heap} {outer : List Env} {L : Addr} {m : Str → Option Value} {env : Env} {K : Frag}
  {R : Result → Shared → Prop} {name qual : Str} {params : Arguments} {body : Expr} {scope : Scope} {cl : List (Str × Addr)} {pm ctv : Value} {c' : Addr} {f : Addr} {args : Args} {binds : List (Str × Value)}
  {p : Program} {loose : List Str} {mean : ExcName → Option Value} {mg mb : Str → Option Value}
/-- a call of a lambda made in a body: the callee's base is the heap but for the entries of `tb` -/
theorem enterLam {tb : List (Addr × Obj)} (B : Below A₀ base outer h₀) (F : Fr h₀ L s.heap m) (X₀ : K.In h₀) (N : News h₀ L s.heap tb) (T : Top p loose mean mg mb h₀) (hA : A.frames = some (env :: outer)) (hf : env.frame = some L) (hke : env.scope.kind = .function)
    (ho : s.heap.get? f = some (kla_obj name qual params body scope cl pm c' ctv)) (hcd : s.heap.CodeRec (.ref c') qual) (hroom : A.depth < recursionLimit)
    (hbind : bindArgs (kla_fn name qual params body scope cl pm (.ref c') ctv) args = pure binds) (hloc : ∀ y ∈ binds, scope.names.lookup y.1 = some .local)
    (h : ∀ g L' h₁, (∀ b o, b ∉ tb.map (·.1) → s.heap.get? b = some o → g.get? b = some o) → (∀ b o, g.get? b = some o → s.heap.get? b = some o) → L' = s.heap.objs.size → Fr g L' h₁ (fun y => binds.reverse.lookup y) → News g L' h₁ tb → Below A base (env :: outer) g → K.In g → Top p loose mean mg mb g →
      wpAny (model prog w) (A.deeper (envX qual scope L' f (.ref c') cl)) (eval body (envX qual scope L' f (.ref c') cl))
        (fun v s' => LeaveK h₀ L m g R v s')
        (fun e s' => wpAny (model prog w) (A.deeper (envX qual scope L' f (.ref c') cl)) (leaving (envX qual scope L' f (.ref c') cl) e) (fun _ s'' => R (.error e) s'') (fun e' s'' => R (.error e') s'') s')
        { s with heap := h₁, toks := s.toks + binds.length })
    (hco : scope.isCoroutine = false) (hgen : scope.isGenerator = false) (hk : scope.kind = .function) (hcell : ∀ x ∈ scope.names, x.2 ≠ .cell) : codeAny (model prog w) A (.call (.ref f) args) R s := by
  obtain ⟨FG, BG, st, lv⟩ := groundX (R := R) B F N hA hf hke
  refine kla_callFunE hroom ho rfl hco hgen rfl hcd ?_
  rw [hbind]
  refine wpAny_pure (wpAny_newFunctionEnv hcell hloc (fun h₁ hns hsb => ⟨((T.nolimit).keeps F.keep).fresh _ hsb, ?_⟩) hk)
  show codeAny _ _ (.expr body (envX qual scope s.heap.objs.size f (.ref c') cl)) _ _
  have hk₁ : ∀ b o, s.heap.get? b = some o → h₁.get? b = some o := fun b o e => hsb.extBut b o (Nat.ne_of_lt (Heap.lt_size e)) (Heap.get?_push_of_some _ e)
  exact kla_codeExpr (wpAny_mono (h _ s.heap.objs.size h₁ (fun b o hb e => hideAll_get _ e hb) (fun b o e => of_hideAll _ e) rfl ⟨hns, fun b o e => hk₁ b o (of_hideAll _ e), Nat.le_of_eq (hideAll_size _ _)⟩
    (news_ground hk₁ fun p hp => (N p hp).1) BG (X₀.keeps st) (T.keeps st)) (fun v s' hl => lv _ _ hl) fun _ _ y => y)
end
theorem allLt_all {d : Addr} : ∀ {l : List (Addr × Obj)}, AllLt d l → ∀ p ∈ l, @LT.lt Nat _ p.1 d
  | [], _, _, h => nomatch h
  | _ :: _, x, p, h => by
    rcases List.mem_cons.mp h with rfl | h
    · exact x.1
    · exact allLt_all x.2 p h

theorem mem_takeWhile (p : Int → Bool) : ∀ {l : List Int} {d : Int}, d ∈ l.takeWhile p → p d = true
  | [], d, h => by simp at h
  | x :: l, d, h => by
    rw [List.takeWhile_cons] at h
    split at h
    · rename_i q
      rcases List.mem_cons.mp h with rfl | h
      · exact q
      · exact mem_takeWhile p h
    · cases h
theorem dval_digs (n : Nat) : ∀ (m x : Nat), x < 2 ^ (n * m) → dval n (digs n m x) = (x : Int)
  | 0, x, h => by
    have : x = 0 := by simpa using h
    subst this; rfl
  | m + 1, x, h => by
    have h2 : x / 2 ^ n < 2 ^ (n * m) := by
      refine Nat.div_lt_of_lt_mul ?_
      rw [← Nat.pow_add, Nat.add_comm, ← Nat.mul_succ]; exact h
    rw [digs, dval, dval_digs n m _ h2]
    have e := Nat.mod_add_div x (2 ^ n)
    exact_mod_cast e
theorem dval_zeros (n : Nat) : ∀ (l : List Int), (∀ d ∈ l, d = 0) → dval n l = 0
  | [], _ => rfl
  | d :: l, h => by rw [dval, h d (.head _), dval_zeros n l fun x hx => h x (.tail _ hx)]; simp
theorem dval_trim (n : Nat) (l : List Int) : dval n (l.dropWhile (· == 0)).reverse = dval n l.reverse := by
  conv => rhs; rw [← List.takeWhile_append_dropWhile (p := (· == 0)) (l := l)]
  rw [List.reverse_append, dval_append, dval_zeros n (l.takeWhile (· == 0)).reverse, Int.mul_zero, Int.add_zero]
  intro d hd
  have := mem_takeWhile _ (List.mem_reverse.mp hd)
  simpa using this
theorem rest_val {n : Nat} {l : List Nat} (H : ToldOk n l) : restOf n l = dval 3 (wideOf n l).reverse := by
  unfold restOf
  rw [← dval_digs 3 (cdiv (foldA l % foldB n) 3) (foldA l % foldB n) (lt_cdiv (by decide)), H.rest]
  exact dval_trim 3 (wideOf n l)
theorem wide_dig {n : Nat} {l : List Nat} (H : ToldOk n l) : ∀ d ∈ wideOf n l, 0 ≤ d ∧ d < 2 ^ 3 := by
  intro d hd
  rw [← List.takeWhile_append_dropWhile (p := (· == 0)) (l := wideOf n l)] at hd
  rcases List.mem_append.mp hd with h | h
  · have : d = 0 := by simpa using mem_takeWhile _ h
    subst this; decide
  · exact H.shown d (List.mem_reverse.mpr h)
theorem lex_val : ∀ (xs ys : List Int), xs.length = ys.length → (∀ d ∈ xs, 0 ≤ d ∧ d < 2 ^ 3) → (∀ d ∈ ys, 0 ≤ d ∧ d < 2 ^ 3) →
    lexB true xs ys = decide (dval 3 xs.reverse ≤ dval 3 ys.reverse) ∧ lexB false xs ys = decide (dval 3 xs.reverse < dval 3 ys.reverse)
  | [], [], _, _, _ => ⟨rfl, rfl⟩
  | x :: xs, y :: ys, h, hx, hy => by
    have hl : xs.length = ys.length := by simpa using h
    obtain ⟨i1, i2⟩ := lex_val xs ys hl (fun d hd => hx d (.tail _ hd)) fun d hd => hy d (.tail _ hd)
    obtain ⟨b1, b2⟩ := dval_bound 3 xs.reverse fun d hd => hx d (.tail _ (List.mem_reverse.mp hd))
    obtain ⟨c1, c2⟩ := dval_bound 3 ys.reverse fun d hd => hy d (.tail _ (List.mem_reverse.mp hd))
    rw [List.length_reverse] at b2 c2
    rw [List.reverse_cons, List.reverse_cons, dval_append, dval_append, List.length_reverse, List.length_reverse, hl]
    rw [hl] at b2
    simp only [dval, Int.mul_zero, Int.add_zero]
    have hP : (0 : Int) < 2 ^ (3 * ys.length) := Int.pow_pos (by decide)
    generalize (2 : Int) ^ (3 * ys.length) = P at *
    generalize dval 3 xs.reverse = u at *
    generalize dval 3 ys.reverse = v at *
    simp only [lexB]
    by_cases e : x = y
    · subst e
      rw [if_pos rfl, if_pos rfl, i1, i2]
      exact ⟨decide_eq_decide.mpr (by omega), decide_eq_decide.mpr (by omega)⟩
    · rw [if_neg e, if_neg e]
      rcases Int.lt_or_gt_of_ne e with q | q
      · have : P * x + P ≤ P * y := by
          have := Int.mul_le_mul_of_nonneg_left (show x + 1 ≤ y by omega) (Int.le_of_lt hP)
          rw [Int.mul_add, Int.mul_one] at this; exact this
        exact ⟨decide_eq_decide.mpr (by constructor <;> intro <;> omega), decide_eq_decide.mpr (by constructor <;> intro <;> omega)⟩
      · have : P * y + P ≤ P * x := by
          have := Int.mul_le_mul_of_nonneg_left (show y + 1 ≤ x by omega) (Int.le_of_lt hP)
          rw [Int.mul_add, Int.mul_one] at this; exact this
        exact ⟨decide_eq_decide.mpr (by constructor <;> intro <;> omega), decide_eq_decide.mpr (by constructor <;> intro <;> omega)⟩
theorem lex_ok {n : Nat} {l l' : List Nat} (H : ToldOk n l) (H' : ToldOk n l') : LexOk n l l' := by
  have hl : (wideOf n l).length = (wideOf n l').length := H.wlen.trans H'.wlen.symm
  unfold LexOk
  rw [rest_val H, rest_val H']
  exact ⟨hl, lex_val _ _ hl (wide_dig H) (wide_dig H')⟩
/-- what a drawn number's lead may be -/
theorem lead_shape (x : Int) : ∃ (rs : List Nat) (k : Nat), leadCodes x = codesOf rs 0 ++ List.replicate k 32 ∧ k ≤ 3 ∧ ((∃ a < 7, rs = [a]) ∨ (∃ a < 7, ∃ b < 7, rs = [a, b]) ∨ ∃ a < 7, ∃ b < 7, ∃ c < 7, rs = [a, b, c]) := by
  refine ⟨runsOf x, blanksOf x, codes_split _ _, ?_, ?_⟩
  · have h : (x % 4116).toNat < 4116 := by omega
    unfold blanksOf
    generalize (x % 4116).toNat = s at *
    omega
  · unfold runsOf
    generalize (x % 4116).toNat = s
    have h1 : s % 7 < 7 := Nat.mod_lt _ (by decide)
    have h2 : s / 7 % 7 < 7 := Nat.mod_lt _ (by decide)
    have h3 : s / 49 % 7 < 7 := Nat.mod_lt _ (by decide)
    have h4 : s / 343 % 3 < 3 := Nat.mod_lt _ (by decide)
    generalize s / 343 % 3 = q at *
    have : q = 0 ∨ q = 1 ∨ q = 2 := by omega
    rcases this with rfl | rfl | rfl
    · exact .inl ⟨_, h1, rfl⟩
    · exact .inr (.inl ⟨_, h1, _, h2, rfl⟩)
    · exact .inr (.inr ⟨_, h1, _, h2, _, h3, rfl⟩)

/-- one run of blanks and its tab, walked -/
def runS (n r : Nat) : List Int := List.foldl (fun l' k' => if k'.fmod (n : Int) = 0 then l' ++ [(r : Int) - k'] else l') [] (rangeKs 1 r)
def wkRun (n : Nat) (st : Int × List Int × List Int) (r : Nat) : Int × List Int × List Int :=
  (st.1 + ((n * (r / n + 1) : Nat) : Int), st.2.1.take (n - r % n - 1) ++ [st.2.1.getD (n - r % n - 1) 0 + 1] ++ st.2.1.drop (n - r % n), st.2.2 ++ runS n r)
def wkRuns (n : Nat) (rs : List Nat) : Int × List Int × List Int := rs.foldl (wkRun n) (0, List.replicate n 0, [])
def whRun (st : List Int × Int × Int) (r : Nat) : List Int × Int × Int :=
  ((whGrow st.1 (r : Int)).set r ((whGrow st.1 (r : Int)).getD r 0 + 1), st.2.1 + (r : Int) + 1, st.2.2 + 1)
def whRuns (rs : List Nat) : List Int × Int × Int := rs.foldl whRun ([], 0, 0)
theorem wk_spaces (n : Nat) (a b : Int) (ws ss : List Int) : ∀ r : Nat, (List.replicate r 32).foldl (wkStep n) (a, b, ws, ss) = (a + (r : Int), b, ws, ss) := by
  intro r
  induction r generalizing a with
  | zero => simp
  | succ r ih =>
    rw [List.replicate_succ, List.foldl_cons, wkStep, if_pos rfl]
    dsimp only
    rw [ih]
    have e : a + 1 + (r : Int) = a + ((r + 1 : Nat) : Int) := by omega
    rw [e]
theorem wh_spaces (cs : List Int) (b m t : Int) : ∀ r : Nat, (List.replicate r 32).foldl whStep (cs, b, m, t) = (cs, b + (r : Int), m + (r : Int), t) := by
  intro r
  induction r generalizing b m with
  | zero => simp
  | succ r ih =>
    rw [List.replicate_succ, List.foldl_cons, whStep, if_pos rfl]
    dsimp only
    rw [ih]
    have e : b + 1 + (r : Int) = b + ((r + 1 : Nat) : Int) := by omega
    have e2 : m + 1 + (r : Int) = m + ((r + 1 : Nat) : Int) := by omega
    rw [e, e2]
theorem run_shift (n r c : Nat) (hc : n ∣ c) : List.foldl (fun l' k' => if k'.fmod (n : Int) = 0 then l' ++ [((c + r : Nat) : Int) - k'] else l') [] (rangeKs ((c : Int) + 1) r) = runS n r := by
  unfold runS
  have e : rangeKs ((c : Int) + 1) r = (rangeKs 1 r).map fun k => (c : Int) + k := by
    unfold rangeKs
    rw [List.map_map]
    exact List.map_congr_left fun i _ => by show (c : Int) + 1 + (i : Int) = (c : Int) + (1 + (i : Int)); omega
  rw [e, List.foldl_map]
  obtain ⟨q, rfl⟩ := hc
  congr 1
  funext l' k'
  have e1 : ((((n * q : Nat) : Int) + k').fmod (n : Int) = 0) = (k'.fmod (n : Int) = 0) := by
    rw [Int.fmod_eq_emod_of_nonneg _ (by omega), Int.fmod_eq_emod_of_nonneg _ (by omega), Int.natCast_mul, Int.add_comm, Int.add_mul_emod_self_left]
  have e2 : (((n * q + r : Nat) : Int) - (((n * q : Nat) : Int) + k')) = (r : Int) - k' := by omega
  simp only [e1, e2]
theorem wk_run (n r c : Nat) (hn : 1 ≤ n) (hc : n ∣ c) (ws ss : List Int) :
    (List.replicate r 32 ++ [9]).foldl (wkStep n) ((c : Int), (c : Int), ws, ss) = (((c + n * (r / n + 1) : Nat) : Int), ((c + n * (r / n + 1) : Nat) : Int), ws.take (n - r % n - 1) ++ [ws.getD (n - r % n - 1) 0 + 1] ++ ws.drop (n - r % n), ss ++ runS n r) := by
  rw [List.foldl_append, wk_spaces, List.foldl_cons, List.foldl_nil, wkStep, if_neg (by decide)]
  dsimp only
  have hm : ((c : Int) + (r : Int)).fmod (n : Int) = ((r % n : Nat) : Int) := by
    rw [← Int.natCast_add, fm]
    obtain ⟨q, rfl⟩ := hc
    rw [Nat.mul_add_mod]
  have hlt : r % n < n := Nat.mod_lt _ hn
  have hdm := Nat.div_add_mod r n
  have e1 : (c : Int) + (r : Int) + ((n : Int) - ((r % n : Nat) : Int)) = ((c + n * (r / n + 1) : Nat) : Int) := by
    rw [Nat.mul_add, Nat.mul_one]; omega
  have e2 : ((n : Int) - ((r % n : Nat) : Int) - 1).toNat = n - r % n - 1 := by omega
  have e3 : ((n : Int) - ((r % n : Nat) : Int)).toNat = n - r % n := by omega
  have e4 : ((c : Int) + (r : Int) + 1 - ((c : Int) + 1)).toNat = r := by omega
  have e5 : (c : Int) + (r : Int) = ((c + r : Nat) : Int) := by omega
  rw [hm, e1, e2, e3, e4, e5, run_shift n r c hc]
theorem codes_cons (r : Nat) (rs : List Nat) : codesOf (r :: rs) 0 = (List.replicate r 32 ++ [9]) ++ codesOf rs 0 := by
  unfold codesOf
  rw [List.flatMap_cons, List.replicate_zero, List.append_nil, List.append_nil]
theorem wk_runs (n : Nat) (hn : 1 ≤ n) (rs : List Nat) : wkAll n (codesOf rs 0) = ((wkRuns n rs).1, (wkRuns n rs).1, (wkRuns n rs).2.1, (wkRuns n rs).2.2) := by
  unfold wkAll wkRuns
  have gen : ∀ (rs : List Nat) (c : Nat) (ws ss : List Int), n ∣ c → (codesOf rs 0).foldl (wkStep n) ((c : Int), (c : Int), ws, ss) = ((rs.foldl (wkRun n) ((c : Int), ws, ss)).1, (rs.foldl (wkRun n) ((c : Int), ws, ss)).1, (rs.foldl (wkRun n) ((c : Int), ws, ss)).2.1, (rs.foldl (wkRun n) ((c : Int), ws, ss)).2.2) := by
    intro rs
    induction rs with
    | nil => intro c ws ss _; rfl
    | cons r rs ih =>
      intro c ws ss hc
      rw [codes_cons, List.foldl_append, wk_run n r c hn hc, ih _ _ _ (Nat.dvd_add hc (Nat.dvd_mul_right _ _)), List.foldl_cons]
      have e : wkRun n ((c : Int), ws, ss) r = (((c + n * (r / n + 1) : Nat) : Int), ws.take (n - r % n - 1) ++ [ws.getD (n - r % n - 1) 0 + 1] ++ ws.drop (n - r % n), ss ++ runS n r) := by
        unfold wkRun
        dsimp only
        rw [Int.natCast_add]
      rw [e]
  have := gen rs 0 (List.replicate n 0) [] (Nat.dvd_zero n)
  simpa using this
theorem wh_runs (rs : List Nat) : whAll (codesOf rs 0) = ((whRuns rs).1, 0, (whRuns rs).2.1, (whRuns rs).2.2) := by
  unfold whAll whRuns
  have gen : ∀ (rs : List Nat) (cs : List Int) (m t : Int), (codesOf rs 0).foldl whStep (cs, 0, m, t) = ((rs.foldl whRun (cs, m, t)).1, 0, (rs.foldl whRun (cs, m, t)).2.1, (rs.foldl whRun (cs, m, t)).2.2) := by
    intro rs
    induction rs with
    | nil => intro cs m t; rfl
    | cons r rs ih =>
      intro cs m t
      rw [codes_cons, List.foldl_append, List.foldl_append, wh_spaces, List.foldl_cons, List.foldl_nil, whStep, if_neg (by decide)]
      dsimp only
      rw [Int.zero_add, Int.toNat_natCast, ih, List.foldl_cons]
      rfl
  exact gen rs [] 0 0
/-- the runs of a text written anew -/
def anR (sh : List Int) : List Nat := (List.range sh.length).flatMap fun j => List.replicate (sh.getD j 0).toNat j
theorem rep_flat (c j : Nat) : (List.replicate c (List.replicate j 32 ++ [9])).flatten = (List.replicate c j).flatMap fun r => List.replicate r 32 ++ [9] := by
  induction c with
  | zero => rfl
  | succ c ih => rw [List.replicate_succ, List.flatten_cons, ih, List.replicate_succ, List.flatMap_cons]
theorem anew_runs (n : Nat) (l : List Nat) (h0 : (whAll l).2.1 = 0) : anewOf n l = codesOf (anR (shownOf n l)) 0 := by
  unfold anewOf codesOf anR
  rw [h0, Int.toNat_zero, List.flatMap_assoc]
  congr 2
  funext j
  exact rep_flat _ _
theorem codes_len (rs : List Nat) : (codesOf rs 0).length = (rs.map (· + 1)).sum := by
  induction rs with
  | nil => rfl
  | cons r rs ih => rw [codes_cons, List.length_append, ih, List.map_cons, List.sum_cons, List.length_append, List.length_replicate]; rfl
theorem codes_signs (rs : List Nat) : ∀ c ∈ codesOf rs 0, c = 32 ∨ c = 9 := by
  induction rs with
  | nil => intro c h; cases h
  | cons r rs ih =>
    rw [codes_cons]
    refine List.forall_mem_append.mpr ⟨List.forall_mem_append.mpr ⟨fun c hc => .inl (List.eq_of_mem_replicate hc), fun c hc => .inr (List.mem_singleton.mp hc)⟩, ih⟩
def indR (W : List Int × Int × Int) (ts : Nat) : Int := (ts : Int) * (ilSum W.1 ts (W.1.length - ts) + W.2.2)
def ok1 (W : List Int × Int × Int) : Bool := W.1.all (fun d => decide (0 ≤ d ∧ d < 8)) && decide (W.1.length ≤ 13)
def ok2 (n : Nat) (K : Int × List Int × List Int) (sh : List Int) (a : Nat) : Bool :=
  decide (K.2.1.length = n) && decide (sh.length ≤ 6) && !sh.isEmpty && decide (digs 3 (cdiv (a % foldB n) 3) (a % foldB n) = sh) && decide (digs 3 (cdiv (a / foldB n) 3) (a / foldB n) = countsOf K.2.2) &&
  decide (K.2.2.length ≤ 200) && K.2.2.all (fun d => decide (0 ≤ d ∧ d < 100)) && sh.all (fun d => decide (0 ≤ d ∧ d < 8))
def ok3 (n : Nat) (rs : List Nat) (W AW : List Int × Int × Int) (q : Nat) : Bool :=
  [1, 2, 3, 4, 5, 6].all fun part => !(decide (part ≤ n) && n % part == 0) || (decide (indR W part = (wkRuns part rs).1) && decide (indR AW part = (wkRuns part rs).1 - (n : Int) * (q : Int)))
/-- a list of runs, told at n -/
def okR (n : Nat) (rs : List Nat) : Bool :=
  decide ((rs.map (· + 1)).sum ≤ 21) && ok1 (whRuns rs) && ok2 n (wkRuns n rs) ((wkRuns n rs).2.1.dropWhile (· == 0)).reverse (dval 3 (whRuns rs).1).toNat &&
  decide (((anR ((wkRuns n rs).2.1.dropWhile (· == 0)).reverse).map (· + 1)).sum ≤ 21) && ok1 (whRuns (anR ((wkRuns n rs).2.1.dropWhile (· == 0)).reverse)) &&
  ok3 n rs (whRuns rs) (whRuns (anR ((wkRuns n rs).2.1.dropWhile (· == 0)).reverse)) (wkRuns n rs).2.2.length
theorem told_R {n : Nat} {rs : List Nat} (h : okR n rs = true) (hn : 1 ≤ n ∧ n ≤ 6) (k : Nat) (hk : k ≤ 3) : ToldOk n (codesOf rs 0 ++ List.replicate k 32) := by
  have hw : wideOf n (codesOf rs 0) = (wkRuns n rs).2.1 := by unfold wideOf; rw [wk_runs n hn.1]
  have hs : stopsOf n (codesOf rs 0) = (wkRuns n rs).2.2 := by unfold stopsOf; rw [wk_runs n hn.1]
  have hh : shownOf n (codesOf rs 0) = ((wkRuns n rs).2.1.dropWhile (· == 0)).reverse := by unfold shownOf; rw [hw]
  have ha : foldA (codesOf rs 0) = (dval 3 (whRuns rs).1).toNat := by unfold foldA; rw [wh_runs]
  have h0 : (whAll (codesOf rs 0)).2.1 = 0 := by rw [wh_runs]
  have hn2 : anewOf n (codesOf rs 0) = codesOf (anR ((wkRuns n rs).2.1.dropWhile (· == 0)).reverse) 0 := by rw [anew_runs n _ h0, hh]
  have hc : ∀ part, 1 ≤ part → colOf part (codesOf rs 0) = (wkRuns part rs).1 := fun part hp => by unfold colOf; rw [wk_runs part hp]
  have hi : ∀ (rs : List Nat) (part : Nat), indentOf (codesOf rs 0) part = indR (whRuns rs) part := fun rs part => by
    unfold indentOf indR
    rw [wh_runs]
    exact Int.zero_add _
  simp only [okR, ok1, ok2, ok3, Bool.and_eq_true, decide_eq_true_eq, List.all_eq_true, Bool.or_eq_true, beq_iff_eq, Bool.not_eq_true', List.isEmpty_eq_false_iff] at h
  obtain ⟨⟨⟨⟨⟨a1, a3, a4⟩, ⟨⟨⟨⟨⟨⟨b1, b2⟩, b3⟩, b4⟩, b5⟩, b6⟩, b7⟩, b8⟩, c1⟩, c3, c4⟩, e1⟩ := h
  refine told_of ?_ (codes_signs rs) ?_ ?_ ?_ ?_ h0 ?_ ?_ ?_ ?_ ?_ ?_ ?_ ?_ ?_ ?_ ?_ k hk
  · rw [codes_len]; exact a1
  · rw [wh_runs]; exact a3
  · rw [wh_runs]; exact a4
  · rw [hw]; exact b1
  · rw [hh]; exact b2
  · rw [hw]; exact fun e => b3 (by rw [e]; rfl)
  · rw [ha, hh]; exact b4
  · rw [ha, hs]; exact b5
  · rw [hs]; exact b6
  · rw [hs]; exact b7
  · rw [hh]; exact b8
  · rw [hn2, codes_len]; exact c1
  · rw [hn2]; exact codes_signs _
  · rw [hn2, wh_runs]; exact c3
  · rw [hn2, wh_runs]; exact c4
  · intro part h1 h2 h3
    have hp : part ∈ [1, 2, 3, 4, 5, 6] := by
      simp only [List.mem_cons, List.not_mem_nil, or_false]; omega
    have he := e1 part hp
    rw [hn2, hi, hi, hc part h1, hs]
    rcases he with he | he
    · simp [h2, h3] at he
    · exact he
theorem mem_sevens {a : Nat} (h : a < 7) : a ∈ sevens := by
  unfold sevens
  simp only [List.mem_cons, List.not_mem_nil, or_false]; omega

theorem dec1_1 : (sevens.all fun a => okR 1 [a]) = true := by decide +kernel
theorem dec2_1 : (sevens.all fun a => sevens.all fun b => okR 1 [a, b]) = true := by decide +kernel
theorem dec3_1_0 : (sevens.all fun b => sevens.all fun c => okR 1 [0, b, c]) = true := by decide +kernel
theorem dec3_1_1 : (sevens.all fun b => sevens.all fun c => okR 1 [1, b, c]) = true := by decide +kernel
theorem dec3_1_2 : (sevens.all fun b => sevens.all fun c => okR 1 [2, b, c]) = true := by decide +kernel
theorem dec3_1_3 : (sevens.all fun b => sevens.all fun c => okR 1 [3, b, c]) = true := by decide +kernel
theorem dec3_1_4 : (sevens.all fun b => sevens.all fun c => okR 1 [4, b, c]) = true := by decide +kernel
theorem dec3_1_5 : (sevens.all fun b => sevens.all fun c => okR 1 [5, b, c]) = true := by decide +kernel
theorem dec3_1_6 : (sevens.all fun b => sevens.all fun c => okR 1 [6, b, c]) = true := by decide +kernel
theorem dec1_2 : (sevens.all fun a => okR 2 [a]) = true := by decide +kernel
theorem dec2_2 : (sevens.all fun a => sevens.all fun b => okR 2 [a, b]) = true := by decide +kernel
theorem dec3_2_0 : (sevens.all fun b => sevens.all fun c => okR 2 [0, b, c]) = true := by decide +kernel
theorem dec3_2_1 : (sevens.all fun b => sevens.all fun c => okR 2 [1, b, c]) = true := by decide +kernel
theorem dec3_2_2 : (sevens.all fun b => sevens.all fun c => okR 2 [2, b, c]) = true := by decide +kernel
theorem dec3_2_3 : (sevens.all fun b => sevens.all fun c => okR 2 [3, b, c]) = true := by decide +kernel
theorem dec3_2_4 : (sevens.all fun b => sevens.all fun c => okR 2 [4, b, c]) = true := by decide +kernel
theorem dec3_2_5 : (sevens.all fun b => sevens.all fun c => okR 2 [5, b, c]) = true := by decide +kernel
theorem dec3_2_6 : (sevens.all fun b => sevens.all fun c => okR 2 [6, b, c]) = true := by decide +kernel
theorem dec1_3 : (sevens.all fun a => okR 3 [a]) = true := by decide +kernel
theorem dec2_3 : (sevens.all fun a => sevens.all fun b => okR 3 [a, b]) = true := by decide +kernel
theorem dec3_3_0 : (sevens.all fun b => sevens.all fun c => okR 3 [0, b, c]) = true := by decide +kernel
theorem dec3_3_1 : (sevens.all fun b => sevens.all fun c => okR 3 [1, b, c]) = true := by decide +kernel
theorem dec3_3_2 : (sevens.all fun b => sevens.all fun c => okR 3 [2, b, c]) = true := by decide +kernel
theorem dec3_3_3 : (sevens.all fun b => sevens.all fun c => okR 3 [3, b, c]) = true := by decide +kernel
theorem dec3_3_4 : (sevens.all fun b => sevens.all fun c => okR 3 [4, b, c]) = true := by decide +kernel
theorem dec3_3_5 : (sevens.all fun b => sevens.all fun c => okR 3 [5, b, c]) = true := by decide +kernel
theorem dec3_3_6 : (sevens.all fun b => sevens.all fun c => okR 3 [6, b, c]) = true := by decide +kernel
theorem dec1_4 : (sevens.all fun a => okR 4 [a]) = true := by decide +kernel
theorem dec2_4 : (sevens.all fun a => sevens.all fun b => okR 4 [a, b]) = true := by decide +kernel
theorem dec3_4_0 : (sevens.all fun b => sevens.all fun c => okR 4 [0, b, c]) = true := by decide +kernel
theorem dec3_4_1 : (sevens.all fun b => sevens.all fun c => okR 4 [1, b, c]) = true := by decide +kernel
theorem dec3_4_2 : (sevens.all fun b => sevens.all fun c => okR 4 [2, b, c]) = true := by decide +kernel
theorem dec3_4_3 : (sevens.all fun b => sevens.all fun c => okR 4 [3, b, c]) = true := by decide +kernel
theorem dec3_4_4 : (sevens.all fun b => sevens.all fun c => okR 4 [4, b, c]) = true := by decide +kernel
theorem dec3_4_5 : (sevens.all fun b => sevens.all fun c => okR 4 [5, b, c]) = true := by decide +kernel
theorem dec3_4_6 : (sevens.all fun b => sevens.all fun c => okR 4 [6, b, c]) = true := by decide +kernel
theorem dec1_5 : (sevens.all fun a => okR 5 [a]) = true := by decide +kernel
theorem dec2_5 : (sevens.all fun a => sevens.all fun b => okR 5 [a, b]) = true := by decide +kernel
theorem dec3_5_0 : (sevens.all fun b => sevens.all fun c => okR 5 [0, b, c]) = true := by decide +kernel
theorem dec3_5_1 : (sevens.all fun b => sevens.all fun c => okR 5 [1, b, c]) = true := by decide +kernel
theorem dec3_5_2 : (sevens.all fun b => sevens.all fun c => okR 5 [2, b, c]) = true := by decide +kernel
theorem dec3_5_3 : (sevens.all fun b => sevens.all fun c => okR 5 [3, b, c]) = true := by decide +kernel
theorem dec3_5_4 : (sevens.all fun b => sevens.all fun c => okR 5 [4, b, c]) = true := by decide +kernel
theorem dec3_5_5 : (sevens.all fun b => sevens.all fun c => okR 5 [5, b, c]) = true := by decide +kernel
theorem dec3_5_6 : (sevens.all fun b => sevens.all fun c => okR 5 [6, b, c]) = true := by decide +kernel
theorem dec1_6 : (sevens.all fun a => okR 6 [a]) = true := by decide +kernel
theorem dec2_6 : (sevens.all fun a => sevens.all fun b => okR 6 [a, b]) = true := by decide +kernel
theorem dec3_6_0 : (sevens.all fun b => sevens.all fun c => okR 6 [0, b, c]) = true := by decide +kernel
theorem dec3_6_1 : (sevens.all fun b => sevens.all fun c => okR 6 [1, b, c]) = true := by decide +kernel
theorem dec3_6_2 : (sevens.all fun b => sevens.all fun c => okR 6 [2, b, c]) = true := by decide +kernel
theorem dec3_6_3 : (sevens.all fun b => sevens.all fun c => okR 6 [3, b, c]) = true := by decide +kernel
theorem dec3_6_4 : (sevens.all fun b => sevens.all fun c => okR 6 [4, b, c]) = true := by decide +kernel
theorem dec3_6_5 : (sevens.all fun b => sevens.all fun c => okR 6 [5, b, c]) = true := by decide +kernel
theorem dec3_6_6 : (sevens.all fun b => sevens.all fun c => okR 6 [6, b, c]) = true := by decide +kernel
theorem told_all (n : Nat) (hn : 1 ≤ n ∧ n ≤ 6) (x : Int) : ToldOk n (leadCodes x) := by
  obtain ⟨rs, k, e, hk, hr⟩ := lead_shape x
  rw [e]
  refine told_R ?_ hn k hk
  have hn6 : n = 1 ∨ n = 2 ∨ n = 3 ∨ n = 4 ∨ n = 5 ∨ n = 6 := by omega
  rcases hr with ⟨a, ha, rfl⟩ | ⟨a, ha, b, hb, rfl⟩ | ⟨a, ha, b, hb, c, hc, rfl⟩
  · rcases hn6 with rfl | rfl | rfl | rfl | rfl | rfl
    · exact List.all_eq_true.mp dec1_1 a (mem_sevens ha)
    · exact List.all_eq_true.mp dec1_2 a (mem_sevens ha)
    · exact List.all_eq_true.mp dec1_3 a (mem_sevens ha)
    · exact List.all_eq_true.mp dec1_4 a (mem_sevens ha)
    · exact List.all_eq_true.mp dec1_5 a (mem_sevens ha)
    · exact List.all_eq_true.mp dec1_6 a (mem_sevens ha)
  · rcases hn6 with rfl | rfl | rfl | rfl | rfl | rfl
    · exact List.all_eq_true.mp (List.all_eq_true.mp dec2_1 a (mem_sevens ha)) b (mem_sevens hb)
    · exact List.all_eq_true.mp (List.all_eq_true.mp dec2_2 a (mem_sevens ha)) b (mem_sevens hb)
    · exact List.all_eq_true.mp (List.all_eq_true.mp dec2_3 a (mem_sevens ha)) b (mem_sevens hb)
    · exact List.all_eq_true.mp (List.all_eq_true.mp dec2_4 a (mem_sevens ha)) b (mem_sevens hb)
    · exact List.all_eq_true.mp (List.all_eq_true.mp dec2_5 a (mem_sevens ha)) b (mem_sevens hb)
    · exact List.all_eq_true.mp (List.all_eq_true.mp dec2_6 a (mem_sevens ha)) b (mem_sevens hb)
  · have ha7 : a = 0 ∨ a = 1 ∨ a = 2 ∨ a = 3 ∨ a = 4 ∨ a = 5 ∨ a = 6 := by omega
    rcases hn6 with rfl | rfl | rfl | rfl | rfl | rfl <;> rcases ha7 with rfl | rfl | rfl | rfl | rfl | rfl | rfl
    · exact List.all_eq_true.mp (List.all_eq_true.mp dec3_1_0 b (mem_sevens hb)) c (mem_sevens hc)
    · exact List.all_eq_true.mp (List.all_eq_true.mp dec3_1_1 b (mem_sevens hb)) c (mem_sevens hc)
    · exact List.all_eq_true.mp (List.all_eq_true.mp dec3_1_2 b (mem_sevens hb)) c (mem_sevens hc)
    · exact List.all_eq_true.mp (List.all_eq_true.mp dec3_1_3 b (mem_sevens hb)) c (mem_sevens hc)
    · exact List.all_eq_true.mp (List.all_eq_true.mp dec3_1_4 b (mem_sevens hb)) c (mem_sevens hc)
    · exact List.all_eq_true.mp (List.all_eq_true.mp dec3_1_5 b (mem_sevens hb)) c (mem_sevens hc)
    · exact List.all_eq_true.mp (List.all_eq_true.mp dec3_1_6 b (mem_sevens hb)) c (mem_sevens hc)
    · exact List.all_eq_true.mp (List.all_eq_true.mp dec3_2_0 b (mem_sevens hb)) c (mem_sevens hc)
    · exact List.all_eq_true.mp (List.all_eq_true.mp dec3_2_1 b (mem_sevens hb)) c (mem_sevens hc)
    · exact List.all_eq_true.mp (List.all_eq_true.mp dec3_2_2 b (mem_sevens hb)) c (mem_sevens hc)
    · exact List.all_eq_true.mp (List.all_eq_true.mp dec3_2_3 b (mem_sevens hb)) c (mem_sevens hc)
    · exact List.all_eq_true.mp (List.all_eq_true.mp dec3_2_4 b (mem_sevens hb)) c (mem_sevens hc)
    · exact List.all_eq_true.mp (List.all_eq_true.mp dec3_2_5 b (mem_sevens hb)) c (mem_sevens hc)
    · exact List.all_eq_true.mp (List.all_eq_true.mp dec3_2_6 b (mem_sevens hb)) c (mem_sevens hc)
    · exact List.all_eq_true.mp (List.all_eq_true.mp dec3_3_0 b (mem_sevens hb)) c (mem_sevens hc)
    · exact List.all_eq_true.mp (List.all_eq_true.mp dec3_3_1 b (mem_sevens hb)) c (mem_sevens hc)
    · exact List.all_eq_true.mp (List.all_eq_true.mp dec3_3_2 b (mem_sevens hb)) c (mem_sevens hc)
    · exact List.all_eq_true.mp (List.all_eq_true.mp dec3_3_3 b (mem_sevens hb)) c (mem_sevens hc)
    · exact List.all_eq_true.mp (List.all_eq_true.mp dec3_3_4 b (mem_sevens hb)) c (mem_sevens hc)
    · exact List.all_eq_true.mp (List.all_eq_true.mp dec3_3_5 b (mem_sevens hb)) c (mem_sevens hc)
    · exact List.all_eq_true.mp (List.all_eq_true.mp dec3_3_6 b (mem_sevens hb)) c (mem_sevens hc)
    · exact List.all_eq_true.mp (List.all_eq_true.mp dec3_4_0 b (mem_sevens hb)) c (mem_sevens hc)
    · exact List.all_eq_true.mp (List.all_eq_true.mp dec3_4_1 b (mem_sevens hb)) c (mem_sevens hc)
    · exact List.all_eq_true.mp (List.all_eq_true.mp dec3_4_2 b (mem_sevens hb)) c (mem_sevens hc)
    · exact List.all_eq_true.mp (List.all_eq_true.mp dec3_4_3 b (mem_sevens hb)) c (mem_sevens hc)
    · exact List.all_eq_true.mp (List.all_eq_true.mp dec3_4_4 b (mem_sevens hb)) c (mem_sevens hc)
    · exact List.all_eq_true.mp (List.all_eq_true.mp dec3_4_5 b (mem_sevens hb)) c (mem_sevens hc)
    · exact List.all_eq_true.mp (List.all_eq_true.mp dec3_4_6 b (mem_sevens hb)) c (mem_sevens hc)
    · exact List.all_eq_true.mp (List.all_eq_true.mp dec3_5_0 b (mem_sevens hb)) c (mem_sevens hc)
    · exact List.all_eq_true.mp (List.all_eq_true.mp dec3_5_1 b (mem_sevens hb)) c (mem_sevens hc)
    · exact List.all_eq_true.mp (List.all_eq_true.mp dec3_5_2 b (mem_sevens hb)) c (mem_sevens hc)
    · exact List.all_eq_true.mp (List.all_eq_true.mp dec3_5_3 b (mem_sevens hb)) c (mem_sevens hc)
    · exact List.all_eq_true.mp (List.all_eq_true.mp dec3_5_4 b (mem_sevens hb)) c (mem_sevens hc)
    · exact List.all_eq_true.mp (List.all_eq_true.mp dec3_5_5 b (mem_sevens hb)) c (mem_sevens hc)
    · exact List.all_eq_true.mp (List.all_eq_true.mp dec3_5_6 b (mem_sevens hb)) c (mem_sevens hc)
    · exact List.all_eq_true.mp (List.all_eq_true.mp dec3_6_0 b (mem_sevens hb)) c (mem_sevens hc)
    · exact List.all_eq_true.mp (List.all_eq_true.mp dec3_6_1 b (mem_sevens hb)) c (mem_sevens hc)
    · exact List.all_eq_true.mp (List.all_eq_true.mp dec3_6_2 b (mem_sevens hb)) c (mem_sevens hc)
    · exact List.all_eq_true.mp (List.all_eq_true.mp dec3_6_3 b (mem_sevens hb)) c (mem_sevens hc)
    · exact List.all_eq_true.mp (List.all_eq_true.mp dec3_6_4 b (mem_sevens hb)) c (mem_sevens hc)
    · exact List.all_eq_true.mp (List.all_eq_true.mp dec3_6_5 b (mem_sevens hb)) c (mem_sevens hc)
    · exact List.all_eq_true.mp (List.all_eq_true.mp dec3_6_6 b (mem_sevens hb)) c (mem_sevens hc)
theorem lex_all (n : Nat) (hn : 1 ≤ n ∧ n ≤ 6) (x y : Int) : LexOk n (leadCodes x) (leadCodes y) := lex_ok (told_all n hn x) (told_all n hn y)

/-- the post stands as one name, and nothing is raised -/
theorem post_hide {α : Type} {M : Model} {A : Around} {c : Sem α} {Q₀ : α → Shared → Prop} {E₀ : Value → Shared → Prop} {s : Shared}
    (h : ∀ Q : α → Shared → Prop, (∀ r s', Q₀ r s' → Q r s') → wpAny M A c Q (fun _ _ => False) s) : wpAny M A c Q₀ E₀ s :=
  wpAny_noRaise (h Q₀ fun _ _ x => x)
/-- the middle of two places -/
theorem mids {lo hi : Nat} (h : lo < hi) : lo ≤ (lo + hi) / 2 ∧ (lo + hi) / 2 < hi ∧ (lo + hi) / 2 - lo + (hi - (lo + hi) / 2) = hi - lo ∧ lo + ((lo + hi) / 2 - lo) = (lo + hi) / 2 ∧ (lo + hi) / 2 + (hi - (lo + hi) / 2) = hi := by
  have h1 : lo ≤ (lo + hi) / 2 := by omega
  have h2 : (lo + hi) / 2 < hi := by omega
  generalize (lo + hi) / 2 = m at *
  refine ⟨h1, h2, ?_, Nat.add_sub_cancel' h1, Nat.add_sub_cancel' (Nat.le_of_lt h2)⟩
  omega
theorem mids2 {lo hi k len : Nat} (h : lo < hi) (hk : hi - lo ≤ k + 1) (hne : (lo : Int) + 1 ≠ (hi : Int)) (hl : lo + (hi - lo) ≤ len) (hl2 : len ≤ 100) :
    lo < (lo + hi) / 2 ∧ (lo + hi) / 2 - lo ≤ k ∧ hi - (lo + hi) / 2 ≤ k ∧ lo + ((lo + hi) / 2 - lo) ≤ len ∧ (lo + hi) / 2 + (hi - (lo + hi) / 2) ≤ len ∧ lo + ((lo + hi) / 2 - lo) + (hi - (lo + hi) / 2) ≤ len := by
  have h1 : lo < (lo + hi) / 2 := by omega
  obtain ⟨_, h2, h3, h4, h5⟩ := mids h
  have hl3 : hi ≤ len := by omega
  clear hl hne
  generalize (lo + hi) / 2 = m at *
  refine ⟨h1, by omega, by omega, ?_, ?_, ?_⟩
  · rw [h4]; omega
  · rw [h5]; exact hl3
  · rw [h4, h5]; exact hl3
theorem mids4 {lo hi k : Nat} (h : lo < hi) (hk : hi - lo ≤ k + 1) (hne : (lo : Int) + 1 ≠ (hi : Int)) : lo < (lo + hi) / 2 ∧ (lo + hi) / 2 - lo ≤ k ∧ hi - (lo + hi) / 2 ≤ k := by
  have h1 : lo < (lo + hi) / 2 := by omega
  have h2 := (mids h).2.1
  clear hne
  generalize (lo + hi) / 2 = m at *
  exact ⟨h1, by omega, by omega⟩
theorem mids3 {lo hi len : Nat} (h : lo < hi) (hl : lo + (hi - lo) ≤ len) (hl2 : len ≤ 100) : lo < 2 ^ 60 ∧ hi ≤ 100 ∧ (lo + hi) / 2 - lo ≤ 100 ∧ (-(2 ^ 64) : Int) < (((lo + hi) / 2 : Nat) : Int) - (lo : Int) ∧ (((lo + hi) / 2 : Nat) : Int) - (lo : Int) < 2 ^ 64 := by
  have h1 := (mids h).2.1
  have h2 : hi ≤ 100 := by omega
  generalize (lo + hi) / 2 = m at *
  refine ⟨by omega, h2, by omega, by omega, by omega⟩
/-- a fixed place is none of those made later -/
theorem nf0 {L c : Nat} (h : 185 < L) (hc : Nat.ble c 185 = true) : @Ne Nat c L := Nat.ne_of_lt (Nat.lt_of_le_of_lt (Nat.le_of_ble_eq_true hc) h)
theorem nf1 {L c : Nat} (h : 185 < L) (hc : Nat.ble c 185 = true) : @Ne Nat c (L + 1) := nf0 (Nat.lt_succ_of_lt h) hc
theorem nf2 {L c : Nat} (h : 185 < L) (hc : Nat.ble c 185 = true) : @Ne Nat c (L + 1 + 1) := nf1 (Nat.lt_succ_of_lt h) hc
theorem nf3 {L c : Nat} (h : 185 < L) (hc : Nat.ble c 185 = true) : @Ne Nat c (L + 1 + 1 + 1) := nf2 (Nat.lt_succ_of_lt h) hc
theorem nf4 {L c : Nat} (h : 185 < L) (hc : Nat.ble c 185 = true) : @Ne Nat c (L + 1 + 1 + 1 + 1) := nf3 (Nat.lt_succ_of_lt h) hc
theorem nf5 {L c : Nat} (h : 185 < L) (hc : Nat.ble c 185 = true) : @Ne Nat c (L + 1 + 1 + 1 + 1 + 1) := nf4 (Nat.lt_succ_of_lt h) hc
/-- what stood before is none of those made later -/
theorem nb1 {L c : Nat} (h : c < L) : @Ne Nat c (L + 1) := Nat.ne_of_lt (Nat.lt_succ_of_lt h)
theorem nb2 {L c : Nat} (h : c < L) : @Ne Nat c (L + 1 + 1) := nb1 (Nat.lt_succ_of_lt h)
theorem nb3 {L c : Nat} (h : c < L) : @Ne Nat c (L + 1 + 1 + 1) := nb2 (Nat.lt_succ_of_lt h)
theorem nb4 {L c : Nat} (h : c < L) : @Ne Nat c (L + 1 + 1 + 1 + 1) := nb3 (Nat.lt_succ_of_lt h)
theorem nb5 {L c : Nat} (h : c < L) : @Ne Nat c (L + 1 + 1 + 1 + 1 + 1) := nb4 (Nat.lt_succ_of_lt h)
theorem dp_in {dp k r : Nat} (h : dp + (k + 1 + 2) < r) : dp + 1 + (k + 2) < r := by omega
theorem un_in {un k r : Nat} (h : un + 8 * (k + 1 + 2) < r) : un + 3 + 8 * (k + 2) < r := by omega
theorem dp_to {dp k r : Nat} (h : dp + 70 < r) (hk : k ≤ 60) : dp + 1 + (k + 2) < r := by omega
theorem un_to {un k r : Nat} (h : un + 8 * 70 < r) (hk : k ≤ 60) : un + 3 + 8 * (k + 2) < r := by omega
theorem dp_le {dp k r : Nat} (h : dp + (k + 4) < r) : dp + 1 + (k + 2) < r := by omega
theorem un_le {un k r : Nat} (h : un + 8 * (k + 4) < r) : un + 3 + 8 * (k + 2) < r := by omega
theorem all4 {G : Prop} {d a b c e : Addr} {oa ob oc oe : Obj} {p : Addr × Obj} {r : List (Addr × Obj)} (h : AllLt d ((a, oa) :: (b, ob) :: (c, oc) :: (e, oe) :: p :: r))
    (k : @LT.lt Nat _ a d → @LT.lt Nat _ b d → @LT.lt Nat _ c d → @LT.lt Nat _ e d → AllLt d (p :: r) → G) : G := k h.1 h.2.1 h.2.2.1 h.2.2.2.1 h.2.2.2.2
theorem all1 {G : Prop} {d a : Addr} {oa : Obj} {r : List (Addr × Obj)} (h : AllLt d ((a, oa) :: r)) (k : @LT.lt Nat _ a d → AllLt d r → G) : G := k h.1 h.2
theorem all1e {G : Prop} {d a : Addr} {oa : Obj} (h : AllLt d [(a, oa)]) (k : @LT.lt Nat _ a d → G) : G := k h.1

def bitF (r : Int) : Str := Txt.mul (Str.ofString " ") r ++ Str.ofString "\t"
theorem bitF_len {r : Int} (h : 0 ≤ r ∧ r < 7) : (bitF r).length ≤ 7 := by
  obtain ⟨h1, h2⟩ := h
  unfold bitF
  simp only [Str.length_append, mul_len, show (Str.ofString " ").length = 1 from rfl, show (Str.ofString "\t").length = 1 from rfl, Nat.one_mul]
  omega
theorem lead_all (x : Int) : ∃ (R : List Int) (J : Str), List.take (1 + ((x.fmod 4116).fdiv 343).fmod 3).toNat [(x.fmod 4116).fmod 7, ((x.fmod 4116).fdiv 7).fmod 7, ((x.fmod 4116).fdiv 49).fmod 7] = R ∧ R.length ≤ 3 ∧ (∀ r ∈ R, 0 ≤ r ∧ r < 7) ∧
    ((R.map bitF).map (·.length)).sum ≤ 21 ∧ Txt.join (Str.ofString "") (R.map bitF) = J ∧ J.length ≤ 21 ∧ J ++ Txt.mul (Str.ofString " ") ((x.fmod 4116).fdiv 1029) = leadText x := by
  have b1 : 0 ≤ (x.fmod 4116).fmod 7 ∧ (x.fmod 4116).fmod 7 < 7 := ⟨Int.fmod_nonneg_of_pos _ (by decide), Int.fmod_lt_of_pos _ (by decide)⟩
  have b2 : 0 ≤ ((x.fmod 4116).fdiv 7).fmod 7 ∧ ((x.fmod 4116).fdiv 7).fmod 7 < 7 := ⟨Int.fmod_nonneg_of_pos _ (by decide), Int.fmod_lt_of_pos _ (by decide)⟩
  have b3 : 0 ≤ ((x.fmod 4116).fdiv 49).fmod 7 ∧ ((x.fmod 4116).fdiv 49).fmod 7 < 7 := ⟨Int.fmod_nonneg_of_pos _ (by decide), Int.fmod_lt_of_pos _ (by decide)⟩
  have f1 := bitF_len b1
  have f2 := bitF_len b2
  have f3 := bitF_len b3
  rcases take3 (((x.fmod 4116).fdiv 343)) ((x.fmod 4116).fmod 7) (((x.fmod 4116).fdiv 7).fmod 7) (((x.fmod 4116).fdiv 49).fmod 7) with ⟨e1, e2⟩ | ⟨e1, e2⟩ | ⟨e1, e2⟩
  · refine ⟨_, _, e1, by simp, List.forall_mem_cons.mpr ⟨b1, List.forall_mem_nil _⟩, ?_, rfl, ?_, lead_1 x e2⟩
    · simp only [List.map_cons, List.map_nil, List.sum_cons, List.sum_nil]; omega
    · simp only [List.map_cons, List.map_nil, join_1]; omega
  · refine ⟨_, _, e1, by simp, List.forall_mem_cons.mpr ⟨b1, List.forall_mem_cons.mpr ⟨b2, List.forall_mem_nil _⟩⟩, ?_, rfl, ?_, lead_2 x e2⟩
    · simp only [List.map_cons, List.map_nil, List.sum_cons, List.sum_nil]; omega
    · simp only [List.map_cons, List.map_nil, join_2, Str.length_append]; omega
  · refine ⟨_, _, e1, by simp, List.forall_mem_cons.mpr ⟨b1, List.forall_mem_cons.mpr ⟨b2, List.forall_mem_cons.mpr ⟨b3, List.forall_mem_nil _⟩⟩⟩, ?_, rfl, ?_, lead_3 x e2⟩
    · simp only [List.map_cons, List.map_nil, List.sum_cons, List.sum_nil]; omega
    · simp only [List.map_cons, List.map_nil, join_3, Str.length_append]; omega

local macro_rules | `(tactic| walk_at "binaryOp Mult str int") => `(tactic| (k_here; (with_reducible show wpAny _ _ (binaryOp Operator.Mult (Value.str _ _) (Value.int _ _)) _ _ _); (refine SB.mul (mulOk_of 16 1048576 (by walk_at "my_len") (by omega) (by omega) (by decide) (by decide)) ?_; intro _ _)))
local macro_rules | `(tactic| walk_at "subscriptTail Name UnaryOp ref int") => `(tactic| (k_here; (with_reducible show wpAny _ _ (subscriptTail _ _ (Value.ref _) (Value.int _ _)) _ _ _); k_dflt (refine' item_list_ints_neg ?l ?i ?a ?b ?c ?_ ?s ?t; (case l => is_list); (case i => l_ints); (case a => decide); (case b => ((simp only [List.length_reverse, List.length_drop]); omega)); (case c => decide); (case s => with_unfolding_all rfl); (case t => kmk_pure)); intro _))
local macro_rules | `(tactic| walk_at "subscriptTail Name Slice ref ref") => `(tactic| (k_here; (with_reducible show wpAny _ _ (subscriptTail _ (PySem.Expr.Slice none none (some _) _) (Value.ref _) (Value.ref _)) _ _ _); k_dflt (refine' krv_ints ?F ?N ?l ?k ?i ?_ ?s ?t ?z; (case F => k_asm); (case N => k_asm); (case l => kmk_list); (case k => exact IsPart.int _ _); (case i => l_ints); (case s => with_unfolding_all rfl); (case t => kmk_pure); (case z => exact kmk_sz (by l_ints) (by (simp only [List.length_append, List.length_take, List.length_drop, List.length_cons, List.length_nil, sizeLine]; omega)))); intro D' ws' h' F' N' l1 hI' hC'; clear hC'; (try k_lt l1); (try k_sweep)))
local macro_rules | `(tactic| k_inst) => `(tactic| first | (k_dflt (refine' InstAt.of_base ?F ?h1 ?h2; (case F => k_asm); (case h1 => assumption); (case h2 => assumption))) | fail "k_inst: not in the base")
local macro_rules | `(tactic| k_all) => `(tactic| first | (tbn_letter; k_dflt (refine' tab_off ?T ?N ?s ?m ?d; (case T => assumption); (case N => k_asm); (case s => (intro q9 hq9; repeat (first | exact hq9 | refine List.Mem.tail _ ?_))); (case m => k_mem); (case d => first | exact nf_cell (by assumption) | (intro v9 e9; cases e9; done)))) | fail "k_all: no tab")
local macro_rules | `(tactic| walk_at "call builtin:list.append") => `(tactic| (k_here; (with_reducible show wpAny _ _ (call (Value.builtin _) [Value.ref _, _]) _ _ _); k_dflt (refine' append_K ?k1 ?k2 ?k3 ?_ ?z; (case k1 => k_asm); (case k2 => k_asm); (case k3 => k_upd); (case z => ((simp only [List.size_toArray, sizeLine]); omega)); k_whole); intro h' F' N'; (try k_sweep)))
local macro_rules | `(tactic| walk_at "call builtin:list.reverse") => `(tactic| (k_here; (with_reducible show wpAny _ _ (call (Value.builtin _) [Value.ref _]) _ _ _); k_dflt (refine' kl_reverse ?F ?N ?e ?U ?z ?_; (case F => k_asm); (case N => k_asm); (case e => exact rfl); (case U => k_upd); (case z => ((simp only [List.size_toArray, List.length_reverse, sizeLine]); omega))); kl_rest))
local macro_rules | `(tactic| walk_at "binaryOp RShift int int") => `(tactic| (with_reducible refine rshift_natS (by assumption) ?_))
local macro_rules | `(tactic| walk_at "binaryOp LShift int int") => `(tactic| (with_reducible refine lshift_natS (by assumption) (by first | assumption | omega) (by assumption) ?_))
local macro_rules | `(tactic| walk_at "binaryOp BitXor int int") => `(tactic| (with_reducible refine xor_natS ?_))
local macro_rules | `(tactic| walk_at "callWith ref") => `(tactic| (k_dflt (refine' callWith_F ?k1 ?_; (case k1 => exact FnAt_up (by assumption) (by k_asm)); k_whole)))
local macro_rules | `(tactic| walk_at "FnAt") => `(tactic| (k_dflt (exact FnAt_up (by assumption) (by k_asm))))
local macro_rules | `(tactic| walk_at "binaryOp LShift int int") => `(tactic| (with_reducible refine lshift_int_small (by first | assumption | omega) (by first | assumption | omega) (by first | assumption | omega) ?_))
local macro_rules | `(tactic| walk_at "binaryOp Mult int int") => `(tactic| (refine' PyProof.Rows.mul_int ?_ ?m; (case m => exact IntMulOk.of_left (intBits_le_64 (by omega) (by omega)))))
local macro_rules | `(tactic| walk_at "eval Name") => `(tactic| (k_here; k_dflt (refine' nameX_G ?F ?c ?m ?d ?_ ?a ?b; (case a => rfl); (case b => rfl); (case F => k_asm); (case c => rfl); (case m => assumption); (case d => assumption); k_whole)))
local macro_rules | `(tactic| walk_at "truthy ref") => `(tactic| ((with_reducible rename IsSeq _ _ _ => hSq); (with_reducible rename IntsAre _ _ => hSi); (have hSl := IntsAre.length hSi); k_dflt (refine' seq_truthy ?l ?n ?_; (case l => first | exact hSq | exact IsSeq.keeps hSq (Fr.keep (by k_asm))); (case n => omega)); intro _))
local macro_rules | `(tactic| walk_at "call builtin:len") => `(tactic| ((with_reducible rename IsSeq _ _ _ => hSq); (with_reducible rename IntsAre _ _ => hSi); (have hSl := IntsAre.length hSi); k_dflt (refine' seq_len ?l ?n ?_; (case l => first | exact hSq | exact IsSeq.keeps hSq (Fr.keep (by k_asm))); (case n => omega)); intro _ _))
local macro_rules | `(tactic| walk_at "subscriptTail Name Name ref int") => `(tactic| ((with_reducible rename IsSeq _ _ _ => hSq); (with_reducible rename IntsAre _ _ => hSi); (have hSl := IntsAre.length hSi); k_dflt (refine' seq_item ?l ?i ?n ?a ?b ?_ ?s; (case l => first | exact hSq | exact IsSeq.keeps hSq (Fr.keep (by k_asm))); (case i => exact hSi); (case n => omega); (case a => omega); (case b => omega); (case s => with_unfolding_all rfl)); intro _))
local macro_rules | `(tactic| walk_at "call type:tuple") => `(tactic| (k_here; (with_reducible show wpAny _ _ (call (Value.type _) [Value.ref _]) _ _ _); k_dflt (refine' kde_tupleOf ?k1 ?k2 ?k3 ?k4 ?k5 ?_; (case k1 => k_asm); (case k2 => k_asm); (case k3 => is_list); (case k4 => (have hLI := IntsAre.length (by assumption); simp only [List.size_toArray]; omega)); (case k5 => exact (rfl : (List.toArray _).toList = _)); k_whole); intro D' h' F' N' l1; (try k_lt l1); (try k_sweep)))
local macro_rules | `(tactic| walk_at "subscriptTail Name Name ref int") => `(tactic| (k_here; (with_reducible show wpAny _ _ (subscriptTail _ _ (Value.ref _) (Value.int _ _)) _ _ _); k_dflt (refine' item_ints ?l ?i ?a ?b ?c ?_ ?s; (case l => is_list); (case i => l_ints); (case a => omega); (case b => ((simp only [List.length_append, List.length_take, List.length_drop, List.length_cons, List.length_nil]); omega)); (case c => omega); (case s => with_unfolding_all rfl)); intro _))
local macro_rules | `(tactic| walk_at "subscriptTail Name BinOp ref int") => `(tactic| (k_here; (with_reducible show wpAny _ _ (subscriptTail _ _ (Value.ref _) (Value.int _ _)) _ _ _); k_dflt (refine' item_ints ?l ?i ?a ?b ?c ?_ ?s; (case l => is_list); (case i => l_ints); (case a => omega); (case b => ((simp only [List.length_append, List.length_take, List.length_drop, List.length_cons, List.length_nil]); omega)); (case c => omega); (case s => with_unfolding_all rfl)); intro _))
local macro_rules | `(tactic| walk_at "subscriptTail Name Slice ref ref") => `(tactic| (k_here; (with_reducible show wpAny _ _ (subscriptTail _ (PySem.Expr.Slice none (some _) none _) (Value.ref _) (Value.ref _)) _ _ _); k_dflt (refine' kmk_slice_ints ?F ?N ?l ?p ?q ?i ?m ?c ?_ ?s ?t ?z; (case F => k_asm); (case N => k_asm); (case l => kmk_list); (case p => kmk_part); (case q => kmk_part); (case i => l_ints); (case m => exact kmk_upto (by l_ints) (by first | assumption | omega)); (case c => exact rfl); (case s => with_unfolding_all rfl); (case t => kmk_pure); (case z => exact kmk_sz (by l_ints) (by (simp only [List.length_append, List.length_take, List.length_drop, List.length_cons, List.length_nil, sizeLine]; omega)))); intro D' ws' h' F' N' l1 hI' hC' hL'; clear hC' hL'; (try k_lt l1); (try k_sweep)))
local macro_rules | `(tactic| walk_at "subscriptTail Name Slice ref ref") => `(tactic| (k_here; (with_reducible show wpAny _ _ (subscriptTail _ (PySem.Expr.Slice (some _) none none _) (Value.ref _) (Value.ref _)) _ _ _); k_dflt (refine' kmk_slice_ints ?F ?N ?l ?p ?q ?i ?m ?c ?_ ?s ?t ?z; (case F => k_asm); (case N => k_asm); (case l => kmk_list); (case p => kmk_part); (case q => kmk_part); (case i => l_ints); (case m => exact kmk_from (by l_ints) (by first | assumption | omega)); (case c => exact rfl); (case s => with_unfolding_all rfl); (case t => kmk_pure); (case z => exact kmk_sz (by l_ints) (by (simp only [List.length_append, List.length_take, List.length_drop, List.length_cons, List.length_nil, sizeLine]; omega)))); intro D' ws' h' F' N' l1 hI' hC' hL'; clear hC' hL'; (try k_lt l1); (try k_sweep)))
local macro_rules | `(tactic| walk_at "eval ListComp") => `(tactic| (k_here; lct_look; lcg_calm; k_dflt (refine LCt.ListComp_T (F₀ := by k_asm) (by with_unfolding_all rfl) (by decide) (by rfl) (by decide) (by rfl) ?_)))
local macro_rules | `(tactic| walk_at "storeName") => `(tactic| (k_here; k_dflt (refine' storeX_L ?F ?N ?_ ?a ?b; (case F => k_asm); (case N => k_asm); (case a => rfl); (case b => rfl); k_whole); intro h' F' N'; (try k_sweep)))
local macro_rules | `(tactic| walk_at "execs cons") => `(tactic| ((with_reducible refine wpAny_execs_cons ?_); try dsimp only))
local macro_rules | `(tactic| walk_at "my_len") => `(tactic| ((simp only [Str.length_append, mul_len, join_1, join_2, join_3, show (Str.ofString " ").length = 1 from rfl, show (Str.ofString "\t").length = 1 from rfl, sizeLine, Nat.one_mul]) ; omega))
local macro_rules | `(tactic| walk_at "call builtin:str.join") => `(tactic| ((refine' join_listW ?l ?i ?b ?c ?_; (case l => exact News.isList (by k_asm) (by k_mem)); (case i => (repeat constructor)); (case b => decide); (case c => ((simp only [List.map_cons, List.map_nil, List.sum_cons, List.sum_nil, List.length_cons, List.length_nil]); walk_at "my_len"))); intro _ _))
local macro_rules | `(tactic| walk_at "binaryOp Add str str") => `(tactic| ((refine' add_str ?_ ?sz; (case sz => walk_at "my_len")); intro _ _))
local macro_rules | `(tactic| walk_at "binaryOp RShift int int") => `(tactic| (with_reducible refine rshift_nat ?_))
local macro_rules | `(tactic| walk_at "my_nes") => `(tactic| ((try ((with_reducible rename ((@Ne _ _ _) ∧ _) ∧ _ => hh9); simp only [and_assoc] at hh9; (repeat (have := And.left hh9; replace hh9 := And.right hh9)))); (try ((with_reducible rename (@Ne _ _ _) ∧ _ => hh8); (repeat (have := And.left hh8; replace hh8 := And.right hh8))))))
local macro_rules | `(tactic| walk_at "my_ne2") => `(tactic| with_reducible first | assumption | exact Nat.ne_of_lt (by assumption) | exact nf0 (by assumption) rfl | exact nf1 (by assumption) rfl | exact nf2 (by assumption) rfl | exact nf3 (by assumption) rfl | exact nf4 (by assumption) rfl | exact nf5 (by assumption) rfl | exact nb1 (by assumption) | exact nb2 (by assumption) | exact nb3 (by assumption) | exact nb4 (by assumption) | exact nb5 (by assumption) | exact Nat.ne_of_lt (up1 _) | exact Nat.ne_of_lt (up2 _) | exact Nat.ne_of_lt (up3 _) | exact Nat.ne_of_lt (up4 _) | exact Nat.ne_of_lt (up5 _))
local macro_rules | `(tactic| walk_at "my_ne1") => `(tactic| first | walk_at "my_ne2" | (refine Ne.symm ?_; walk_at "my_ne2"))
local macro_rules | `(tactic| k_lt $h:ident) => `(tactic| (replace $h := allLt_of $h; repeat (with_reducible first | (refine all4 $h ?_; clear $h; intro _ _ _ _ $h:ident) | (refine all1e $h ?_; clear $h; intro $h:ident) | (refine all1 $h ?_; clear $h; intro _ $h:ident))))
local macro_rules | `(tactic| k_ne) => `(tactic| (refine neN ?_; (try dsimp only); first | walk_at "my_ne1" | (walk_at "my_nes"; walk_at "my_ne1") | omega | exact ne_newsT (by k_asm) (by k_mem) (by k_mem) rfl rfl (by decide)))
theorem lead_pure (prog : Program) (w : World) (x : Int) (tx : Tok) : Pure prog w 163 [.int x tx] 2 (fun _ => True) (fun _ res r => res = [] ∧ ∃ t, r = .str (leadText x) t) := by
  intro p loose mean mg mb dp un gd cn cs a ccd cl outer A₀ base h₀ L m s Q E B F X T hk hd hu _ hret
  k_dflt ((refine wpAny_call ?_; refine' enterT (tb := []) ?kb ?kf ?kx ?kn ?kt ?ka ?kl ?kk ?h1 ?h2 ?h3 ?h4 ?h5 ?_ ?c2 ?c3 ?c4 ?c5; (case kb => assumption); (case kf => assumption); (case kx => assumption); (case kn => exact fun _ hp => nomatch hp); (case kt => assumption); (case ka => exact rfl); (case kl => exact rfl); (case kk => assumption); (case h1 => k_is); (case h2 => k_is); (case h3 => ktr_room); (case h4 => exact BindsTo.of_eq rfl); (case h5 => exact locs rfl); (case c2 => exact rfl); (case c3 => exact rfl); (case c4 => exact rfl); (case c5 => decide)))
  intro g L' h₁ hg1 hg2 hL F' N' B' X' T'
  clear F X T B
  refine post_hide ?_
  intro Qo hQo
  try dsimp only
  try k_fold
  repeat (first | (k_unfold; (try dsimp only)) | (k_end; wrow_close) | ((fail_if_success (with_reducible show wpAny _ _ (storeName _ (PySem.Str.ofString "runs") _) _ _ _)); walk1))
  rename_i hI _ _ _
  obtain ⟨R, J, eR, hR, hRb, hRs, eJ, hJ, hxx⟩ := lead_all x
  rw [eR] at hI
  have b4 : 0 ≤ (x.fmod 4116).fdiv 1029 ∧ (x.fmod 4116).fdiv 1029 < 4 := by
    have h0 : 0 ≤ x.fmod 4116 := Int.fmod_nonneg_of_pos x (by decide)
    have h1 : x.fmod 4116 < 4116 := Int.fmod_lt_of_pos x (by decide)
    rw [Int.fdiv_eq_ediv_of_nonneg _ (by decide)]
    omega
  have hIl := hI.length
  repeat' (first | (k_unfold; (try dsimp only)) | (k_end; wrow_close) | ((fail_if_success (with_reducible show wpAny _ _ (eval (PySem.Expr.ListComp _ _ _ _) _) _ _ _)); walk1))
  rename Fr _ _ _ _ => F9
  k_dflt (refine LCg.ListComp_U (F₀ := F9) (by with_unfolding_all rfl) (by decide) (by rfl) (by decide) (by rfl) ?_)
  repeat' (first | (k_unfold; (try dsimp only)) | (k_end; wrow_close) | ((fail_if_success (with_reducible show LCg.CompSrc _ _ _ _ _ _ _ _ _ _ _ _ _ _)); walk1))
  rename News _ _ _ _ => N9
  refine LCg.CompSrc.ledger (by rfl) F9 N9 (by k_mem) (by (simp only [List.size_toArray, sizeLine]); omega) ?_
  intro g'
  refine comp_gen (fun i y => ∃ t : Tok, y = Value.str (bitF (R.getD i 0)) t) ?_ ?_
  · intro i v ys I oI C oC D m₂ h tk E' hi hP hC hx F₁ N₁ off ne
    have hi2 : i < R.length := by rw [List.size_toArray, hIl] at hi; exact hi
    obtain ⟨u8, hu8⟩ := hI.get i R[i] (by simp [hi2])
    rw [List.getElem?_toArray, hu8] at hP
    cases hP
    have e1 : R.getD i 0 = R[i] := by simp [List.getD, hi2]
    rw [e1]
    obtain ⟨hb1, hb2⟩ := hRb R[i] (List.getElem_mem hi2)
    clear hRb hRs hJ eJ eR
    k_steps
    rename Fr _ _ _ _ => F5
    rename News _ _ _ _ => N5
    refine LCg.CompEnd.intro F5 N5 _ (fun p hp => hp) off (.inr ⟨_, by k_mem, rfl, _, rfl⟩) ⟨rfl, _, rfl⟩
  · intro ys hl9 hr9
    unfold LCg.FinE
    intro D5 h5 tk5 F5 N5 off5
    rw [List.size_toArray, hIl] at hl9
    have hvl : StrsAre ys (R.map bitF) := strs_map bitF hl9 hr9
    clear hr9 off5 N9 F9
    repeat' (first | (k_unfold; (try dsimp only)) | (k_end; wrow_close) | ((fail_if_success (with_reducible show wpAny _ _ (call (Value.builtin "str.join") _) _ _ _)); walk1))
    refine' join_listW ?jl ?ji ?jb ?jc ?_
    case jl => exact News.isList (by k_asm) (by k_mem)
    case ji => exact hvl
    case jb => decide
    case jc => rw [List.length_map]; omega
    intro t9 k9
    rw [eJ]
    clear hvl hRs hRb
    k_steps
    refine hQo _ _ ?_; try dsimp only
    (refine' leaveK_ ?k1 ?k2 ?_; (case k1 => k_asm); (case k2 => k_asm); intro kF kN; try dsimp only)
    exact hret _ _ _ [] (stay_of hg1 (by k_asm)) (fun _ hp => nomatch hp) ⟨rfl, _, congrArg (fun y => Value.str y _) hxx⟩

-- split
inductive WalkPost (n : Nat) (l : List Nat) (_ : Heap) (res : List (Addr × Obj)) (r : Value) : Prop
  | mk (a aw as : Addr) (vw vs : List Value) (tc : Tok) (ka kw ks : Nat) (c b : Int) (ws ss : List Int) (h0 : (c, b, ws, ss) = wkAll n l) (h1 : r = .ref a) (h2 : res = [(a, W.listOf #[.int c tc, .ref aw, .ref as] ka), (as, W.listOf vs.toArray ks), (aw, W.listOf vw.toArray kw)]) (h3 : IntsAre vw ws) (h4 : IntsAre vs ss)
/-- between two signs -/
inductive WJ (n : Nat) (L' : Addr) (os : Obj) (l : List Nat) (i : Nat) (m : Str → Option Value) (nx : List (Addr × Obj)) : Prop
  | mk (c b : Int) (ws ss : List Int) (vw vs : List Value) (aw as : Addr) (kw ks : Nat) (tc tb : Tok) (oc : Obj) (h0 : m (Str.ofString "begun") = some (.int b tb)) (h1 : m (Str.ofString "wide") = some (.ref aw)) (h2 : m (Str.ofString "stops") = some (.ref as)) (h3 : IntsAre vw ws) (h4 : IntsAre vs ss) (h5 : oc.data = .cell (some (.int c tc))) (h6 : (∀ p ∈ [(as, W.listOf vs.toArray ks), (aw, W.listOf vw.toArray kw), (L' + 1 + 1, oc), (L' + 1, os)], p ∈ nx)) (h7 : @LT.lt Nat _ (L' + 1 + 1) as) (h8 : @LT.lt Nat _ (L' + 1 + 1) aw) (h9 : (c, b, ws, ss) = wkAll n (l.take i)) (h10 : WInv n i (c, b, ws, ss))
theorem walk_pure (prog : Program) (w : World) (l : List Nat) (tl : Tok) (n : Nat) (tn : Tok) (hn : 1 ≤ n ∧ n ≤ 6) (hl : l.length ≤ 24) :
    Pure prog w 168 [.str (text l) tl, .int (n : Int) tn] 2 (fun _ => True) (WalkPost n l) := by
  intro p loose mean mg mb dp un gd cn cs a ccd cl outer A₀ base h₀ L m s Q E B F X T hk hd hu _ hret
  k_dflt ((refine wpAny_call ?_; refine' enterC (tb := []) ?kb ?kf ?kx ?kn ?kt ?ka ?kl ?kk ?h1 ?h2 ?h3 ?h4 ?h5 ?h6 ?_ ?c2 ?c3 ?c4; (case kb => assumption); (case kf => assumption); (case kx => assumption); (case kn => exact fun _ hp => nomatch hp); (case kt => assumption); (case ka => exact rfl); (case kl => exact rfl); (case kk => assumption); (case h1 => k_is); (case h2 => k_is); (case h3 => ktr_room); (case h4 => exact BindsTo.of_eq rfl); (case h5 => exact rfl); (case h6 => decide +kernel); (case c2 => exact rfl); (case c3 => exact rfl); (case c4 => exact rfl)))
  intro g L' h₁ tk₁ cells hg1 hg2 hL F' N' Y' B' X' T' _
  obtain ⟨o1, o2, hE, d1, d2⟩ := CellsAre.two Y'
  subst hE
  clear Y'
  (try simp only [List.cons_append, List.nil_append] at N')
  clear F X T B
  refine post_hide ?_
  intro Qo hQo
  try dsimp only
  try k_fold
  k_steps
  rename Fr _ _ _ _ => lF'
  rename News _ _ _ _ => lN'
  with_unfolding_all refine' For_invVF lF' ?k1 ?k2 ?_
  case k1 => exact rfl
  case k2 => exact rfl
  walk1
  refine loop_text (WJ n L' o2 l) (by rfl) lF' lN' ?hj ?_ ?_
  case hj =>
    have hw0 := rep_ints ‹IntsAre (List.flatten _) _›
    refine ⟨0, 0, List.replicate n 0, [], _, [], _, _, 0, 0, _, _, _, rfl, rfl, rfl, hw0, .nil, ‹_ = Data.cell (some (Value.int _ _))›, ?_, ?_, ?_, rfl, winv_zero⟩
    · (repeat (first | exact List.forall_mem_nil _ | refine List.forall_mem_cons.mpr ⟨by k_mem, ?_⟩))
    · refine ltN ?_; omega
    · refine ltN ?_; omega
  · intro i ch t m₁ nx h tk I oI hc hJ hne F₁ N₁
    obtain ⟨c, b, ws, ss, vw, vs, aw, as, kw, ks, tc, tb, oc, j1, j2, j3, j4, j5, j6, jn, jl1, jl2, j8, j9⟩ := hJ
    have F₂ : Fr g L' h _ := fr_lit [(Str.ofString "sign", .str ⟨#[ch]⟩ t), (Str.ofString "begun", .int b tb), (Str.ofString "wide", .ref aw), (Str.ofString "stops", .ref as)] (by intro q hq; simp only [List.mem_cons, List.not_mem_nil, or_false] at hq; rcases hq with rfl | rfl | rfl | rfl; all_goals first | assumption | (simp only []; rw [if_neg (by decide)]; assumption) | exact if_pos rfl | simp_all) F₁
    have N₂ : News g L' h _ := news_in N₁ jn
    have hne2 := allNe_of (ne_in hne jn)
    simp only [AllNe, and_true] at hne2
    clear F₁ N₁ lF' lN' jn hne
    obtain ⟨i1, i2, i3, i4, i5⟩ := j9
    dsimp only at i1 i2 i3 i4 i5 hne2
    obtain ⟨hna, hnb, hnc, hnd⟩ := hne2
    clear j1 j2 j3
    have hb1 : 0 ≤ c.fmod n := Int.fmod_nonneg_of_pos _ (by omega)
    have hb2 : c.fmod n < n := Int.fmod_lt_of_pos _ (by omega)
    have hi : i < l.length := by
      have := (Array.getElem?_eq_some_iff.mp hc).1
      simpa [text] using this
    have hlc : l[i]? = some ch := by simpa [text] using hc
    k_steps
    · rename News _ _ _ _ => N3
      rename Fr _ _ _ _ => F3
      rename _ = Data.cell (some (Value.int _ _)) => d3
      rename (_ == _) = true => hch
      have hch2 : ch = 32 := blank_is hch
      refine LEnd.intro F3 N3 (by k_mem) ?_ ?_ ⟨_, _, _, _, _, _, _, _, kw, ks, _, _, _, rfl, rfl, rfl, j4, j5, d3, fun p hp => hp, jl1, jl2, ?_, ?_⟩
      · (repeat (first | exact List.forall_mem_nil _ | refine List.forall_mem_cons.mpr ⟨by k_mem, ?_⟩))
      · (repeat (first | exact List.forall_mem_nil _ | refine List.forall_mem_cons.mpr ⟨by k_ne, ?_⟩))
      · rw [wk_succ hlc, ← j8, wkStep, if_pos hch2]
      · rw [show (c + 1, b, ws, ss) = wkStep n (c, b, ws, ss) ch by rw [wkStep, if_pos hch2]]; exact winv_step hn ⟨i1, i2, i3, i4, i5⟩
    · rename News _ _ _ _ => N3
      rename Fr _ _ _ _ => F3
      rename _ = Data.cell (some (Value.int _ _)) => d3
      rename IntsAre _ (_ ++ [_] ++ _) => hw3
      rename IntsAre _ (ss ++ _) => hs3
      rename (_ == _) = false => hch
      have hch2 : ¬ ch = 32 := blank_not hch
      refine LEnd.intro F3 N3 (by k_mem) ?_ ?_ ⟨_, _, _, _, _, _, _, _, 0, 0, _, _, _, rfl, rfl, rfl, hw3, hs3, d3, fun p hp => hp, ?_, ?_, ?_, ?_⟩
      · (repeat (first | exact List.forall_mem_nil _ | refine List.forall_mem_cons.mpr ⟨by k_mem, ?_⟩))
      · (repeat (first | exact List.forall_mem_nil _ | refine List.forall_mem_cons.mpr ⟨by k_ne, ?_⟩))
      · refine ltN ?_; omega
      · refine ltN ?_; omega
      · rw [wk_succ hlc, ← j8, wkStep, if_neg hch2]
      · have := winv_step (ch := ch) hn (st := (c, b, ws, ss)) ⟨i1, i2, i3, i4, i5⟩
        rw [wkStep, if_neg hch2] at this
        exact this
  · intro m₁ nx h tk hJ F₁ N₁
    obtain ⟨c, b, ws, ss, vw, vs, aw, as, kw, ks, tc, tb, oc, j1, j2, j3, j4, j5, j6, jn, jl1, jl2, j8, j9⟩ := hJ
    have F₂ : Fr g L' h _ := fr_lit [(Str.ofString "begun", .int b tb), (Str.ofString "wide", .ref aw), (Str.ofString "stops", .ref as)] (by intro q hq; simp only [List.mem_cons, List.not_mem_nil, or_false] at hq; rcases hq with rfl | rfl | rfl <;> assumption) F₁
    have N₂ : News g L' h _ := news_of N₁ jn
    clear F₁ N₁ lF' lN' jn
    rw [show (text l).cps.size = l.length from by simp [text], List.take_length] at j8
    k_steps
    refine hQo _ _ ?_; try dsimp only
    show LeaveK _ _ _ _ _ _ _
    rename News _ _ _ _ => N3
    rename Fr _ _ _ _ => F3
    (refine' leaveK_ ?k1 ?k2 ?_; (case k1 => k_asm); (case k2 => k_asm); intro kF kN; try dsimp only)
    refine hret _ _ _ [(_, W.listOf #[.int c tc, .ref aw, .ref as] 0), (as, W.listOf vs.toArray ks), (aw, W.listOf vw.toArray kw)] (stay_of hg1 F3) ?_ ⟨_, aw, as, vw, vs, tc, 0, kw, ks, c, b, ws, ss, j8, rfl, rfl, j4, j5⟩
    refine List.forall_mem_cons.mpr ⟨⟨(N3 _ (by k_mem)).1, ?_⟩, List.forall_mem_cons.mpr ⟨⟨(N3 _ (by k_mem)).1, ?_⟩, List.forall_mem_cons.mpr ⟨⟨(N3 _ (by k_mem)).1, ?_⟩, List.forall_mem_nil _⟩⟩⟩
    all_goals (rw [← hL]; show @LE.le Nat _ _ _; dsimp only; omega)

inductive WhJ (l : List Nat) (x' d' : Addr) (od : Obj) (ox : Obj) (i : Nat) (m : Str → Option Value) (nx : List (Addr × Obj)) : Prop
  | mk (cs : List Int) (b n nt : Int) (vc : List Value) (ac : Addr) (kc : Nat) (tb tn tt uS uT : Tok) (h0 : i ≤ l.length) (h1 : m (Str.ofString "self") = some (.ref x')) (h2 : m (Str.ofString "S") = some (.str (Str.ofString " ") uS)) (h3 : m (Str.ofString "T") = some (.str (Str.ofString "\t") uT)) (h4 : m (Str.ofString "b") = some (.int b tb)) (h5 : m (Str.ofString "n") = some (.int n tn)) (h6 : m (Str.ofString "nt") = some (.int nt tt)) (h7 : m (Str.ofString "count") = some (.ref ac)) (h8 : IntsAre vc cs) (h9 : (∀ p ∈ [(ac, W.listOf vc.toArray kc), (x', ox), (d', od)], p ∈ nx)) (h10 : @LT.lt Nat _ x' ac) (h11 : (cs, b, n, nt) = whAll (l.take i)) (h12 : HInv i (cs, b, n, nt))
theorem white_init (prog : Program) (w : World) (l suf : List Nat) (tl : Tok) (hl : l.length ≤ 24) (hlt : ∀ c ∈ l, c = 32 ∨ c = 9) (hsuf : suf = [] ∨ ∃ r, suf = 120 :: r) (hsuf2 : suf.length ≤ 3) :
    Pure prog w 154 [.str (text (l ++ suf)) tl] 3 (fun _ => True) (WhitePost w l) := by
  intro p loose mean mg mb dp un gd cn cs a ccd cl outer A₀ base h₀ L m s Q E B F X T hk hd hu _ hret
  k_dflt (refine' call_clsE ?k1 ?k2 ?k4 ?k5 ?k6 ?_)
  case k1 => k_asm
  case k2 => k_asm
  case k4 => k_is
  case k5 => k_is
  case k6 => k_is
  intro x' d' hx st0 hs0 F₁ N₁ l2
  k_lt2 l2
  k_dflt (refine' enterT (tb := [(x', _), (d', _)]) ?kb ?kf ?kx ?kn ?kt ?ka ?kl ?kk ?h1 ?h2 ?h3 ?h4 ?h5 ?_ ?c2 ?c3 ?c4 ?c5)
  case kb => exact B
  case kf => exact F₁
  case kx => exact X
  case kn => exact N₁
  case kt => exact T
  case ka => exact rfl
  case kl => exact rfl
  case kk => exact hk
  case h1 => k_is
  case h2 => k_is
  case h3 => ktr_room
  case h4 => exact BindsTo.of_eq rfl
  case h5 => exact locs rfl
  case c2 => exact rfl
  case c3 => exact rfl
  case c4 => exact rfl
  case c5 => decide
  intro g L' h₁ hg1 hg2 hL F' N' B' X' T'
  clear F X T B F₁ N₁
  refine post_hide ?_
  intro Qo hQo
  try dsimp only
  try k_fold
  k_steps
  rename Fr _ _ _ _ => lF'
  rename News _ _ _ _ => lN'
  have ⟨tk0, lN2⟩ : ∃ tk0, News g L' _ [_, _, (x', instObj 154 d'), (d', dictOf [ent w "raw" tk0 (.str (text (l ++ suf)) tl)] 1)] := ⟨_, lN'⟩
  refine loop_text (WhJ l x' d' (dictOf [ent w "raw" tk0 (.str (text (l ++ suf)) tl)] 1) (instObj 154 d')) (by rfl) lF' lN2 ?hj ?_ ?_
  case hj =>
    refine ⟨[], 0, 0, 0, [], _, 0, _, _, _, _, _, Nat.zero_le _, rfl, rfl, rfl, rfl, rfl, rfl, rfl, .nil, ?_, ?_, rfl, ⟨Nat.le_refl _, Int.le_refl _, Int.le_refl _⟩⟩
    · (repeat (first | exact List.forall_mem_nil _ | refine List.forall_mem_cons.mpr ⟨by k_mem, ?_⟩))
    · refine ltN ?_; omega
  · intro i ch t m₁ nx h tk I oI hc hJ hne F₁ N₁
    obtain ⟨cs₁, b, n, nt, vc, ac, kc, tb, tn, tt, uS, uT, hil, j1, j2, j3, j4, j5, j6, j7, j8, jn, jl, j9, i1, i2, i3⟩ := hJ
    have F₂ : Fr g L' h _ := fr_lit [(Str.ofString "ch", .str ⟨#[ch]⟩ t), (Str.ofString "self", .ref x'), (Str.ofString "S", .str (Str.ofString " ") uS), (Str.ofString "T", .str (Str.ofString "\t") uT), (Str.ofString "b", .int b tb), (Str.ofString "n", .int n tn), (Str.ofString "nt", .int nt tt), (Str.ofString "count", .ref ac)] (by intro q hq; simp only [List.mem_cons, List.not_mem_nil, or_false] at hq; rcases hq with rfl | rfl | rfl | rfl | rfl | rfl | rfl | rfl; all_goals first | assumption | (simp only []; rw [if_neg (by decide)]; assumption) | exact if_pos rfl | simp_all) F₁
    have N₂ : News g L' h _ := news_in N₁ jn
    have hne2 := allNe_of (ne_in hne jn)
    simp only [AllNe, and_true] at hne2
    clear F₁ N₁ lF' lN' jn hne lN2 j1 j2 j3 j4 j5 j6 j7
    dsimp only at i1 i2 i3
    have hc2 : (l ++ suf)[i]? = some ch := by simpa [text] using hc
    rcases Nat.lt_or_ge i l.length with hi | hi
    · have hlc : l[i]? = some ch := by rw [← hc2, List.getElem?_append_left hi]
      have hch := hlt ch (List.mem_of_getElem? hlc)
      -- HEAVY
      rcases hch with rfl | rfl
      · k_steps
        rename News _ _ _ _ => N3
        rename Fr _ _ _ _ => F3
        refine LEnd.intro F3 N3 (by k_mem) ?_ ?_ ⟨cs₁, _, _, _, vc, ac, kc, _, _, _, _, _, hi, rfl, rfl, rfl, rfl, rfl, rfl, rfl, j8, fun p hp => hp, jl, ?_, ?_⟩
        · (repeat (first | exact List.forall_mem_nil _ | refine List.forall_mem_cons.mpr ⟨by k_mem, ?_⟩))
        · (repeat (first | exact List.forall_mem_nil _ | refine List.forall_mem_cons.mpr ⟨by k_ne, ?_⟩))
        · rw [wh_succ hlc, ← j9]; rfl
        · exact hinv_step (ch := 32) (st := (cs₁, b, n, nt)) ⟨i1, i2, i3⟩
      · k_steps
        · rename News _ _ _ _ => N3
          rename Fr _ _ _ _ => F3
          rename IntsAre (List.set _ _ _) _ => hset
          rename (cs₁.length : Int) ≤ b => hb
          refine LEnd.intro F3 N3 (by k_mem) ?_ ?_ ⟨_, 0, _, _, _, _, 0, _, _, _, _, _, hi, rfl, rfl, rfl, rfl, rfl, rfl, rfl, hset, fun p hp => hp, ?_, ?_, ?_⟩
          · (repeat (first | exact List.forall_mem_nil _ | refine List.forall_mem_cons.mpr ⟨by k_mem, ?_⟩))
          · (repeat (first | exact List.forall_mem_nil _ | refine List.forall_mem_cons.mpr ⟨by k_ne, ?_⟩))
          · refine ltN ?_; omega
          · rw [wh_succ hlc, ← j9, whStep, if_neg (by decide)]
            unfold whGrow
            rw [if_pos hb, ← flat_rep]
          · have := hinv_step (ch := 9) (st := (cs₁, b, n, nt)) ⟨i1, i2, i3⟩
            rw [whStep, if_neg (by decide)] at this
            unfold whGrow at this
            rw [if_pos hb, ← flat_rep] at this
            exact this
        · rename News _ _ _ _ => N3
          rename Fr _ _ _ _ => F3
          rename IntsAre (List.set _ _ _) _ => hset
          rename ¬ (cs₁.length : Int) ≤ b => hb
          refine LEnd.intro F3 N3 (by k_mem) ?_ ?_ ⟨_, 0, _, _, _, _, kc, _, _, _, _, _, hi, rfl, rfl, rfl, rfl, rfl, rfl, rfl, hset, fun p hp => hp, jl, ?_, ?_⟩
          · (repeat (first | exact List.forall_mem_nil _ | refine List.forall_mem_cons.mpr ⟨by k_mem, ?_⟩))
          · (repeat (first | exact List.forall_mem_nil _ | refine List.forall_mem_cons.mpr ⟨by k_ne, ?_⟩))
          · rw [wh_succ hlc, ← j9, whStep, if_neg (by decide)]
            unfold whGrow
            rw [if_neg hb]
          · have := hinv_step (ch := 9) (st := (cs₁, b, n, nt)) ⟨i1, i2, i3⟩
            rw [whStep, if_neg (by decide)] at this
            unfold whGrow at this
            rw [if_neg hb] at this
            exact this
      -- END
    · have : i = l.length := Nat.le_antisymm hil hi
      subst this
      have : ch = 120 := by
        rcases hsuf with rfl | ⟨r, rfl⟩
        · simp at hc2
        · simpa using hc2.symm
      subst this
      k_steps
      all_goals dsimp only [LPost]
      k_steps
      rename News _ _ _ _ => N3
      rename Fr _ _ _ _ => F3
      have ⟨an, ac2, u1, u2, u3, u4, lt1, lt2, N5⟩ : ∃ (an ac2 : Addr) (u1 u2 u3 u4 : Tok), @LT.lt Nat _ d' an ∧ @LT.lt Nat _ d' ac2 ∧ News g L' _ [(an, tupObj #[.ref ac2, .int b tb]), (ac2, tupObj vc.toArray), _, _, (x', instObj 154 d'), (d', dictOf [ent w "raw" tk0 (.str (text (l ++ suf)) tl), ent w "n" u1 (.int n tn), ent w "nt" u2 (.int nt tt), ent w "norm" u3 (.ref an), ent w "is_simple" u4 (.bool (decide (((cs₁.length : Nat) : Int) ≤ 1)))] 5)] :=
        ⟨_, _, _, _, _, _, by omega, by omega, N3⟩
      refine hQo _ _ ?_; try dsimp only
      refine' leaveK_ ?k1 ?k2 ?_
      case k1 => exact F3
      case k2 => exact N5
      intro kF kN
      refine ⟨rfl, ?_⟩
      rw [List.take_length] at j9
      have e1 : cs₁ = (whAll l).1 := by rw [← j9]
      have e2 : b = (whAll l).2.1 := by rw [← j9]
      have e3 : n = (whAll l).2.2.1 := by rw [← j9]
      have e4 : nt = (whAll l).2.2.2 := by rw [← j9]
      clear j9
      subst e2 e3 e4 e1
      refine hret _ _ _ _ (stay_of2 st0 hs0 l2 hg1 F3) ?_ ⟨x', d', an, ac2, vc, rfl, text (l ++ suf), tk0, u1, u2, u3, u4, tl, tn, tt, tb, j8, rfl⟩
      refine List.forall_mem_cons.mpr ⟨⟨(N5 _ (by k_mem)).1, ?_⟩, List.forall_mem_cons.mpr ⟨⟨(N5 _ (by k_mem)).1, ?_⟩, List.forall_mem_cons.mpr ⟨⟨(N5 _ (by k_mem)).1, ?_⟩, List.forall_mem_cons.mpr ⟨⟨(N5 _ (by k_mem)).1, ?_⟩, List.forall_mem_nil _⟩⟩⟩⟩
      all_goals (show @LE.le Nat _ _ _; have hs1 : @LE.le Nat _ s.heap.objs.size d' := hs0; dsimp only; omega)
  · intro m₁ nx h tk hJ F₁ N₁
    obtain ⟨cs₁, b, n, nt, vc, ac, kc, tb, tn, tt, uS, uT, hil, j1, j2, j3, j4, j5, j6, j7, j8, jn, jl, j9, i1, i2, i3⟩ := hJ
    have F₂ : Fr g L' h _ := fr_lit [(Str.ofString "self", .ref x'), (Str.ofString "S", .str (Str.ofString " ") uS), (Str.ofString "T", .str (Str.ofString "\t") uT), (Str.ofString "b", .int b tb), (Str.ofString "n", .int n tn), (Str.ofString "nt", .int nt tt), (Str.ofString "count", .ref ac)] (by intro q hq; simp only [List.mem_cons, List.not_mem_nil, or_false] at hq; rcases hq with rfl | rfl | rfl | rfl | rfl | rfl | rfl <;> assumption) F₁
    have N₂ : News g L' h _ := news_of N₁ jn
    clear F₁ N₁ lF' lN' jn lN2 j1 j2 j3 j4 j5 j6 j7
    dsimp only at i1 i2 i3
    have hsz : (text (l ++ suf)).cps.size = l.length + suf.length := by simp [text]
    have hsf : suf = [] := by
      rcases hsuf with rfl | ⟨r, rfl⟩
      · rfl
      · simp only [hsz, List.length_cons] at hil; omega
    subst hsf
    rw [hsz] at j9 i1 i3 hil
    simp only [List.length_nil, Nat.add_zero] at j9 i1 i3 hil
    k_steps
    rename News _ _ _ _ => N3
    rename Fr _ _ _ _ => F3
    have ⟨an, ac2, u1, u2, u3, u4, lt1, lt2, N5⟩ : ∃ (an ac2 : Addr) (u1 u2 u3 u4 : Tok), @LT.lt Nat _ d' an ∧ @LT.lt Nat _ d' ac2 ∧ News g L' _ [(an, tupObj #[.ref ac2, .int b tb]), (ac2, tupObj vc.toArray), _, (x', instObj 154 d'), (d', dictOf [ent w "raw" tk0 (.str (text (l ++ [])) tl), ent w "n" u1 (.int n tn), ent w "nt" u2 (.int nt tt), ent w "norm" u3 (.ref an), ent w "is_simple" u4 (.bool (decide (((cs₁.length : Nat) : Int) ≤ 1)))] 5)] :=
      ⟨_, _, _, _, _, _, by omega, by omega, N3⟩
    refine hQo _ _ ?_; try dsimp only
    refine' leaveK_ ?k1 ?k2 ?_
    case k1 => exact F3
    case k2 => exact N5
    intro kF kN
    refine ⟨rfl, ?_⟩
    rw [List.take_length] at j9
    have e1 : cs₁ = (whAll l).1 := by rw [← j9]
    have e2 : b = (whAll l).2.1 := by rw [← j9]
    have e3 : n = (whAll l).2.2.1 := by rw [← j9]
    have e4 : nt = (whAll l).2.2.2 := by rw [← j9]
    clear j9
    subst e2 e3 e4 e1
    refine hret _ _ _ _ (stay_of2 st0 hs0 l2 hg1 F3) ?_ ⟨x', d', an, ac2, vc, rfl, text (l ++ []), tk0, u1, u2, u3, u4, tl, tn, tt, tb, j8, rfl⟩
    refine List.forall_mem_cons.mpr ⟨⟨(N5 _ (by k_mem)).1, ?_⟩, List.forall_mem_cons.mpr ⟨⟨(N5 _ (by k_mem)).1, ?_⟩, List.forall_mem_cons.mpr ⟨⟨(N5 _ (by k_mem)).1, ?_⟩, List.forall_mem_cons.mpr ⟨⟨(N5 _ (by k_mem)).1, ?_⟩, List.forall_mem_nil _⟩⟩⟩⟩
    all_goals (show @LE.le Nat _ _ _; have hs1 : @LE.le Nat _ s.heap.objs.size d' := hs0; dsimp only; omega)

def T44 : List (Addr × Obj) → Prop := TabP 44 50 4 q44
theorem digits_t (prog : Program) (w : World) (a₀ : Addr) (n : Nat) (tn : Tok) (vs : List Value) (ds : List Int) (hi : IntsAre vs ds) (hn : 1 ≤ n) (hnl : n * ds.length ≤ 60) (hd : ∀ d ∈ ds, 0 ≤ d ∧ d < 2 ^ n) :
    TSpec T44 prog w 49 [.ref a₀, .int (n : Int) tn] (ds.length + 4) (fun h => IsSeq h a₀ vs) (fun _ res r => res = [] ∧ ∃ t, r = .int (dval n ds) t) := by
  intro p loose mean mg mb dp un gd cn cs a ccd cl outer A₀ base h₀ L m tb s Q E B F X N T C1 C2 ht hk hdp hun hpre hret
  refine wpAny_call ?_
  k_dflt (refine' enterC (tb := tb) B F X N T ?ka ?kl ?kk ?h1 ?h2 ?h3 ?h4 ?h5 ?h6 ?_ ?c2 ?c3 ?c4)
  case ka => exact rfl
  case kl => exact rfl
  case kk => exact hk
  case h1 => k_is
  case h2 => k_is
  case h3 => ktr_room
  case h4 => exact BindsTo.of_eq rfl
  case h5 => exact rfl
  case h6 => decide +kernel
  case c2 => exact rfl
  case c3 => exact rfl
  case c4 => exact rfl
  intro g L' h₁ tk₁ cells hg1 hg2 hL F' N' Y' B' X' T' ltb
  obtain ⟨o1, o2, o3, hE, d1, d2, d3⟩ := CellsAre.three Y'
  subst hE
  clear Y'
  have hS : IsSeq g a₀ vs := seq_ground ht (fun p hp => (N p hp).1) hg1 hpre
  have hK : @LT.lt Nat _ 185 L' := Nat.lt_of_lt_of_le (Heap.lt_size (X' 185 _ (by k_is))) F'.above
  clear F X T N
  refine post_hide ?_
  intro Qo hQo
  rcases ht with rfl | ⟨c', oc, ws, t, hc1, rfl, hc2, hc3⟩
  · (try simp only [List.cons_append, List.nil_append] at N')
    k_lt ltb
    try dsimp only
    try k_fold
    k_steps
    rename_i f9 c9 oc9 vs9 t9 ct9 dc9 h9 tk9 d19 d29 l19 l1b l1c l1d l29 h8 o9 F9 N9 d9
    have hS2 : IsSeq h8 a₀ vs := hS.keeps F9.keep
    have hrec : ∀ (k lo hi' : Nat) (u1 u2 : Tok), hi' - lo ≤ k → lo < hi' → hi' ≤ ds.length → Pure prog w f9 [.int (lo : Int) u1, .int (hi' : Int) u2] (k + 2) (Stay h8) (fun _ res r => res = [] ∧ ∃ t, r = .int (dval n ((ds.drop lo).take (hi' - lo))) t) := by
      intro k
      induction k with
      | zero => intro lo hi' u1 u2 h1 h2; omega
      | succ k ih =>
        intro lo hi' u1 u2 hk1 hk2 hk3
        intro p loose mean mg mb dp un gd cn cs a ccd cl outer A₀ base h₀ L m s Q E B F X T hk hdp hun hst hret
        refine wpAny_call ?_
        k_dflt (refine' enterN (tb := []) B F X (fun _ hp => nomatch hp) T ?ka ?kl ?kk (hst _ _ (N9 _ (by k_mem)).1) ?h2 ?h3 ?h4 ?h5 ?_ ?c2 ?c3 ?c4 ?c5)
        case ka => exact rfl
        case kl => exact rfl
        case kk => exact hk
        case h2 => exact codeRec_at hst N9 (by k_mem) d19 d29
        case h3 => ktr_room
        case h4 => exact BindsTo.of_eq rfl
        case h5 => exact locs rfl
        case c2 => exact rfl
        case c3 => exact rfl
        case c4 => exact rfl
        case c5 => decide
        intro g' L'' h₁' hgg hgg2 hLL F2 N2 B2 X2 T2
        have up : ∀ b o, h8.get? b = some o → g'.get? b = some o := fun b o e => hgg b o (fun q => nomatch q) (hst b o e)
        have hq1 := up _ _ (N9 (_, o9) (by k_mem)).1
        have hq2 := up _ _ (N9 (_, o2) (by k_mem)).1
        have hq3 := up _ _ (N9 (_, o3) (by k_mem)).1
        have hS3 : IsSeq g' a₀ vs := hS2.keeps up
        have hFn : FnAt f9 g' := ⟨_, _, _, _, up _ _ (N9 (f9, _) (by k_mem)).1⟩
        have dd2 : o2.data = .cell (some (.int (n : Int) tn)) := d2
        have dd3 : o3.data = .cell (some (.ref a₀)) := d3
        clear F X T hS2 hS hpre N9 F9
        refine post_hide ?_
        intro Qo hQo
        have hlen := hi.length
        have hds : ds.length ≤ 60 := Nat.le_trans (Nat.le_mul_of_pos_left _ hn) hnl
        try dsimp only
        try k_fold
        have hm1 := (mids hk2).1
        have hm2 := (mids hk2).2.1
        have hsh0 : 0 ≤ ((((lo + hi') / 2 : Nat) : Int) - (lo : Int)) * (n : Int) := Int.mul_nonneg (Int.sub_nonneg_of_le (Int.ofNat_le.mpr hm1)) (Int.natCast_nonneg _)
        have hsh1 : ((((lo + hi') / 2 : Nat) : Int) - (lo : Int)) * (n : Int) ≤ 1000000 := by
          have : ((lo + hi') / 2 - lo) * n ≤ ds.length * n := Nat.mul_le_mul_right n (Nat.le_trans (Nat.sub_le _ _) (Nat.le_trans (Nat.le_of_lt hm2) hk3))
          have e : ((((lo + hi') / 2 : Nat) : Int) - (lo : Int)) * (n : Int) = ((((lo + hi') / 2 - lo) * n : Nat) : Int) := by
            rw [Int.natCast_mul, Int.natCast_sub hm1]
          rw [Nat.mul_comm ds.length n] at this
          rw [e]
          exact Int.ofNat_le.mpr (Nat.le_trans this (Nat.le_trans hnl (by decide)))
        k_steps
        · dsimp only
          refine hQo _ _ ?_; try dsimp only
          refine leaveK_ F2 N2 ?_
          intro kF kN
          refine hret _ _ _ [] (stay_of hgg F2) (fun _ hp => nomatch hp) ⟨rfl, _, congrArg (fun y => Value.int y _) ?_⟩
          have h1 : hi' - lo = 1 := by omega
          rw [h1, Int.toNat_natCast]
          exact dval_one n ds lo (by omega)
        · rename Fr _ _ _ _ => F4
          rename News _ _ _ _ => N4
          obtain ⟨g1, g2, g3⟩ := mids4 hk2 hk1 (by assumption)
          refine Pure.use (ih ((lo + hi') / 2) hi' _ _ g3 hm2 hk3) B2 F4 X2 N4 T2 rfl ?_ ?_ (fun b o e => F4.keep b o (up b o e)) ?_
          · exact dp_in hdp
          · exact un_in hun
          rintro r1 h5 tk5 res5 st5 F5 N5 _ ⟨rfl, t5, rfl⟩
          have hab := dval_abs n ds ((lo + hi') / 2) (hi' - (lo + hi') / 2) hd hnl
          rw [List.nil_append] at N5
          k_steps
          refine Pure.use (ih lo ((lo + hi') / 2) _ _ g2 g1 (Nat.le_trans (Nat.le_of_lt hm2) hk3)) B2 F5 X2 N5 T2 rfl ?_ ?_ (fun b o e => F5.keep b o (up b o e)) ?_
          · exact dp_in hdp
          · exact un_in hun
          rintro r2 h6 tk6 res6 st6 F6 N6 _ ⟨rfl, t6, rfl⟩
          rw [List.nil_append] at N6
          k_steps
          all_goals try dsimp only
          refine hQo _ _ ?_; try dsimp only
          refine leaveK_ F6 N6 ?_
          intro kF kN
          refine hret _ _ _ [] (stay_of hgg F6) (fun _ hp => nomatch hp) ⟨rfl, _, congrArg (fun y => Value.int y _) ?_⟩
          exact dval_split n ds lo ((lo + hi') / 2) hi' hm1 (Nat.le_of_lt hm2) hk3
    have dd3 : o3.data = .cell (some (.ref a₀)) := d3
    have hlen := hi.length
    have hds : ds.length ≤ 60 := Nat.le_trans (Nat.le_mul_of_pos_left _ hn) hnl
    have hFn : FnAt f9 h8 := ⟨_, _, _, _, (N9 (f9, _) (by k_mem)).1⟩
    k_steps
    · rename News _ _ _ _ => N4
      rename Fr _ _ _ _ => F4
      refine Pure.use (hrec ds.length 0 vs.length _ _ (by rw [hlen]; exact Nat.sub_le _ _) (by first | assumption | omega) (Nat.le_of_eq hlen)) B' F4 X' N4 T' rfl ?_ ?_ (fun _ _ e => e) ?_
      · exact dp_le (by assumption)
      · exact un_le (by assumption)
      rintro r2 h6 tk6 res6 st6 F6 N6 _ ⟨rfl, t6, rfl⟩
      rw [List.nil_append] at N6
      all_goals try dsimp only
      refine hQo _ _ ?_; try dsimp only
      refine leaveK_ F6 N6 ?_
      intro kF kN
      refine hret _ _ _ [] [(44, tabObj #[rawInt 50, rawInt 4, .ref c9]), (c9, oc9)] (fun b o hb e => F6.keep b o (hg1 b o hb e)) (fun _ hp => nomatch hp) (.inr ⟨c9, oc9, vs9, t9, (by omega), rfl, d19, d29⟩) ?_ ⟨rfl, _, congrArg (fun y => Value.int y _) ?_⟩
      · refine List.forall_mem_cons.mpr ⟨⟨(N6 _ (by k_mem)).1, .inr ?_⟩, List.forall_mem_cons.mpr ⟨⟨(N6 _ (by k_mem)).1, ?_⟩, List.forall_mem_nil _⟩⟩
        · simp
        · left; show @LE.le Nat _ _ _; rw [← hL]; omega
      · rw [List.drop_zero, Nat.sub_zero, hlen, List.take_length]
    · try dsimp only
      refine hQo _ _ ?_; try dsimp only
      refine leaveK_ F9 N9 ?_
      intro kF kN
      refine hret _ _ _ [] [(44, tabObj #[rawInt 50, rawInt 4, .ref c9]), (c9, oc9)] (fun b o hb e => F9.keep b o (hg1 b o hb e)) (fun _ hp => nomatch hp) (.inr ⟨c9, oc9, vs9, t9, (by omega), rfl, d19, d29⟩) ?_ ⟨rfl, _, congrArg (fun y => Value.int y _) ?_⟩
      · refine List.forall_mem_cons.mpr ⟨⟨(N9 _ (by k_mem)).1, .inr ?_⟩, List.forall_mem_cons.mpr ⟨⟨(N9 _ (by k_mem)).1, ?_⟩, List.forall_mem_nil _⟩⟩
        · simp
        · left; show @LE.le Nat _ _ _; rw [← hL]; omega
      · have : ds = [] := List.eq_nil_of_length_eq_zero (by first | omega | (simp only [decide_eq_true_eq, decide_eq_false_iff_not] at *; omega))
        rw [this]; rfl
  · (try simp only [List.cons_append, List.nil_append] at N')
    k_lt ltb
    try dsimp only
    try k_fold
    k_steps
    rename_i f9 ct9 dc9 h9 tk9 l19 l1b l1c l1d l1e h8 o9 F9 N9 d9
    have hS2 : IsSeq h8 a₀ vs := hS.keeps F9.keep
    have hrec : ∀ (k lo hi' : Nat) (u1 u2 : Tok), hi' - lo ≤ k → lo < hi' → hi' ≤ ds.length → Pure prog w f9 [.int (lo : Int) u1, .int (hi' : Int) u2] (k + 2) (Stay h8) (fun _ res r => res = [] ∧ ∃ t, r = .int (dval n ((ds.drop lo).take (hi' - lo))) t) := by
      intro k
      induction k with
      | zero => intro lo hi' u1 u2 h1 h2; omega
      | succ k ih =>
        intro lo hi' u1 u2 hk1 hk2 hk3
        intro p loose mean mg mb dp un gd cn cs a ccd cl outer A₀ base h₀ L m s Q E B F X T hk hdp hun hst hret
        refine wpAny_call ?_
        k_dflt (refine' enterN (tb := []) B F X (fun _ hp => nomatch hp) T ?ka ?kl ?kk (hst _ _ (N9 _ (by k_mem)).1) ?h2 ?h3 ?h4 ?h5 ?_ ?c2 ?c3 ?c4 ?c5)
        case ka => exact rfl
        case kl => exact rfl
        case kk => exact hk
        case h2 => exact codeRec_at hst N9 (by k_mem) hc2 hc3
        case h3 => ktr_room
        case h4 => exact BindsTo.of_eq rfl
        case h5 => exact locs rfl
        case c2 => exact rfl
        case c3 => exact rfl
        case c4 => exact rfl
        case c5 => decide
        intro g' L'' h₁' hgg hgg2 hLL F2 N2 B2 X2 T2
        have up : ∀ b o, h8.get? b = some o → g'.get? b = some o := fun b o e => hgg b o (fun q => nomatch q) (hst b o e)
        have hq1 := up _ _ (N9 (_, o9) (by k_mem)).1
        have hq2 := up _ _ (N9 (_, o2) (by k_mem)).1
        have hq3 := up _ _ (N9 (_, o3) (by k_mem)).1
        have hS3 : IsSeq g' a₀ vs := hS2.keeps up
        have hFn : FnAt f9 g' := ⟨_, _, _, _, up _ _ (N9 (f9, _) (by k_mem)).1⟩
        have dd2 : o2.data = .cell (some (.int (n : Int) tn)) := d2
        have dd3 : o3.data = .cell (some (.ref a₀)) := d3
        clear F X T hS2 hS hpre N9 F9
        refine post_hide ?_
        intro Qo hQo
        have hlen := hi.length
        have hds : ds.length ≤ 60 := Nat.le_trans (Nat.le_mul_of_pos_left _ hn) hnl
        try dsimp only
        try k_fold
        have hm1 := (mids hk2).1
        have hm2 := (mids hk2).2.1
        have hsh0 : 0 ≤ ((((lo + hi') / 2 : Nat) : Int) - (lo : Int)) * (n : Int) := Int.mul_nonneg (Int.sub_nonneg_of_le (Int.ofNat_le.mpr hm1)) (Int.natCast_nonneg _)
        have hsh1 : ((((lo + hi') / 2 : Nat) : Int) - (lo : Int)) * (n : Int) ≤ 1000000 := by
          have : ((lo + hi') / 2 - lo) * n ≤ ds.length * n := Nat.mul_le_mul_right n (Nat.le_trans (Nat.sub_le _ _) (Nat.le_trans (Nat.le_of_lt hm2) hk3))
          have e : ((((lo + hi') / 2 : Nat) : Int) - (lo : Int)) * (n : Int) = ((((lo + hi') / 2 - lo) * n : Nat) : Int) := by
            rw [Int.natCast_mul, Int.natCast_sub hm1]
          rw [Nat.mul_comm ds.length n] at this
          rw [e]
          exact Int.ofNat_le.mpr (Nat.le_trans this (Nat.le_trans hnl (by decide)))
        k_steps
        · dsimp only
          refine hQo _ _ ?_; try dsimp only
          refine leaveK_ F2 N2 ?_
          intro kF kN
          refine hret _ _ _ [] (stay_of hgg F2) (fun _ hp => nomatch hp) ⟨rfl, _, congrArg (fun y => Value.int y _) ?_⟩
          have h1 : hi' - lo = 1 := by omega
          rw [h1, Int.toNat_natCast]
          exact dval_one n ds lo (by omega)
        · rename Fr _ _ _ _ => F4
          rename News _ _ _ _ => N4
          obtain ⟨g1, g2, g3⟩ := mids4 hk2 hk1 (by assumption)
          refine Pure.use (ih ((lo + hi') / 2) hi' _ _ g3 hm2 hk3) B2 F4 X2 N4 T2 rfl ?_ ?_ (fun b o e => F4.keep b o (up b o e)) ?_
          · exact dp_in hdp
          · exact un_in hun
          rintro r1 h5 tk5 res5 st5 F5 N5 _ ⟨rfl, t5, rfl⟩
          have hab := dval_abs n ds ((lo + hi') / 2) (hi' - (lo + hi') / 2) hd hnl
          rw [List.nil_append] at N5
          k_steps
          refine Pure.use (ih lo ((lo + hi') / 2) _ _ g2 g1 (Nat.le_trans (Nat.le_of_lt hm2) hk3)) B2 F5 X2 N5 T2 rfl ?_ ?_ (fun b o e => F5.keep b o (up b o e)) ?_
          · exact dp_in hdp
          · exact un_in hun
          rintro r2 h6 tk6 res6 st6 F6 N6 _ ⟨rfl, t6, rfl⟩
          rw [List.nil_append] at N6
          k_steps
          all_goals try dsimp only
          refine hQo _ _ ?_; try dsimp only
          refine leaveK_ F6 N6 ?_
          intro kF kN
          refine hret _ _ _ [] (stay_of hgg F6) (fun _ hp => nomatch hp) ⟨rfl, _, congrArg (fun y => Value.int y _) ?_⟩
          exact dval_split n ds lo ((lo + hi') / 2) hi' hm1 (Nat.le_of_lt hm2) hk3
    have dd3 : o3.data = .cell (some (.ref a₀)) := d3
    have hlen := hi.length
    have hds : ds.length ≤ 60 := Nat.le_trans (Nat.le_mul_of_pos_left _ hn) hnl
    have hFn : FnAt f9 h8 := ⟨_, _, _, _, (N9 (f9, _) (by k_mem)).1⟩
    k_steps
    · rename News _ _ _ _ => N4
      rename Fr _ _ _ _ => F4
      refine Pure.use (hrec ds.length 0 vs.length _ _ (by rw [hlen]; exact Nat.sub_le _ _) (by first | assumption | omega) (Nat.le_of_eq hlen)) B' F4 X' N4 T' rfl ?_ ?_ (fun _ _ e => e) ?_
      · exact dp_le (by assumption)
      · exact un_le (by assumption)
      rintro r2 h6 tk6 res6 st6 F6 N6 _ ⟨rfl, t6, rfl⟩
      rw [List.nil_append] at N6
      all_goals try dsimp only
      refine hQo _ _ ?_; try dsimp only
      refine leaveK_ F6 N6 ?_
      intro kF kN
      refine hret _ _ _ [] [(44, tabObj #[rawInt 50, rawInt 4, .ref c']), (c', oc)] (fun b o hb e => F6.keep b o (hg1 b o hb e)) (fun _ hp => nomatch hp) (.inr ⟨c', oc, ws, t, hc1, rfl, hc2, hc3⟩) ?_ ⟨rfl, _, congrArg (fun y => Value.int y _) ?_⟩
      · refine List.forall_mem_cons.mpr ⟨⟨(N6 _ (by k_mem)).1, .inr ?_⟩, List.forall_mem_cons.mpr ⟨⟨(N6 _ (by k_mem)).1, ?_⟩, List.forall_mem_nil _⟩⟩
        · simp
        · right; simp
      · rw [List.drop_zero, Nat.sub_zero, hlen, List.take_length]
    · try dsimp only
      refine hQo _ _ ?_; try dsimp only
      refine leaveK_ F9 N9 ?_
      intro kF kN
      refine hret _ _ _ [] [(44, tabObj #[rawInt 50, rawInt 4, .ref c']), (c', oc)] (fun b o hb e => F9.keep b o (hg1 b o hb e)) (fun _ hp => nomatch hp) (.inr ⟨c', oc, ws, t, hc1, rfl, hc2, hc3⟩) ?_ ⟨rfl, _, congrArg (fun y => Value.int y _) ?_⟩
      · refine List.forall_mem_cons.mpr ⟨⟨(N9 _ (by k_mem)).1, .inr ?_⟩, List.forall_mem_cons.mpr ⟨⟨(N9 _ (by k_mem)).1, ?_⟩, List.forall_mem_nil _⟩⟩
        · simp
        · right; simp
      · have : ds = [] := List.eq_nil_of_length_eq_zero (by first | omega | (simp only [decide_eq_true_eq, decide_eq_false_iff_not] at *; omega))
        rw [this]; rfl

-- split
def T37 : List (Addr × Obj) → Prop := TabP 37 35 4 q37
theorem int2_t (prog : Program) (w : World) (x n : Nat) (tx tn : Tok) (hn : 1 ≤ n) (hn2 : n ≤ 30) (hx : x < 2 ^ 60) :
    TSpec T37 prog w 42 [.int (x : Int) tx, .int (n : Int) tn] 70 (fun _ => True) (Int2Post n x) := by
  intro p loose mean mg mb dp un gd cn cs a ccd cl outer A₀ base h₀ L m tb s Q E B F X N T C1 C2 ht hk hdp hun hpre hret
  refine wpAny_call ?_
  k_dflt (refine' enterC (tb := tb) B F X N T ?ka ?kl ?kk ?h1 ?h2 ?h3 ?h4 ?h5 ?h6 ?_ ?c2 ?c3 ?c4)
  case ka => exact rfl
  case kl => exact rfl
  case kk => exact hk
  case h1 => k_is
  case h2 => k_is
  case h3 => ktr_room
  case h4 => exact BindsTo.of_eq rfl
  case h5 => exact rfl
  case h6 => decide +kernel
  case c2 => exact rfl
  case c3 => exact rfl
  case c4 => exact rfl
  intro g L' h₁ tk₁ cells hg1 hg2 hL F' N' Y' B' X' T' ltb
  obtain ⟨o1, o2, o3, hE, d1, d2, d3⟩ := CellsAre.three Y'
  subst hE
  clear Y'
  have hK : @LT.lt Nat _ 185 L' := Nat.lt_of_lt_of_le (Heap.lt_size (X' 185 _ (by k_is))) F'.above
  clear F X T N
  refine post_hide ?_
  intro Qo hQo
  rcases ht with rfl | ⟨c', oc, ws, t, hc1, rfl, hc2, hc3⟩
  · (try simp only [List.cons_append, List.nil_append] at N')
    k_lt ltb
    try dsimp only
    try k_fold
    k_steps
    rw [bits_is x n hn]
    have hcd := cdiv_le (x := x) hn hx
    repeat' (first | (k_unfold; (try dsimp only)) | (k_end; wrow_close) | ((fail_if_success (with_reducible show wpAny _ _ (exec (Stmt.If _ _ _ _) _) _ _ _)); walk1))
    rename_i al ha i1 n1 s1 e1 e2 e3 l1a l1b l1c l1d l1e hb oa da f9 c9 oc9 vs9 t9 ct9 dc9 h9 tk9 d19 d29 l19 l1j l1k l1l l1m l1n l29 h8 o9 F9 N9 d9
    have hrec : ∀ (k lo hi' y : Nat) (u0 u1 u2 : Tok), hi' - lo ≤ k → lo < hi' → y < 2 ^ (n * (hi' - lo)) → y < 2 ^ 60 → InnerU prog w f9 al 0 h8 n (k + 2) lo (hi' - lo) y [.int (y : Int) u0, .int (lo : Int) u1, .int (hi' : Int) u2] := by
      intro k
      induction k with
      | zero => intro lo hi' y u0 u1 u2 h1 h2; omega
      | succ k ih =>
        intro lo hi' y u0 u1 u2 hk1 hk2 hk3 hk4
        intro p loose mean mg mb dp un gd cn cs a ccd cl outer A₀ base h₀ L mm s vs ds Q E B F X N T hk hdp hun hH hvs hlen1 hlen2 hret
        have ne1 : f9 ≠ al := neN (by omega)
        have ne2 : c9 ≠ al := neN (by omega)
        have hf9 := hH f9 _ ne1 (N9 (f9, _) (by k_mem)).1
        have hc9 := hH c9 _ ne2 (N9 (c9, _) (by k_mem)).1
        refine wpAny_call ?_
        k_dflt (refine' enterN (tb := [(al, W.listOf vs.toArray 0)]) B F X N T ?ka ?kl ?kk hf9 ⟨c9, oc9, vs9, t9, rfl, hc9, d19, d29⟩ ?h3 ?h4 ?h5 ?_ ?c2 ?c3 ?c4 ?c5)
        case ka => exact rfl
        case kl => exact rfl
        case kk => exact hk
        case h3 => ktr_room
        case h4 => exact BindsTo.of_eq rfl
        case h5 => exact locs rfl
        case c2 => exact rfl
        case c3 => exact rfl
        case c4 => exact rfl
        case c5 => decide
        intro g' L'' h₁' hgg hgg2 hLL F2 N2 B2 X2 T2
        have up : ∀ b o, b ≠ al → h8.get? b = some o → g'.get? b = some o := fun b o hb e => hgg b o (fun q => hb (List.mem_singleton.mp q)) (hH b o hb e)
        have hq1 := up (L' + 1 + 1 + 1) _ (neN (by omega)) (N9 (L' + 1 + 1 + 1, o9) (by k_mem)).1
        have hq2 := up (L' + 1 + 1) _ (neN (by omega)) (N9 (L' + 1 + 1, oa) (by k_mem)).1
        have hq3 := up (L' + 1) _ (neN (by omega)) (N9 (L' + 1, o3) (by k_mem)).1
        have hFn : FnAt f9 g' := ⟨_, _, _, _, up _ _ ne1 (N9 (f9, _) (by k_mem)).1⟩
        have dd3 : o3.data = .cell (some (.int (n : Int) tn)) := d3
        clear F X T N N9 F9
        refine post_hide ?_
        intro Qo hQo
        try dsimp only
        try k_fold
        have hm1 := (mids hk2).1
        have hm2 := (mids hk2).2.1
        obtain ⟨hm6, hm7, hm8, hm9, hm10⟩ := mids3 hk2 hlen1 hlen2
        have hsh : ((((lo + hi') / 2 : Nat) : Int) - (lo : Int)) * (n : Int) = ((n * ((lo + hi') / 2 - lo) : Nat) : Int) := by
          rw [Nat.mul_comm, Int.natCast_mul, Int.natCast_sub hm1]
        have hS1 : n * ((lo + hi') / 2 - lo) ≤ 1000000 := by
          exact Nat.le_trans (Nat.mul_le_mul_right _ hn2) (Nat.le_trans (Nat.mul_le_mul_left 30 hm8) (by decide))
        have hy1 : y / 2 ^ (n * ((lo + hi') / 2 - lo)) < 2 ^ 64 := Nat.lt_of_le_of_lt (Nat.div_le_self _ _) (Nat.lt_trans hk4 (by decide))
        have hy2 : y / 2 ^ (n * ((lo + hi') / 2 - lo)) < 2 ^ 60 := Nat.lt_of_le_of_lt (Nat.div_le_self _ _) hk4
        have hy3 : y % 2 ^ (n * ((lo + hi') / 2 - lo)) < 2 ^ 60 := Nat.lt_of_le_of_lt (Nat.mod_le _ _) hk4
        have hy4 : y % 2 ^ (n * ((lo + hi') / 2 - lo)) < 2 ^ (n * ((lo + hi') / 2 - lo)) := Nat.mod_lt _ (Nat.pow_pos (by decide))
        have hy5 : y / 2 ^ (n * ((lo + hi') / 2 - lo)) < 2 ^ (n * (hi' - (lo + hi') / 2)) := by
          refine Nat.div_lt_of_lt_mul ?_
          rw [← Nat.pow_add, ← Nat.mul_add, (mids hk2).2.2.1]
          exact hk3
        k_steps
        · rename Fr _ _ _ _ => F4
          rename News _ _ _ _ => N4
          rename IntsAre (List.set _ _ _) _ => hset
          try dsimp only
          refine hQo _ _ ?_; try dsimp only
          refine leaveK_ F4 N4 ?_
          intro kF kN
          have h1 : hi' - lo = 1 := by omega
          refine hret _ _ _ (fun b o hb e => F4.keep b o (hgg b o (fun q => hb (List.mem_singleton.mp q)) e)) (N4 _ (by k_mem)).1 ?_
          rw [h1, Nat.mul_one] at hk3
          rw [h1, ← upd_one (by omega) hk3]
          rw [Int.toNat_natCast] at hset
          exact hset
        · rename Fr _ _ _ _ => F4
          rename News _ _ _ _ => N4
          obtain ⟨g1, g2, g3, g4, g5, g6⟩ := mids2 hk2 hk1 (by assumption) hlen1 hlen2
          refine InnerU.use (ih lo ((lo + hi') / 2) _ _ _ _ g2 g1 hy4 hy3) [] B2 F4 X2 N4 T2 rfl ?_ ?_ (by k_mem) (fun _ hp => nomatch hp) (fun _ hp => nomatch hp) (fun b o hb e => F4.keep b o (up b o hb e)) hvs g4 hlen2 ?_
          · exact dp_in hdp
          · exact un_in hun
          intro h5 tk5 vs5 st5 F5 N5 hv5
          have hl5 : (upd n ds lo ((lo + hi') / 2 - lo) (y % 2 ^ (n * ((lo + hi') / 2 - lo)))).length = ds.length := upd_length g4
          k_steps
          refine InnerU.use (ih ((lo + hi') / 2) hi' _ _ _ _ g3 hm2 hy5 hy2) [] B2 F5 X2 N5 T2 rfl ?_ ?_ (by k_mem) (fun _ hp => nomatch hp) (fun _ hp => nomatch hp) (fun b o hb e => F5.keep b o (up b o hb e)) hv5 (by rw [hl5]; exact g5) (by rw [hl5]; exact hlen2) ?_
          · exact dp_in hdp
          · exact un_in hun
          intro h6 tk6 vs6 st6 F6 N6 hv6
          k_steps
          all_goals try dsimp only
          refine hQo _ _ ?_; try dsimp only
          refine leaveK_ F6 N6 ?_
          intro kF kN
          refine hret _ _ _ (fun b o hb e => F6.keep b o (hgg b o (fun q => hb (List.mem_singleton.mp q)) e)) (N6 _ (by k_mem)).1 ?_
          have hu := upd_two (n := n) (ds := ds) (lo := lo) (a := (lo + hi') / 2 - lo) (b := hi' - (lo + hi') / 2) (x := y) g6
          rw [(mids hk2).2.2.2.1, (mids hk2).2.2.1] at hu
          rw [← hu]
          exact hv6
    have hrep := rep_ints i1
    have hn1 : n1 = cdiv x n := by
      have h1 : (n1 : Int) = ((1 : Nat) : Int) * ((cdiv x n : Nat) : Int) := e3 (Int.natCast_nonneg _)
      rw [← Int.natCast_mul, Nat.one_mul] at h1
      exact Int.ofNat.inj h1
    subst hn1
    clear e1 e2 e3
    have hw0 : (List.replicate (cdiv x n) (0 : Int)).length = cdiv x n := List.length_replicate
    have hlv := hrep.length
    rw [hw0] at hlv
    have hFn : FnAt f9 h8 := ⟨_, _, _, _, (N9 (f9, _) (by k_mem)).1⟩
    have hxz : x = 0 → cdiv x n = 0 := fun e => by rw [e]; exact cdiv_zero hn
    k_steps
    · rename News _ _ _ _ => N4
      rename Fr _ _ _ _ => F4
      have hx0 : x ≠ 0 := by first | omega | (intro e; subst e; simp_all)
      have hcp := cdiv_pos hn hx0
      refine InnerU.use (hrec (cdiv x n) 0 (cdiv x n) x _ _ _ (Nat.le_refl _) hcp (by rw [Nat.sub_zero]; exact lt_cdiv hn) hx) [(37, tabObj #[rawInt 35, rawInt 4, .ref c9]), (c9, oc9), (L' + 1 + 1, oa)] B' F4 X' N4 T' ?_ ?_ ?_ ?_ ?_ ?_ ?_ hrep ?_ ?_ ?_
      · exact rfl
      · exact dp_to (by assumption) hcd
      · exact un_to (by assumption) hcd
      · k_mem
      · exact List.forall_mem_cons.mpr ⟨by k_mem, List.forall_mem_cons.mpr ⟨by k_mem, List.forall_mem_cons.mpr ⟨by k_mem, List.forall_mem_nil _⟩⟩⟩
      · refine List.forall_mem_cons.mpr ⟨neN (by dsimp only; omega), List.forall_mem_cons.mpr ⟨neN (by dsimp only; omega), List.forall_mem_cons.mpr ⟨neN (by dsimp only; omega), List.forall_mem_nil _⟩⟩⟩
      · exact fun _ _ _ e => e
      · rw [hw0, Nat.zero_add]; exact Nat.sub_le _ _
      · rw [hw0]; exact Nat.le_trans hcd (by decide)
      intro h6 tk6 vs6 st6 F6 N6 hv6
      k_steps
      all_goals try dsimp only
      refine hQo _ _ ?_; try dsimp only
      refine leaveK_ F6 N6 ?_
      intro kF kN
      refine hret _ _ _ [(al, W.listOf vs6.toArray 0)] [(37, tabObj #[rawInt 35, rawInt 4, .ref c9]), (c9, oc9)] (fun b o hb e => F6.keep b o (hg1 b o hb e)) (List.forall_mem_cons.mpr ⟨⟨(N6 _ (by k_mem)).1, ?_⟩, List.forall_mem_nil _⟩) (.inr ⟨c9, oc9, vs9, t9, (by omega), rfl, d19, d29⟩) ?_ ⟨al, vs6, rfl, rfl, ?_⟩
      · show @LE.le Nat _ _ _
        rw [← hL]; dsimp only; omega
      · refine List.forall_mem_cons.mpr ⟨⟨(N6 _ (by k_mem)).1, .inr ?_⟩, List.forall_mem_cons.mpr ⟨⟨(N6 _ (by k_mem)).1, ?_⟩, List.forall_mem_nil _⟩⟩
        · simp
        · left; show @LE.le Nat _ _ _; rw [← hL]; omega
      · rw [Nat.sub_zero, upd_full] at hv6
        exact hv6
    · rename News _ _ _ _ => N4
      rename Fr _ _ _ _ => F4
      try dsimp only
      have hx0 : x = 0 := by first | omega | simp_all
      refine hQo _ _ ?_; try dsimp only
      refine leaveK_ F4 N4 ?_
      intro kF kN
      refine hret _ _ _ [(al, W.listOf _ 0)] [(37, tabObj #[rawInt 35, rawInt 4, .ref c9]), (c9, oc9)] (fun b o hb e => F4.keep b o (hg1 b o hb e)) (List.forall_mem_cons.mpr ⟨⟨(N4 _ (by k_mem)).1, ?_⟩, List.forall_mem_nil _⟩) (.inr ⟨c9, oc9, vs9, t9, (by omega), rfl, d19, d29⟩) ?_ ⟨al, _, rfl, rfl, ?_⟩
      · show @LE.le Nat _ _ _
        rw [← hL]; dsimp only; omega
      · refine List.forall_mem_cons.mpr ⟨⟨(N4 _ (by k_mem)).1, .inr ?_⟩, List.forall_mem_cons.mpr ⟨⟨(N4 _ (by k_mem)).1, ?_⟩, List.forall_mem_nil _⟩⟩
        · simp
        · left; show @LE.le Nat _ _ _; rw [← hL]; omega
      · rw [hxz hx0] at hrep ⊢
        exact hrep
  · (try simp only [List.cons_append, List.nil_append] at N')
    k_lt ltb
    try dsimp only
    try k_fold
    k_steps
    rw [bits_is x n hn]
    have hcd := cdiv_le (x := x) hn hx
    repeat' (first | (k_unfold; (try dsimp only)) | (k_end; wrow_close) | ((fail_if_success (with_reducible show wpAny _ _ (exec (Stmt.If _ _ _ _) _) _ _ _)); walk1))
    rename_i al ha i1 n1 s1 e1 e2 e3 l1a l1b l1c l1d l1e l1f hb oa da f9 ct9 dc9 h9 tk9 l19 l1j l1k l1l l1m l1n l1o h8 o9 F9 N9 d9
    have hrec : ∀ (k lo hi' y : Nat) (u0 u1 u2 : Tok), hi' - lo ≤ k → lo < hi' → y < 2 ^ (n * (hi' - lo)) → y < 2 ^ 60 → InnerU prog w f9 al 0 h8 n (k + 2) lo (hi' - lo) y [.int (y : Int) u0, .int (lo : Int) u1, .int (hi' : Int) u2] := by
      intro k
      induction k with
      | zero => intro lo hi' y u0 u1 u2 h1 h2; omega
      | succ k ih =>
        intro lo hi' y u0 u1 u2 hk1 hk2 hk3 hk4
        intro p loose mean mg mb dp un gd cn cs a ccd cl outer A₀ base h₀ L mm s vs ds Q E B F X N T hk hdp hun hH hvs hlen1 hlen2 hret
        have ne1 : f9 ≠ al := neN (by omega)
        have ne2 : c' ≠ al := neN (by omega)
        have hf9 := hH f9 _ ne1 (N9 (f9, _) (by k_mem)).1
        have hc' := hH c' _ ne2 (N9 (c', _) (by k_mem)).1
        refine wpAny_call ?_
        k_dflt (refine' enterN (tb := [(al, W.listOf vs.toArray 0)]) B F X N T ?ka ?kl ?kk hf9 ⟨c', oc, ws, t, rfl, hc', hc2, hc3⟩ ?h3 ?h4 ?h5 ?_ ?c2 ?c3 ?c4 ?c5)
        case ka => exact rfl
        case kl => exact rfl
        case kk => exact hk
        case h3 => ktr_room
        case h4 => exact BindsTo.of_eq rfl
        case h5 => exact locs rfl
        case c2 => exact rfl
        case c3 => exact rfl
        case c4 => exact rfl
        case c5 => decide
        intro g' L'' h₁' hgg hgg2 hLL F2 N2 B2 X2 T2
        have up : ∀ b o, b ≠ al → h8.get? b = some o → g'.get? b = some o := fun b o hb e => hgg b o (fun q => hb (List.mem_singleton.mp q)) (hH b o hb e)
        have hq1 := up (L' + 1 + 1 + 1) _ (neN (by omega)) (N9 (L' + 1 + 1 + 1, o9) (by k_mem)).1
        have hq2 := up (L' + 1 + 1) _ (neN (by omega)) (N9 (L' + 1 + 1, oa) (by k_mem)).1
        have hq3 := up (L' + 1) _ (neN (by omega)) (N9 (L' + 1, o3) (by k_mem)).1
        have hFn : FnAt f9 g' := ⟨_, _, _, _, up _ _ ne1 (N9 (f9, _) (by k_mem)).1⟩
        have dd3 : o3.data = .cell (some (.int (n : Int) tn)) := d3
        clear F X T N N9 F9
        refine post_hide ?_
        intro Qo hQo
        try dsimp only
        try k_fold
        have hm1 := (mids hk2).1
        have hm2 := (mids hk2).2.1
        obtain ⟨hm6, hm7, hm8, hm9, hm10⟩ := mids3 hk2 hlen1 hlen2
        have hsh : ((((lo + hi') / 2 : Nat) : Int) - (lo : Int)) * (n : Int) = ((n * ((lo + hi') / 2 - lo) : Nat) : Int) := by
          rw [Nat.mul_comm, Int.natCast_mul, Int.natCast_sub hm1]
        have hS1 : n * ((lo + hi') / 2 - lo) ≤ 1000000 := by
          exact Nat.le_trans (Nat.mul_le_mul_right _ hn2) (Nat.le_trans (Nat.mul_le_mul_left 30 hm8) (by decide))
        have hy1 : y / 2 ^ (n * ((lo + hi') / 2 - lo)) < 2 ^ 64 := Nat.lt_of_le_of_lt (Nat.div_le_self _ _) (Nat.lt_trans hk4 (by decide))
        have hy2 : y / 2 ^ (n * ((lo + hi') / 2 - lo)) < 2 ^ 60 := Nat.lt_of_le_of_lt (Nat.div_le_self _ _) hk4
        have hy3 : y % 2 ^ (n * ((lo + hi') / 2 - lo)) < 2 ^ 60 := Nat.lt_of_le_of_lt (Nat.mod_le _ _) hk4
        have hy4 : y % 2 ^ (n * ((lo + hi') / 2 - lo)) < 2 ^ (n * ((lo + hi') / 2 - lo)) := Nat.mod_lt _ (Nat.pow_pos (by decide))
        have hy5 : y / 2 ^ (n * ((lo + hi') / 2 - lo)) < 2 ^ (n * (hi' - (lo + hi') / 2)) := by
          refine Nat.div_lt_of_lt_mul ?_
          rw [← Nat.pow_add, ← Nat.mul_add, (mids hk2).2.2.1]
          exact hk3
        k_steps
        · rename Fr _ _ _ _ => F4
          rename News _ _ _ _ => N4
          rename IntsAre (List.set _ _ _) _ => hset
          try dsimp only
          refine hQo _ _ ?_; try dsimp only
          refine leaveK_ F4 N4 ?_
          intro kF kN
          have h1 : hi' - lo = 1 := by omega
          refine hret _ _ _ (fun b o hb e => F4.keep b o (hgg b o (fun q => hb (List.mem_singleton.mp q)) e)) (N4 _ (by k_mem)).1 ?_
          rw [h1, Nat.mul_one] at hk3
          rw [h1, ← upd_one (by omega) hk3]
          rw [Int.toNat_natCast] at hset
          exact hset
        · rename Fr _ _ _ _ => F4
          rename News _ _ _ _ => N4
          obtain ⟨g1, g2, g3, g4, g5, g6⟩ := mids2 hk2 hk1 (by assumption) hlen1 hlen2
          refine InnerU.use (ih lo ((lo + hi') / 2) _ _ _ _ g2 g1 hy4 hy3) [] B2 F4 X2 N4 T2 rfl ?_ ?_ (by k_mem) (fun _ hp => nomatch hp) (fun _ hp => nomatch hp) (fun b o hb e => F4.keep b o (up b o hb e)) hvs g4 hlen2 ?_
          · exact dp_in hdp
          · exact un_in hun
          intro h5 tk5 vs5 st5 F5 N5 hv5
          have hl5 : (upd n ds lo ((lo + hi') / 2 - lo) (y % 2 ^ (n * ((lo + hi') / 2 - lo)))).length = ds.length := upd_length g4
          k_steps
          refine InnerU.use (ih ((lo + hi') / 2) hi' _ _ _ _ g3 hm2 hy5 hy2) [] B2 F5 X2 N5 T2 rfl ?_ ?_ (by k_mem) (fun _ hp => nomatch hp) (fun _ hp => nomatch hp) (fun b o hb e => F5.keep b o (up b o hb e)) hv5 (by rw [hl5]; exact g5) (by rw [hl5]; exact hlen2) ?_
          · exact dp_in hdp
          · exact un_in hun
          intro h6 tk6 vs6 st6 F6 N6 hv6
          k_steps
          all_goals try dsimp only
          refine hQo _ _ ?_; try dsimp only
          refine leaveK_ F6 N6 ?_
          intro kF kN
          refine hret _ _ _ (fun b o hb e => F6.keep b o (hgg b o (fun q => hb (List.mem_singleton.mp q)) e)) (N6 _ (by k_mem)).1 ?_
          have hu := upd_two (n := n) (ds := ds) (lo := lo) (a := (lo + hi') / 2 - lo) (b := hi' - (lo + hi') / 2) (x := y) g6
          rw [(mids hk2).2.2.2.1, (mids hk2).2.2.1] at hu
          rw [← hu]
          exact hv6
    have hrep := rep_ints i1
    have hn1 : n1 = cdiv x n := by
      have h1 : (n1 : Int) = ((1 : Nat) : Int) * ((cdiv x n : Nat) : Int) := e3 (Int.natCast_nonneg _)
      rw [← Int.natCast_mul, Nat.one_mul] at h1
      exact Int.ofNat.inj h1
    subst hn1
    clear e1 e2 e3
    have hw0 : (List.replicate (cdiv x n) (0 : Int)).length = cdiv x n := List.length_replicate
    have hlv := hrep.length
    rw [hw0] at hlv
    have hFn : FnAt f9 h8 := ⟨_, _, _, _, (N9 (f9, _) (by k_mem)).1⟩
    have hxz : x = 0 → cdiv x n = 0 := fun e => by rw [e]; exact cdiv_zero hn
    k_steps
    · rename News _ _ _ _ => N4
      rename Fr _ _ _ _ => F4
      have hx0 : x ≠ 0 := by first | omega | (intro e; subst e; simp_all)
      have hcp := cdiv_pos hn hx0
      refine InnerU.use (hrec (cdiv x n) 0 (cdiv x n) x _ _ _ (Nat.le_refl _) hcp (by rw [Nat.sub_zero]; exact lt_cdiv hn) hx) [(37, tabObj #[rawInt 35, rawInt 4, .ref c']), (c', oc), (L' + 1 + 1, oa)] B' F4 X' N4 T' ?_ ?_ ?_ ?_ ?_ ?_ ?_ hrep ?_ ?_ ?_
      · exact rfl
      · exact dp_to (by assumption) hcd
      · exact un_to (by assumption) hcd
      · k_mem
      · exact List.forall_mem_cons.mpr ⟨by k_mem, List.forall_mem_cons.mpr ⟨by k_mem, List.forall_mem_cons.mpr ⟨by k_mem, List.forall_mem_nil _⟩⟩⟩
      · refine List.forall_mem_cons.mpr ⟨neN (by dsimp only; omega), List.forall_mem_cons.mpr ⟨neN (by dsimp only; omega), List.forall_mem_cons.mpr ⟨neN (by dsimp only; omega), List.forall_mem_nil _⟩⟩⟩
      · exact fun _ _ _ e => e
      · rw [hw0, Nat.zero_add]; exact Nat.sub_le _ _
      · rw [hw0]; exact Nat.le_trans hcd (by decide)
      intro h6 tk6 vs6 st6 F6 N6 hv6
      k_steps
      all_goals try dsimp only
      refine hQo _ _ ?_; try dsimp only
      refine leaveK_ F6 N6 ?_
      intro kF kN
      refine hret _ _ _ [(al, W.listOf vs6.toArray 0)] [(37, tabObj #[rawInt 35, rawInt 4, .ref c']), (c', oc)] (fun b o hb e => F6.keep b o (hg1 b o hb e)) (List.forall_mem_cons.mpr ⟨⟨(N6 _ (by k_mem)).1, ?_⟩, List.forall_mem_nil _⟩) (.inr ⟨c', oc, ws, t, hc1, rfl, hc2, hc3⟩) ?_ ⟨al, vs6, rfl, rfl, ?_⟩
      · show @LE.le Nat _ _ _
        rw [← hL]; dsimp only; omega
      · refine List.forall_mem_cons.mpr ⟨⟨(N6 _ (by k_mem)).1, .inr ?_⟩, List.forall_mem_cons.mpr ⟨⟨(N6 _ (by k_mem)).1, ?_⟩, List.forall_mem_nil _⟩⟩
        · simp
        · right; simp
      · rw [Nat.sub_zero, upd_full] at hv6
        exact hv6
    · rename News _ _ _ _ => N4
      rename Fr _ _ _ _ => F4
      try dsimp only
      have hx0 : x = 0 := by first | omega | simp_all
      refine hQo _ _ ?_; try dsimp only
      refine leaveK_ F4 N4 ?_
      intro kF kN
      refine hret _ _ _ [(al, W.listOf _ 0)] [(37, tabObj #[rawInt 35, rawInt 4, .ref c']), (c', oc)] (fun b o hb e => F4.keep b o (hg1 b o hb e)) (List.forall_mem_cons.mpr ⟨⟨(N4 _ (by k_mem)).1, ?_⟩, List.forall_mem_nil _⟩) (.inr ⟨c', oc, ws, t, hc1, rfl, hc2, hc3⟩) ?_ ⟨al, _, rfl, rfl, ?_⟩
      · show @LE.le Nat _ _ _
        rw [← hL]; dsimp only; omega
      · refine List.forall_mem_cons.mpr ⟨⟨(N4 _ (by k_mem)).1, .inr ?_⟩, List.forall_mem_cons.mpr ⟨⟨(N4 _ (by k_mem)).1, ?_⟩, List.forall_mem_nil _⟩⟩
        · simp
        · right; simp
      · rw [hxz hx0] at hrep ⊢
        exact hrep

theorem div2_pure (prog : Program) (w : World) (x y : Nat) (m : Int) (tx ty tm : Tok) (hx : x < 2 ^ 60) (hy : 1 ≤ y) (hy2 : y < 2 ^ 20) (hm : 0 ≤ m) :
    Pure prog w 28 [.int (x : Int) tx, .int (y : Int) ty, .int m tm] 2 (fun _ => True) (fun _ res r => ∃ (a : Addr) (t u : Tok), r = .ref a ∧ res = [(a, tupObj #[.int ((x / y : Nat) : Int) t, .int ((x % y : Nat) : Int) u])]) := by
  intro p loose mean mg mb dp un gd cn cs a ccd cl outer A₀ base h₀ L m s Q E B F X T hk hd hu _ hret
  k_dflt ((refine wpAny_call ?_; refine' enterT (tb := []) ?kb ?kf ?kx ?kn ?kt ?ka ?kl ?kk ?h1 ?h2 ?h3 ?h4 ?h5 ?_ ?c2 ?c3 ?c4 ?c5; (case kb => assumption); (case kf => assumption); (case kx => assumption); (case kn => exact fun _ hp => nomatch hp); (case kt => assumption); (case ka => exact rfl); (case kl => exact rfl); (case kk => assumption); (case h1 => k_is); (case h2 => k_is); (case h3 => ktr_room); (case h4 => exact BindsTo.of_eq rfl); (case h5 => exact locs rfl); (case c2 => exact rfl); (case c3 => exact rfl); (case c4 => exact rfl); (case c5 => decide)))
  intro g L' h₁ hg1 hg2 hL F' N' B' X' T'
  clear F X T B
  have hbits : ((Builtin.Int.intBits (x : Int) : Nat) : Int) ≤ 64 := by
    have := intBits_le_64 (k := (x : Int)) (by omega) (by omega)
    omega
  refine post_hide ?_
  intro Qo hQo
  try dsimp only
  try k_fold
  k_steps
  rename News _ _ _ _ => N3
  rename Fr _ _ _ _ => F3
  rw [fd, fm] at N3
  have ⟨t5, u5, N5⟩ : ∃ (t5 u5 : Tok), News g L' _ [(h₁.objs.size, tupObj #[.int ((x / y : Nat) : Int) t5, .int ((x % y : Nat) : Int) u5])] := ⟨_, _, N3⟩
  refine hQo _ _ ?_; try dsimp only
  refine leaveK_ F3 N5 ?_
  intro kF kN
  refine hret _ _ _ [(h₁.objs.size, tupObj #[.int ((x / y : Nat) : Int) t5, .int ((x % y : Nat) : Int) u5])] (stay_of hg1 F3) (List.forall_mem_cons.mpr ⟨⟨(N5 _ (by k_mem)).1, ?_⟩, List.forall_mem_nil _⟩) ⟨_, t5, u5, rfl, rfl⟩
  show @LE.le Nat _ _ _
  have : @LT.lt Nat _ L' h₁.objs.size := F'.ns.lt
  rw [← hL]; dsimp only; omega

-- needs: E_digits F_int2 G_div
theorem divpos_t (prog : Program) (w : World) (a b : Nat) (ta tb0 : Tok) (ha : a < 2 ^ 40) (hb : 1 ≤ b) (hb2 : b < 2 ^ 20) :
    TSpec TabL prog w 56 [.int (a : Int) ta, .int (b : Int) tb0] 80 (fun _ => True) (fun _ res r => ∃ (x : Addr) (t u : Tok), r = .ref x ∧ res = [(x, tupObj #[.int ((a / b : Nat) : Int) t, .int ((a % b : Nat) : Int) u])]) := by
  intro p loose mean mg mb dp un gd cn cs a₀ ccd cl outer A₀ base h₀ L m tb s Q E B F X N T C1 C2 ht hk hdp hun hpre hret
  refine wpAny_call ?_
  k_dflt (refine' enterT (tb := tb) B F X N T ?ka ?kl ?kk ?h1 ?h2 ?h3 ?h4 ?h5 ?_ ?c2 ?c3 ?c4 ?c5)
  case ka => exact rfl
  case kl => exact rfl
  case kk => exact hk
  case h1 => k_is
  case h2 => k_is
  case h3 => ktr_room
  case h4 => exact BindsTo.of_eq rfl
  case h5 => exact locs rfl
  case c2 => exact rfl
  case c3 => exact rfl
  case c4 => exact rfl
  case c5 => decide
  intro g L' h₁ hg1 hg2 hL F' N' B' X' T'
  have hin : TabIn s.heap tb tb := TabIn.refl
  clear F X T B N
  obtain ⟨n, en, hn1, hn2, hbn⟩ := bits_facts hb hb2
  refine post_hide ?_
  intro Qo hQo
  try dsimp only
  try k_fold
  k_steps
  rename Fr _ _ _ _ => F3
  rw [en] at F3 ⊢
  clear en
  rename News _ _ _ _ => N3
  refine TSpec.use [] (TSpec.lift1 (int2_t prog w a n _ _ hn1 (by omega) (by omega))) B' F3 X' N3 T' C1 C2 ht ?_ ?_ ?_ trivial (fun _ hp => hp) (fun _ hp => nomatch hp) (fun _ hp => nomatch hp) ?_
  · exact rfl
  · show dp + 1 + 70 < recursionLimit
    omega
  · show un + 3 + 8 * 70 < cLine
    omega
  rintro r h4 tk4 res4 tb1 ht1 hs1 F4 N4 l4 lL4 _ ⟨al, va, rfl, rfl, hva⟩
  replace lL4 := lL4 _ (.head _)
  dsimp only at lL4
  have hin1 := hin.step hs1 (size_le hL F3)
  clear l4 hin hs1 ht N3 F3
  generalize hm : cdiv a n = M at hva
  have hMl := cdiv_mul hn1 hn2 ha
  have hM0 : a < 2 ^ (n * M) := hm ▸ lt_cdiv hn1
  rw [hm] at hMl
  simp only [List.cons_append, List.nil_append] at N4
  k_steps
  rename Fr _ _ _ _ => lF'
  rename News _ _ _ _ => lN'
  refine loop_rev (ax := al) (DivJ n M a b al va tb1) (by rfl) lF' (vs := va) (n := 0) lN' (by k_all) (by k_mem) rfl rfl ?hj ?hJ ?_ ?_
  case hj =>
    refine ⟨0, [], [], _, 0, _, _, _, rfl, rfl, rfl, rfl, .nil, divInv_zero hM0, ?_, fun _ hp => hp⟩
    refine ltN ?_; omega
  case hJ =>
    intro i m nx hJ
    obtain ⟨r, qs, vq, lq, kq, tr, tn, t2, _, _, _, _, _, _, _, jn⟩ := hJ
    exact jn _ (by k_mem)
  · intro i v m₁ nx h tk oI hv hJ hne F₁ N₁
    obtain ⟨r, qs, vq, lq, kq, tr, tn, t2, j1, j2, j3, j4, jq, jd, jl, jn⟩ := hJ
    obtain ⟨hi, td, rfl⟩ := rev_get hva hv
    have F₂ : Fr g L' h _ := fr_lit [(Str.ofString "a_digit", .int ((a / 2 ^ (n * (M - 1 - i)) % 2 ^ n : Nat) : Int) td), (Str.ofString "n", .int (n : Int) tn), (Str.ofString "b", .int (b : Int) t2), (Str.ofString "q_digits", .ref lq), (Str.ofString "r", .int (r : Int) tr)] (by intro q hq; simp only [List.mem_cons, List.not_mem_nil, or_false] at hq; rcases hq with rfl | rfl | rfl | rfl | rfl; all_goals first | assumption | (simp only []; rw [if_neg (by decide)]; assumption) | exact if_pos rfl | simp_all) F₁
    have N₂ : News g L' h _ := news_in N₁ jn
    have hne2 := allNe_of (ne_in hne jn)
    simp only [AllNe, and_true] at hne2
    clear F₁ N₁ lF' lN' jn hne j1 j2 j3 j4
    generalize hd : a / 2 ^ (n * (M - 1 - i)) % 2 ^ n = d at *
    have hvl : vq.length ≤ 60 := by
      have h1 := jq.length
      have h2 := jd.2.2.1
      have h3 : M ≤ n * M := Nat.le_mul_of_pos_left _ hn1
      omega
    have hr : r < b := by rw [jd.1]; exact Nat.mod_lt _ hb
    have hd2 : d < 2 ^ n := by rw [← hd]; exact Nat.mod_lt _ (Nat.pow_pos (by decide))
    have h20 : 2 ^ n ≤ 2 ^ 20 := Nat.pow_le_pow_right (by decide) hn2
    have hx : (r : Int) * 2 ^ ((n : Int)).toNat + (d : Int) = ((r * 2 ^ n + d : Nat) : Int) := by
      rw [Int.toNat_natCast, Int.natCast_add, Int.natCast_mul, Int.natCast_pow]; rfl
    have hxb : r * 2 ^ n + d < 2 ^ 60 := by
      have h7 : (r + 1) * 2 ^ n ≤ b * 2 ^ 20 := Nat.mul_le_mul hr h20
      rw [Nat.add_mul, Nat.one_mul] at h7
      omega
    k_steps
    rw [hx]
    refine Pure.use (div2_pure prog w (r * 2 ^ n + d) b _ _ _ _ hxb hb hb2 (by omega)) B' F₂ X' N₂ T' ?_ ?_ ?_ trivial ?_
    · exact rfl
    · show dp + 1 + 2 < recursionLimit
      omega
    · show un + 3 + 8 * 2 < cLine
      omega
    rintro r5 h5 tk5 res5 st5 F5 N5 l5 ⟨xa, t5, u5, rfl, rfl⟩
    simp only [List.cons_append, List.nil_append] at N5
    replace l5 := l5 _ (.head _)
    k_lt l5
    k_steps
    rename News _ _ _ _ => N3
    rename Fr _ _ _ _ => F3
    simp only [List.push_toArray] at N3
    refine LEnd.intro F3 N3 (by k_mem) ?_ ?_ ⟨(r * 2 ^ n + d) % b, _, _, lq, kq + 1, _, _, _, rfl, rfl, rfl, rfl, ints_snoc (t := t5) jq, divInv_step hb jd hi hd.symm, jl, fun p hp => hp⟩
    · intro q9 hq9; repeat (first | exact hq9 | refine List.Mem.tail _ ?_)
    · k_all
  · intro m₁ nx h tk hJ F₁ N₁
    obtain ⟨r, qs, vq, lq, kq, tr, tn, t2, j1, j2, j3, j4, jq, jd, jl, jn⟩ := hJ
    have F₂ : Fr g L' h _ := fr_lit [(Str.ofString "n", .int (n : Int) tn), (Str.ofString "q_digits", .ref lq), (Str.ofString "r", .int (r : Int) tr)] (by intro q hq; simp only [List.mem_cons, List.not_mem_nil, or_false] at hq; rcases hq with rfl | rfl | rfl; all_goals first | assumption | (simp only []; rw [if_neg (by decide)]; assumption) | exact if_pos rfl | simp_all) F₁
    have N₂ : News g L' h _ := news_of N₁ jn
    clear F₁ N₁ lF' lN' jn j1 j2 j3 j4
    have hvM : va.length = M := by have := hva.length; rwa [digs_length] at this
    rw [hvM] at jd
    have hvl : vq.length ≤ 60 := by
      have h1 := jq.length
      have h2 := jd.2.2.1
      have h3 : M ≤ n * M := Nat.le_mul_of_pos_left _ hn1
      omega
    k_steps
    rename News _ _ _ _ => N3
    rename Fr _ _ _ _ => F3
    have jr : IntsAre vq.reverse qs.reverse := jq.reverse
    have hM1 : n * qs.reverse.length ≤ 60 := by rw [List.length_reverse, jd.2.2.1]; exact hMl
    refine TSpec.use [(lq, W.listOf vq.reverse.toArray kq)] (TSpec.lift2 (digits_t prog w lq n _ vq.reverse qs.reverse jr hn1 hM1 (fun d hd => jd.2.2.2 d (List.mem_reverse.mp hd)))) B' F3 X' N3 T' C1 C2 ht1 ?_ ?_ ?_ ?_ ?_ ?_ ?_ ?_
    · exact rfl
    · show dp + 1 + (qs.reverse.length + 4) < recursionLimit
      have : qs.reverse.length ≤ n * qs.reverse.length := Nat.le_mul_of_pos_left _ hn1
      omega
    · show un + 3 + 8 * (qs.reverse.length + 4) < cLine
      have : qs.reverse.length ≤ n * qs.reverse.length := Nat.le_mul_of_pos_left _ hn1
      omega
    · exact .inl (News.isList N3 (by k_mem))
    · intro q9 hq9; repeat (first | exact hq9 | refine List.Mem.tail _ ?_)
    · exact List.forall_mem_cons.mpr ⟨by k_mem, List.forall_mem_nil _⟩
    · exact List.forall_mem_cons.mpr ⟨.inl (fun _ e => nomatch e), List.forall_mem_nil _⟩
    rintro r5 h5 tk5 res5 tb2 ht2 hs2 F5 N5 l5 _ _ ⟨rfl, t5, rfl⟩
    have hin2 := hin1.step hs2 (size_le hL F3)
    obtain ⟨de1, de2⟩ := divInv_end jd
    rw [de2]
    subst de1
    clear l5 hin1 hs2 ht1 N3 F3
    simp only [List.cons_append, List.nil_append] at N5
    k_steps
    rename News _ _ _ _ => N6
    rename Fr _ _ _ _ => F6
    refine hQo _ _ ?_; try dsimp only
    refine leaveK_ F6 N6 ?_
    intro kF kN
    refine hret _ _ _ [(_, tupObj #[.int ((a / b : Nat) : Int) _, .int ((a % b : Nat) : Int) _])] tb2 (fun b o hb e => F6.keep b o (hg1 b o hb e)) (List.forall_mem_cons.mpr ⟨⟨(N6 _ (by k_mem)).1, ?_⟩, List.forall_mem_nil _⟩) ht2 (fun p hp => ⟨(N6 p (List.Mem.tail _ (List.Mem.tail _ hp))).1, hin2 p hp⟩) ⟨_, _, _, rfl, rfl⟩
    show @LE.le Nat _ _ _
    rw [← hL]; dsimp only; omega

-- needs: E_digits F_int2 G_div H_divpos
theorem fold_t (prog : Program) (w : World) (l : List Nat) (x : Addr) (n : Nat) (tn0 : Tok) (hn : 1 ≤ n ∧ n ≤ 6) (hl : LeadOk l) :
    TSpec TabL prog w 175 [.ref x, .int (n : Int) tn0] 82 (WhiteAt w l x) (FoldPost l n) := by
  intro p loose mean mg mb dp un gd cn cs a₀ ccd cl outer A₀ base h₀ L m tb s Q E B F X N T C1 C2 ht hk hdp hun hpre hret
  refine wpAny_call ?_
  k_dflt (refine' enterT (tb := tb) B F X N T ?ka ?kl ?kk ?h1 ?h2 ?h3 ?h4 ?h5 ?_ ?c2 ?c3 ?c4 ?c5)
  case ka => exact rfl
  case kl => exact rfl
  case kk => exact hk
  case h1 => k_is
  case h2 => k_is
  case h3 => ktr_room
  case h4 => exact BindsTo.of_eq rfl
  case h5 => exact locs rfl
  case c2 => exact rfl
  case c3 => exact rfl
  case c4 => exact rfl
  case c5 => decide
  intro g L' h₁ hg1 hg2 hL F' N' B' X' T'
  have hin : TabIn s.heap tb tb := TabIn.refl
  obtain ⟨dx, tn, tc, vc, res, ⟨raw, u0, u1, u2, u3, u4, v0, v1, v2, vb, hi, rfl⟩, hr⟩ := hpre.keeps (h' := g) (fun b o hd e => hg1 b o (ht.off (fun p hp => (N p hp).1) e hd) e)
  have hw1 := hr _ (.head _)
  have hw2 := hr _ (.tail _ (.head _))
  have hw3 : IsTup g tn #[.ref tc, .int (whAll l).2.1 vb] := ⟨_, hr _ (.tail _ (.tail _ (.head _))), rfl, 0, rfl⟩
  have hw4 : IsTup g tc vc.toArray := ⟨_, hr _ (.tail _ (.tail _ (.tail _ (.head _)))), rfl, 0, rfl⟩
  clear hr
  dsimp only at hw1 hw2
  clear F X T B N
  refine post_hide ?_
  intro Qo hQo
  try dsimp only
  try k_fold
  k_steps
  rename Fr _ _ _ _ => F3
  rename News _ _ _ _ => N3
  obtain ⟨hA1, hA2⟩ := foldA_is hl
  obtain ⟨hB1, hB2, hB3⟩ := foldB_is hn
  refine TSpec.use [] (TSpec.lift2 (digits_t prog w tc 3 _ vc (whAll l).1 hi (by decide) (by have := hl.2; omega) hl.1)) B' F3 X' N3 T' C1 C2 ht ?_ ?_ ?_ ?_ (fun _ hp => hp) (fun _ hp => nomatch hp) (fun _ hp => nomatch hp) ?_
  · exact rfl
  · show dp + 1 + ((whAll l).1.length + 4) < recursionLimit
    have := hl.2
    omega
  · show un + 3 + 8 * ((whAll l).1.length + 4) < cLine
    have := hl.2
    omega
  · exact .inr (hw4.keeps F3.keep)
  rintro r h4 tk4 res4 tb1 ht1 hs1 F4 N4 l4 lL4 _ ⟨rfl, t4, rfl⟩
  have hin1 := hin.step hs1 (size_le hL F3)
  rw [hA1]
  clear l4 lL4 hin hs1 ht N3 F3
  simp only [List.cons_append, List.nil_append] at N4
  k_steps
  rw [Int.toNat_natCast, hB1]
  refine TSpec.use [] (divpos_t prog w (foldA l) (foldB n) _ _ hA2 hB2 hB3) B' F4 X' N4 T' C1 C2 ht1 ?_ ?_ ?_ trivial (fun _ hp => hp) (fun _ hp => nomatch hp) (fun _ hp => nomatch hp) ?_
  · exact rfl
  · show dp + 1 + 80 < recursionLimit
    omega
  · show un + 3 + 8 * 80 < cLine
    omega
  rintro r h5 tk5 res5 tb2 ht2 hs2 F5 N5 l5 lL5 _ ⟨a5, t5, u5, rfl, rfl⟩
  have hin2 := hin1.step hs2 (size_le hL F4)
  replace lL5 := lL5 _ (.head _)
  dsimp only at lL5
  clear l5 hin1 hs2 ht1 N4 F4
  simp only [List.cons_append, List.nil_append] at N5
  try dsimp only
  refine hQo _ _ ?_; try dsimp only
  refine leaveK_ F5 N5 ?_
  intro kF kN
  refine hret _ _ _ [(a5, _)] tb2 (fun b o hb e => F5.keep b o (hg1 b o hb e)) (List.forall_mem_cons.mpr ⟨⟨(N5 _ (by k_mem)).1, ?_⟩, List.forall_mem_nil _⟩) ht2 (fun p hp => ⟨(N5 p (List.Mem.tail _ hp)).1, hin2 p hp⟩) ⟨a5, t5, u5, rfl, rfl⟩
  show @LE.le Nat _ _ _
  rw [← hL]; dsimp only; omega

theorem indent_pure (prog : Program) (w : World) (l : List Nat) (x : Addr) (ts : Nat) (tn0 : Tok) (hn : 1 ≤ ts ∧ ts ≤ 6) (hl : LeadOk l) :
    Pure prog w 123 [.ref x, .int (ts : Int) tn0] 2 (WhiteAt w l x) (fun _ res r => res = [] ∧ ∃ t, r = .int (indentOf l ts) t) := by
  intro p loose mean mg mb dp un gd cn cs a ccd cl outer A₀ base h₀ L m s Q E B F X T hk hd hu hpre hret
  k_dflt ((refine wpAny_call ?_; refine' enterT (tb := []) ?kb ?kf ?kx ?kn ?kt ?ka ?kl ?kk ?h1 ?h2 ?h3 ?h4 ?h5 ?_ ?c2 ?c3 ?c4 ?c5; (case kb => assumption); (case kf => assumption); (case kx => assumption); (case kn => exact fun _ hp => nomatch hp); (case kt => assumption); (case ka => exact rfl); (case kl => exact rfl); (case kk => assumption); (case h1 => k_is); (case h2 => k_is); (case h3 => ktr_room); (case h4 => exact BindsTo.of_eq rfl); (case h5 => exact locs rfl); (case c2 => exact rfl); (case c3 => exact rfl); (case c4 => exact rfl); (case c5 => decide)))
  intro g L' h₁ hg1 hg2 hL F' N' B' X' T'
  obtain ⟨dx, tn, tc, vc, res, ⟨raw, u0, u1, u2, u3, u4, v0, v1, v2, vb, hi, rfl⟩, hr⟩ := hpre.keeps (h' := g) (fun b o hd e => hg1 b o (fun q => nomatch q) e)
  have hw1 := hr _ (.head _)
  have hw2 := hr _ (.tail _ (.head _))
  have hw3 : IsTup g tn #[.ref tc, .int (whAll l).2.1 vb] := ⟨_, hr _ (.tail _ (.tail _ (.head _))), rfl, 0, rfl⟩
  have hw4 : IsSeq g tc vc := .inr ⟨_, hr _ (.tail _ (.tail _ (.tail _ (.head _)))), rfl, 0, rfl⟩
  clear hr
  have hlen := hl.2
  dsimp only at hw1 hw2
  clear F X T B
  refine post_hide ?_
  intro Qo hQo
  try dsimp only
  try k_fold
  repeat' (first | (k_unfold; (try dsimp only)) | (k_end; wrow_close) | ((fail_if_success (with_reducible show wpAny _ _ (exec (Stmt.For _ _ _ _ _) _) _ _ _)); walk1))
  rename Fr _ _ _ _ => lF'
  with_unfolding_all refine' For_invVF lF' ?k1 ?k2 ?_
  case k1 => exact rfl
  case k2 => exact rfl
  repeat' (first | (k_unfold; (try dsimp only)) | (k_end; wrow_close) | ((fail_if_success (with_reducible show wpAny _ _ (pyIter _) _ _ _)); walk1))
  rename IsRange _ _ _ _ _ _ _ _ => hR
  rename Fr _ _ _ _ => lF
  rename News _ _ _ _ => lN
  refine loop_range (n := (whAll l).1.length - ts) (IndJ ts (whAll l).1 x tc (whAll l).2.1) (by rfl) hR ?hs ?hz lF lN ?hj ?_ ?_
  case hs => exact small_one (by omega) (by omega) (by omega) (by omega)
  case hz =>
    show (if (1 : Int) > 0 then (if (ts : Int) < (((whAll l).1.length : Nat) : Int) then ((((whAll l).1.length : Nat) : Int) - (ts : Int) - 1) / 1 + 1 else 0) else _) = _
    rw [if_pos (by decide), Int.ediv_one]
    split <;> omega
  case hj => exact ⟨_, _, _, rfl, rfl, rfl, rfl, rfl⟩
  · intro i t m₁ nx h tk I oI hlt hJ hne F₁ N₁
    obtain ⟨t1, t2, t3, j1, j2, j3, j4, j5⟩ := hJ
    have F₂ : Fr g L' h _ := fr_lit [(Str.ofString "i", .int ((ts : Int) + (i : Int)) t), (Str.ofString "self", .ref x), (Str.ofString "tabsize", .int (ts : Int) t1), (Str.ofString "count", .ref tc), (Str.ofString "trailing", .int (whAll l).2.1 t2), (Str.ofString "il", .int (ilSum (whAll l).1 ts i) t3)] (by intro q hq; simp only [List.mem_cons, List.not_mem_nil, or_false] at hq; rcases hq with rfl | rfl | rfl | rfl | rfl | rfl; all_goals first | assumption | (simp only []; rw [if_neg (by decide)]; assumption) | exact if_pos rfl | simp_all) F₁
    have N₂ : News g L' h _ := news_in (b := []) N₁ (fun _ hp => nomatch hp)
    clear F₁ N₁ lF lN hR j1 j2 j3 j4 j5
    have hq1 : 0 ≤ ((ts : Int) + (i : Int)).fdiv (ts : Int) ∧ ((ts : Int) + (i : Int)).fdiv (ts : Int) < 1000 := by
      rw [← Int.natCast_add, fd]
      have : (ts + i) / ts ≤ ts + i := Nat.div_le_self _ _
      generalize (ts + i) / ts = q at *
      omega
    obtain ⟨hq1, hq2⟩ := hq1
    k_steps
    rename News _ _ _ _ => N3
    rename Fr _ _ _ _ => F3
    refine LEnd.intro F3 N3 (by k_mem) ?_ ?_ ⟨_, _, _, rfl, rfl, rfl, rfl, rfl⟩ (nx := [])
    · exact fun _ hp => nomatch hp
    · exact fun _ hp => nomatch hp
  · intro m₁ nx h tk hJ F₁ N₁
    obtain ⟨t1, t2, t3, j1, j2, j3, j4, j5⟩ := hJ
    have F₂ : Fr g L' h _ := fr_lit [(Str.ofString "self", .ref x), (Str.ofString "tabsize", .int (ts : Int) t1), (Str.ofString "trailing", .int (whAll l).2.1 t2), (Str.ofString "il", .int (ilSum (whAll l).1 ts ((whAll l).1.length - ts)) t3)] (by intro q hq; simp only [List.mem_cons, List.not_mem_nil, or_false] at hq; rcases hq with rfl | rfl | rfl | rfl; all_goals first | assumption | (simp only []; rw [if_neg (by decide)]; assumption) | exact if_pos rfl | simp_all) F₁
    have N₂ : News g L' h [] := fun _ hp => nomatch hp
    clear F₁ N₁ lF lN hR j1 j2 j3 j4 j5
    k_steps
    dsimp only
    refine hQo _ _ ?_; try dsimp only
    refine leaveK_ F₂ N₂ ?_
    intro kF kN
    exact hret _ _ _ [] (stay_of hg1 F₂) (fun _ hp => nomatch hp) ⟨rfl, _, rfl⟩

-- needs: C_walk D_white E_digits F_int2 G_div H_divpos I_fold J_ind
theorem told_t (prog : Program) (w : World) (l : List Nat) (tl : Tok) (n : Nat) (tn0 : Tok) (hn : 1 ≤ n ∧ n ≤ 6) (H : ToldOk n l) :
    TSpec TabL prog w 180 [.str (text l) tl, .int (n : Int) tn0] 84 (fun _ => True) (fun _ res r => res = [] ∧ r = .bool true) := by
  intro p loose mean mg mb dp un gd cn cs a₀ ccd cl outer A₀ base h₀ L m tb s Q E B F X N T C1 C2 ht hk hdp hun hpre hret
  refine wpAny_call ?_
  k_dflt (refine' enterC (tb := tb) B F X N T ?ka ?kl ?kk ?h1 ?h2 ?h3 ?h4 ?h5 ?h6 ?_ ?c2 ?c3 ?c4)
  case ka => exact rfl
  case kl => exact rfl
  case kk => exact hk
  case h1 => k_is
  case h2 => k_is
  case h3 => ktr_room
  case h4 => exact BindsTo.of_eq rfl
  case h5 => exact rfl
  case h6 => decide +kernel
  case c2 => exact rfl
  case c3 => exact rfl
  case c4 => exact rfl
  intro g L' h₁ tk₁ cells hg1 hg2 hL F' N' Y' B' X' T' ltb
  have hin : TabIn s.heap tb tb := TabIn.refl
  obtain ⟨o1, o2, hE, d1, d2⟩ := CellsAre.two Y'
  subst hE
  clear Y'
  (try simp only [List.cons_append, List.nil_append] at N')
  replace ltb := allLt_of ltb
  clear F X T B N
  refine post_hide ?_
  intro Qo hQo
  have htl : (text l).length ≤ 24 := by
    have := H.len
    show (text l).cps.size ≤ 24
    simpa [text] using this
  try dsimp only
  try k_fold
  k_steps
  rw [show text l ++ Str.ofString "x\t " = text (l ++ [120, 9, 32]) from text_append l [120, 9, 32]]
  refine Pure.use (white_init prog w l [120, 9, 32] _ H.len H.signs (.inr ⟨_, rfl⟩) (by decide)) B' F' X' N' T' ?_ ?_ ?_ trivial ?_
  · exact rfl
  · show dp + 1 + 3 < recursionLimit
    omega
  · show un + 3 + 8 * 3 < cLine
    omega
  rintro r5 h5 tk5 res5 st5 F5 N5 l5 ⟨xw, dw, nw, cw, vw, rfl, raw, u0, u1, u2, u3, u4, v0, v1, v2, vb, hiw, rfl⟩
  have lw1 := l5 _ (.head _)
  have lw2 := l5 _ (.tail _ (.head _))
  have lw3 := l5 _ (.tail _ (.tail _ (.head _)))
  have lw4 := l5 _ (.tail _ (.tail _ (.tail _ (.head _))))
  k_lt lw1
  k_lt lw2
  k_lt lw3
  k_lt lw4
  clear l5 st5 N' F'
  simp only [List.cons_append, List.nil_append] at N5
  k_steps
  rename Fr _ _ _ _ => F3
  rename News _ _ _ _ => N3
  refine TSpec.useS (fold_t prog w l xw n _ hn H.lead) (by (repeat (first | exact SplitTail.nil | apply SplitTail.cons))) B' F3 X' N3 T' C1 C2 ht ?hk ?hd ?hu ?hp ?ho ?_
  case hk => exact rfl
  case hd =>
    show dp + 1 + 82 < recursionLimit
    omega
  case hu =>
    show un + 3 + 8 * 82 < cLine
    omega
  case hp => exact ⟨dw, nw, cw, vw, _, ⟨raw, u0, u1, u2, u3, u4, v0, v1, v2, vb, hiw, rfl⟩, fun p hp => by
    simp only [List.mem_cons, List.not_mem_nil, or_false] at hp
    rcases hp with rfl | rfl | rfl | rfl <;> exact (N3 _ (by k_mem)).1⟩
  case ho => ((repeat (refine List.forall_mem_cons.mpr ⟨Or.inl (by first | exact nf_cell (by assumption) | (intro v9 e9; cases e9; done)), ?_⟩)); exact List.forall_mem_nil _)
  rintro r6 h6 tk6 res6 tb1 ht1 hs1 F6 N6 l6 lL6 _ ⟨a6, t6, t7, rfl, rfl⟩
  have hin1 := hin.step hs1 (size_le hL F3)
  replace l6 := l6 _ (.head _)
  k_lt l6
  clear hin hs1 ht N3 F3 ltb lL6
  simp only [List.cons_append, List.nil_append] at N6
  k_steps
  rename Fr _ _ _ _ => F3
  rename News _ _ _ _ => N3
  refine Pure.use (walk_pure prog w l tl n _ hn H.len) B' F3 X' N3 T' ?_ ?_ ?_ trivial ?_
  · exact rfl
  · show dp + 1 + 2 < recursionLimit
    omega
  · show un + 3 + 8 * 2 < cLine
    omega
  rintro r7 h7 tk7 res7 st7 F7 N7 l7 ⟨al, aw, as, vwd, vst, tc, ka, kw, ks, c, b, ws, ss, hwk, rfl, rfl, hiws, hiss⟩
  have lv1 := l7 _ (.head _)
  have lv2 := l7 _ (.tail _ (.head _))
  have lv3 := l7 _ (.tail _ (.tail _ (.head _)))
  k_lt lv1
  k_lt lv2
  k_lt lv3
  have ec : c = colOf n l := by unfold colOf; rw [← hwk]
  have ew : ws = wideOf n l := by unfold wideOf; rw [← hwk]
  have es : ss = stopsOf n l := by unfold stopsOf; rw [← hwk]
  subst ec ew es
  clear hwk l7 st7 F3 N3 b
  simp only [List.cons_append, List.nil_append] at N7
  have hwl := H.wlen
  repeat' (first | (k_unfold; (try dsimp only)) | (k_end; wrow_close) | ((fail_if_success (with_reducible show wpAny _ _ (exec (Stmt.While _ _ _ _) _) _ _ _)); walk1))
  rename News _ _ _ _ => N3
  rename Fr _ _ _ _ => F3
  rename Heap => h8
  rename Obj.data _ = Data.cell (some (Value.ref as)) => dT0
  rename IntsAre _ (List.reverse _) => hrv
  have ⟨D0, vs0, oS0, oT, hrv0, dS0, dT, lD0, N8⟩ : ∃ (D0 : Addr) (vs0 : List Value) (oS0 oT : Obj), IntsAre vs0 (wideOf n l).reverse ∧ oS0.data = .cell (some (.ref D0)) ∧ oT.data = .cell (some (.ref as)) ∧ @LT.lt Nat _ (L' + 1 + 1) D0 ∧
      News g L' h8 ((D0, W.listOf vs0.toArray 0) :: (L' + 1 + 1, oS0) :: (L' + 1, oT) :: (as, W.listOf vst.toArray ks) :: (xw, instObj 154 dw) :: (dw, wDict w l raw nw u0 u1 u2 u3 u4 v0 v1 v2) :: (nw, tupObj #[.ref cw, .int (whAll l).2.1 vb]) :: (cw, tupObj vw.toArray) :: tb1) := by
    refine ⟨_, _, _, _, hrv, ‹_›, dT0, ?_, ?_⟩
    · refine ltN ?_; omega
    · refine news_of N3 ?_
      refine List.forall_mem_cons.mpr ⟨by k_mem, List.forall_mem_cons.mpr ⟨by k_mem, List.forall_mem_cons.mpr ⟨by k_mem, List.forall_mem_cons.mpr ⟨by k_mem, List.forall_mem_cons.mpr ⟨by k_mem, List.forall_mem_cons.mpr ⟨by k_mem, List.forall_mem_cons.mpr ⟨by k_mem, List.forall_mem_cons.mpr ⟨by k_mem, ?_⟩⟩⟩⟩⟩⟩⟩⟩
      (intro q9 hq9; repeat (first | exact hq9 | refine List.Mem.tail _ ?_))
  clear N3 dT0 hrv d1 d2
  refine While_inv2 (ToldJ n l L' xw tl tn0 t6 t7 ((L' + 1, oT) :: (as, W.listOf vst.toArray ks) :: (xw, instObj 154 dw) :: (dw, wDict w l raw nw u0 u1 u2 u3 u4 v0 v1 v2) :: (nw, tupObj #[.ref cw, .int (whAll l).2.1 vb]) :: (cw, tupObj vw.toArray) :: tb1)) (n₀ := n) F3 N8 ?hj ?_ ?he
  case hj => exact ⟨0, D0, vs0, oS0, rfl, Nat.zero_le _, by rw [List.drop_zero], by rw [List.drop_zero]; exact hrv0, dS0, lD0, rfl, rfl, rfl, rfl, rfl, fun _ hp => hp⟩
  case he => passes_own
  intro k m₁ nx hh tk F₁ N₁ hJ
  obtain ⟨j, D, vs, oS, hk, hj, hz, hvs, dS, lD, j1, j2, j3, j4, j5, jn⟩ := hJ
  have F₂ : Fr g L' hh _ := fr_lit [(Str.ofString "lead", .str (text l) tl), (Str.ofString "size", .int (n : Int) tn0), (Str.ofString "white", .ref xw), (Str.ofString "many", .int ((foldA l / foldB n : Nat) : Int) t6), (Str.ofString "rest", .int ((foldA l % foldB n : Nat) : Int) t7)] (by intro q hq; simp only [List.mem_cons, List.not_mem_nil, or_false] at hq; rcases hq with rfl | rfl | rfl | rfl | rfl <;> assumption) F₁
  have N₂ : News g L' hh _ := news_of N₁ jn
  clear F₁ N₁ F3 N8 jn j1 j2 j3 j4 j5
  have hjn : j < n := by
    rcases Nat.lt_or_ge j n with h | h
    · exact h
    · exfalso
      have : (wideOf n l).drop j = [] := List.drop_of_length_le (by omega)
      rw [this] at hz
      exact H.some hz
  have hjw : j < (wideOf n l).length := by omega
  repeat' (first | (k_unfold; (try dsimp only)) | (k_end; wrow_close) | ((fail_if_success (with_reducible show wpAny _ _ (compareOp _ _ _) _ _ _)); walk1))
  rw [rev_last hjw]
  repeat' (first | (k_unfold; (try dsimp only)) | (k_end; wrow_close) | ((fail_if_success (with_reducible show wpAny _ _ (exec (Stmt.If _ _ _ _) _) _ _ _)); walk1))
  · rename News _ _ _ _ => N3
    rename Fr _ _ _ _ => F3
    rename IntsAre _ (List.take _ _) => hv3
    rename Obj.data _ = Data.cell _ => dS3
    have h0 : (wideOf n l)[j] = 0 := by first | assumption | (simp_all; done) | omega
    refine ⟨_, _, _, _, n - (j + 1), rfl, F3, N3, by omega, j + 1, _, _, _, rfl, hjn, drop_zero_step hjw hz h0, ints_take_rev hjw hv3, dS3, ?_, rfl, rfl, rfl, rfl, rfl, ?_⟩
    · refine ltN ?_; omega
    · refine List.forall_mem_cons.mpr ⟨by k_mem, List.forall_mem_cons.mpr ⟨by k_mem, ?_⟩⟩
      (intro q9 hq9; repeat (first | exact hq9 | refine List.Mem.tail _ ?_))
  · have h0 : (wideOf n l)[j] ≠ 0 := by first | assumption | (simp_all; done) | omega
    have hsh : ((wideOf n l).drop j).reverse = shownOf n l := by rw [shownOf, drop_nonzero hjw hz h0]
    rw [hsh] at hvs
    clear hz hrv0 dS0 h0 hsh hwl hiws
    repeat' (first | (k_unfold; (try dsimp only)) | (k_end; wrow_close) | ((fail_if_success (with_reducible show wpAny _ _ (call (Value.ref 42) _) _ _ _)); walk1))
    rename Fr _ _ _ _ => F3
    rename News _ _ _ _ => N3
    refine TSpec.useS (TSpec.lift1 (int2_t prog w (foldA l % foldB n) 3 _ _ (by decide) (by decide) ?hb)) (by (repeat (first | exact SplitTail.nil | apply SplitTail.cons))) B' F3 X' N3 T' C1 C2 ht1 ?hk ?hd ?hu trivial ?ho ?_
    case hb =>
      have h1 := (foldA_is H.lead).2
      have h2 : foldA l % foldB n ≤ foldA l := Nat.mod_le _ _
      omega
    case hk => exact rfl
    case hd =>
      show dp + 1 + 70 < recursionLimit
      omega
    case hu =>
      show un + 3 + 8 * 70 < cLine
      omega
    case ho => ((repeat (refine List.forall_mem_cons.mpr ⟨Or.inl (by first | exact nf_cell (by assumption) | (intro v9 e9; cases e9; done)), ?_⟩)); exact List.forall_mem_nil _)
    rintro r9 h9 tk9 res9 tb2 ht2 hs2 F9 N9 l9 lL9 _ ⟨al9, va9, rfl, rfl, hva9⟩
    have hin2 := hin1.step hs2 (size_le hL F3)
    replace l9 := l9 _ (.head _)
    k_lt l9
    clear hin1 hs2 ht1 N3 F3 lL9
    rw [H.rest] at hva9
    simp only [List.cons_append, List.nil_append] at N9
    repeat' (first | (k_unfold; (try dsimp only)) | (k_end; wrow_close) | ((fail_if_success (with_reducible show wpAny _ _ (call (Value.ref 42) _) _ _ _)); walk1))
    rename Fr _ _ _ _ => F3
    rename News _ _ _ _ => N3
    refine TSpec.useS (TSpec.lift1 (int2_t prog w (foldA l / foldB n) 3 _ _ (by decide) (by decide) ?hb)) (by (repeat (first | exact SplitTail.nil | apply SplitTail.cons))) B' F3 X' N3 T' C1 C2 ht2 ?hk ?hd ?hu trivial ?ho ?_
    case hb =>
      have h1 := (foldA_is H.lead).2
      have h2 : foldA l / foldB n ≤ foldA l := Nat.div_le_self _ _
      omega
    case hk => exact rfl
    case hd =>
      show dp + 1 + 70 < recursionLimit
      omega
    case hu =>
      show un + 3 + 8 * 70 < cLine
      omega
    case ho => ((repeat (refine List.forall_mem_cons.mpr ⟨Or.inl (by first | exact nf_cell (by assumption) | (intro v9 e9; cases e9; done)), ?_⟩)); exact List.forall_mem_nil _)
    rintro r10 h10 tk10 res10 tb3 ht3 hs3 F10 N10 l10 lL10 _ ⟨al10, va10, rfl, rfl, hva10⟩
    have hin3 := hin2.step hs3 (size_le hL F3)
    replace l10 := l10 _ (.head _)
    k_lt l10
    clear hin2 hs3 ht2 N3 F3 lL10
    rw [H.many] at hva10
    simp only [List.cons_append, List.nil_append] at N10
    have hstl := H.stops.1
    repeat' (first | (k_unfold; (try dsimp only)) | (k_end; wrow_close) | ((fail_if_success (with_reducible show wpAny _ _ (eval (PySem.Expr.ListComp _ _ _ _) _) _ _ _)); walk1))
    k_dflt (refine LCg.ListComp_U (F₀ := F10) (by with_unfolding_all rfl) (by decide) (by rfl) (by decide) (by rfl) ?_)
    repeat' (first | (k_unfold; (try dsimp only)) | (k_end; wrow_close) | ((fail_if_success (with_reducible show wpAny _ _ (call (Value.builtin "max") _) _ _ _)); walk1))
    walk1
    rename _ ∈ stopsOf n l ++ [-1] => hM1
    rename ∀ a, a ∈ _ → a ≤ _ => hM2
    have hM := top_is hM1 hM2
    have hTb := top_bounds H.stops.2
    subst hM
    clear hM1 hM2
    repeat' (first | (k_unfold; (try dsimp only)) | (k_end; wrow_close) | ((fail_if_success (with_reducible show LCg.CompSrc _ _ _ _ _ _ _ _ _ _ _ _ _ _)); walk1))
    rename IsRange _ _ _ _ _ _ _ _ => hR
    rename Fr _ _ _ _ => F3
    rename News _ _ _ _ => N3
    refine LCg.CompSrc.range (n := (topOf (stopsOf n l) + 1).toNat) (by rfl) F3 N3 hR (small_one (by omega) (by omega) (by omega) (by omega)) (by rw [rangeSize_one]; split <;> omega) (by (simp only [sizeLine]); omega) ?_
    intro g'
    refine comp_gen (fun i y => ∃ t : Tok, y = Value.int (((stopsOf n l).count (0 + ((i : Nat) : Int)) : Nat) : Int) t) ?_ ?_
    · intro i v ys I oI C oC Dd m₂ h tk E' hi hP hC hx F₅ N₅ off ne
      obtain ⟨t, rfl⟩ := hP
      k_steps
      rename Fr _ _ _ _ => F6
      rename News _ _ _ _ => N6
      refine LCg.CompEnd.intro F6 N6 _ (fun p hp => hp) off trivial ⟨rfl, _, rfl⟩
    · intro ys hl9 hr9
      unfold LCg.FinE
      intro D5 h5 tk5 F5 N5 off5
      have hI5 : IntsAre ys (countsOf (stopsOf n l)) := by
        have := ints_of_get (fun j => (((stopsOf n l).count (j : Int) : Nat) : Int)) (ys := ys) (k := 0) hl9 (fun i y hy => by
          obtain ⟨t, e⟩ := hr9 i y hy
          exact ⟨t, by rw [e]; congr 3⟩)
        have e2 : ((List.range (topOf (stopsOf n l) + 1).toNat).map fun i => (((stopsOf n l).count (((0 + i : Nat)) : Int) : Nat) : Int)) = countsOf (stopsOf n l) := by
          unfold countsOf
          exact List.map_congr_left fun i _ => by rw [Nat.zero_add]
        rw [e2] at this
        exact this
      clear hr9 hl9 off5
      repeat' (first | (k_unfold; (try dsimp only)) | (k_end; wrow_close) | ((fail_if_success (with_reducible show wpAny _ _ (eval (PySem.Expr.ListComp _ _ _ _) _) _ _ _)); walk1))
      have hsl := H.slen
      have hvl := hvs.length
      have N9 : News g L' h5 ((D, W.listOf vs.toArray 0) :: (L' + 1 + 1, oS) :: (L' + 1, oT) :: (as, W.listOf vst.toArray ks) :: (xw, instObj 154 dw) :: (dw, wDict w l raw nw u0 u1 u2 u3 u4 v0 v1 v2) :: (nw, tupObj #[.ref cw, .int (whAll l).2.1 vb]) :: (cw, tupObj vw.toArray) :: tb3) := by
        refine news_of N5 ?_
        refine List.forall_mem_cons.mpr ⟨by k_mem, List.forall_mem_cons.mpr ⟨by k_mem, List.forall_mem_cons.mpr ⟨by k_mem, List.forall_mem_cons.mpr ⟨by k_mem, List.forall_mem_cons.mpr ⟨by k_mem, List.forall_mem_cons.mpr ⟨by k_mem, List.forall_mem_cons.mpr ⟨by k_mem, List.forall_mem_cons.mpr ⟨by k_mem, ?_⟩⟩⟩⟩⟩⟩⟩⟩
        (intro q9 hq9; repeat (first | exact hq9 | refine List.Mem.tail _ ?_))
      clear N5 N3 F3 hI5 hR
      k_dflt (refine LCg.ListComp_U (F₀ := F5) (by with_unfolding_all rfl) (by decide) (by rfl) (by decide) (by rfl) ?_)
      repeat' (first | (k_unfold; (try dsimp only)) | (k_end; wrow_close) | ((fail_if_success (with_reducible show LCg.CompSrc _ _ _ _ _ _ _ _ _ _ _ _ _ _)); walk1))
      rename IsRange _ _ _ _ _ _ _ _ => hR
      rename Fr _ _ _ _ => F3
      rename News _ _ _ _ => N3
      refine LCg.CompSrc.range (n := (shownOf n l).length) (by rfl) F3 N3 hR (small_one (by omega) (by omega) (by omega) (by omega)) (by rw [rangeSize_one]; split <;> omega) (by (simp only [sizeLine]); omega) ?_
      intro g2
      refine comp_gen (fun i y => ∃ t : Tok, y = Value.str (Txt.mul (Txt.mul (Str.ofString " ") (0 + ((i : Nat) : Int)) ++ Str.ofString "\t") ((shownOf n l).getD (0 + ((i : Nat) : Int)).toNat 0)) t) ?_ ?_
      · intro i v ys I oI C oC Dd m₂ h tk E' hi hP hC hx F₅ N₅ off ne
        obtain ⟨t, rfl⟩ := hP
        have hi2 : (0 + ((i : Nat) : Int)).toNat < (shownOf n l).length := by omega
        have hkb : 0 ≤ (shownOf n l).getD (0 + ((i : Nat) : Int)).toNat 0 ∧ (shownOf n l).getD (0 + ((i : Nat) : Int)).toNat 0 < 8 := by
          rw [List.getD_eq_getElem?_getD, List.getElem?_eq_getElem hi2]
          exact H.shown _ (List.getElem_mem hi2)
        obtain ⟨hkb1, hkb2⟩ := hkb
        k_steps
        rename Fr _ _ _ _ => F6
        rename News _ _ _ _ => N6
        refine LCg.CompEnd.intro F6 N6 _ (fun p hp => hp) off trivial ⟨rfl, _, rfl⟩
      · intro ys hl9 hr9
        have hstr : StrsAre ys (((List.range (shownOf n l).length).map (piece n l)).map text) := by
          have := strs_of_get (fun j => text (piece n l j)) (ys := ys) (k := 0) hl9 (fun i y hy => by
            obtain ⟨t, e⟩ := hr9 i y hy
            exact ⟨t, by rw [e, piece_text, Nat.zero_add]⟩)
          rw [List.map_map]
          have e2 : ((List.range (shownOf n l).length).map fun i => text (piece n l (0 + i))) = (List.range (shownOf n l).length).map (text ∘ piece n l) := List.map_congr_left fun i _ => by rw [Nat.zero_add]; rfl
          rw [e2] at this
          exact this
        have hal := H.alen
        rw [anew_is, List.length_append] at hal
        unfold LCg.FinE
        intro D6 h6 tk6 F6 N6 off6
        clear hr9 off6
        repeat' (first | (k_unfold; (try dsimp only)) | (k_end; wrow_close) | ((fail_if_success (with_reducible show wpAny _ _ (call (Value.builtin "str.join") _) _ _ _)); walk1))
        refine' join_listW ?jl ?ji ?jb ?jc ?_
        case jl => exact News.isList (by k_asm) (by k_mem)
        case ji => exact hstr
        case jb => decide
        case jc =>
          rw [sum_texts, List.length_map, List.length_map, List.length_range]
          omega
        intro t9 k9
        rw [join_texts]
        have htx := text_len (((List.range (shownOf n l).length).map (piece n l)).flatten)
        obtain ⟨htb1, htb2⟩ := H.tail
        repeat' (first | (k_unfold; (try dsimp only)) | (k_end; wrow_close) | ((fail_if_success (with_reducible show wpAny _ _ (call (Value.ref 154) _) _ _ _)); walk1))
        rw [show text (((List.range (shownOf n l).length).map (piece n l)).flatten) ++ Txt.mul (Str.ofString " ") (whAll l).2.1 = text (anewOf n l ++ []) by rw [List.append_nil, blank_text, text_append, anew_is]]
        rename Fr _ _ _ _ => F7
        rename News _ _ _ _ => N7
        refine Pure.use (white_init prog w (anewOf n l) [] _ H.alen H.asigns (.inl rfl) (by decide)) B' F7 X' N7 T' ?_ ?_ ?_ trivial ?_
        · exact rfl
        · show dp + 1 + 3 < recursionLimit
          omega
        · show un + 3 + 8 * 3 < cLine
          omega
        rintro r11 h11 tk11 res11 st11 F11 N11 l11 ⟨xf, df, nf, cf, vf, rfl, rawf, f0, f1, f2, f3, f4, g0, g1, g2, gb, hif, rfl⟩
        have lf1 := l11 _ (.head _)
        have lf2 := l11 _ (.tail _ (.head _))
        have lf3 := l11 _ (.tail _ (.tail _ (.head _)))
        have lf4 := l11 _ (.tail _ (.tail _ (.tail _ (.head _))))
        k_lt lf1
        k_lt lf2
        k_lt lf3
        k_lt lf4
        clear l11 st11 N7 F7
        simp only [List.cons_append, List.nil_append] at N11
        repeat' (first | (k_unfold; (try dsimp only)) | (k_end; wrow_close) | ((fail_if_success (with_reducible show wpAny _ _ (exec (Stmt.For _ _ _ _ _) _) _ _ _)); walk1))
        rename Fr _ _ _ _ => F8
        with_unfolding_all refine' For_invVF F8 ?k1 ?k2 ?_
        case k1 => exact rfl
        case k2 => exact rfl
        repeat' (first | (k_unfold; (try dsimp only)) | (k_end; wrow_close) | ((fail_if_success (with_reducible show wpAny _ _ (pyIter _) _ _ _)); walk1))
        rename IsRange _ _ _ _ _ _ _ _ => hR
        rename Fr _ _ _ _ => F8
        rename News _ _ _ _ => N8
        refine loop_range (n := n) (PartJ n l xw xf tl tn0 ((xf, instObj 154 df) :: (df, wDict w (anewOf n l) rawf nf f0 f1 f2 f3 f4 g0 g1 g2) :: (nf, tupObj #[.ref cf, .int (whAll (anewOf n l)).2.1 gb]) :: (cf, tupObj vf.toArray) :: (L' + 1, oT) :: (as, W.listOf vst.toArray ks) :: (xw, instObj 154 dw) :: (dw, wDict w l raw nw u0 u1 u2 u3 u4 v0 v1 v2) :: (nw, tupObj #[.ref cw, .int (whAll l).2.1 vb]) :: (cw, tupObj vw.toArray) :: tb3)) (by rfl) hR ?hs ?hz F8 N8 ?hj ?_ ?_
        case hs => exact small_one (by omega) (by omega) (by omega) (by omega)
        case hz => rw [rangeSize_one]; split <;> omega
        case hj =>
          refine ⟨rfl, rfl, rfl, rfl, ?_⟩
          refine List.forall_mem_cons.mpr ⟨by k_mem, List.forall_mem_cons.mpr ⟨by k_mem, List.forall_mem_cons.mpr ⟨by k_mem, List.forall_mem_cons.mpr ⟨by k_mem, List.forall_mem_cons.mpr ⟨by k_mem, List.forall_mem_cons.mpr ⟨by k_mem, List.forall_mem_cons.mpr ⟨by k_mem, List.forall_mem_cons.mpr ⟨by k_mem, List.forall_mem_cons.mpr ⟨by k_mem, List.forall_mem_cons.mpr ⟨by k_mem, ?_⟩⟩⟩⟩⟩⟩⟩⟩⟩⟩
          (intro q9 hq9; repeat (first | exact hq9 | refine List.Mem.tail _ ?_))
        · intro i t m₁ nx h tk I oI hlt hJ hne F₁ N₁
          obtain ⟨j1, j2, j3, j4, jn⟩ := hJ
          rw [show (1 : Int) + (i : Int) = ((i + 1 : Nat) : Int) by omega] at F₁
          have F₂ : Fr g L' h _ := fr_lit [(Str.ofString "part", .int ((i + 1 : Nat) : Int) t), (Str.ofString "lead", .str (text l) tl), (Str.ofString "size", .int (n : Int) tn0), (Str.ofString "white", .ref xw), (Str.ofString "folded", .ref xf)] (by intro q hq; simp only [List.mem_cons, List.not_mem_nil, or_false] at hq; rcases hq with rfl | rfl | rfl | rfl | rfl; all_goals first | assumption | (simp only []; rw [if_neg (by decide)]; assumption) | exact if_pos rfl) F₁
          have N₂ : News g L' h _ := news_in N₁ jn
          have hof := ne_in hne jn
          clear F₁ N₁ F8 N8 hR j1 j2 j3 j4 jn hne
          repeat' (first | (k_unfold; (try dsimp only)) | (k_end; wrow_close) | ((fail_if_success (with_reducible show wpAny _ _ (call (Value.ref 168) _) _ _ _)); walk1))
          · have hdiv : n % (i + 1) = 0 := by have := fm n (i + 1); omega
            obtain ⟨hdu1, hdu2⟩ := H.due (i + 1) (by omega) (by omega) hdiv
            rename Fr _ _ _ _ => F9
            rename News _ _ _ _ => N9
            refine Pure.use (walk_pure prog w l tl (i + 1) _ ⟨by omega, by omega⟩ H.len) B' F9 X' N9 T' ?_ ?_ ?_ trivial ?_
            · exact rfl
            · show dp + 1 + 2 < recursionLimit
              omega
            · show un + 3 + 8 * 2 < cLine
              omega
            rintro r12 h12 tk12 res12 st12 F12 N12 l12 ⟨al2, aw2, as2, vw2, vs2, tc2, ka2, kw2, ks2, c2, b2, ws2, ss2, hwk2, rfl, rfl, hi21, hi22⟩
            have ec2 : c2 = colOf (i + 1) l := by unfold colOf; rw [← hwk2]
            subst ec2
            have lx1 := l12 _ (.head _)
            k_lt lx1
            clear hwk2 l12 st12 F9 N9
            simp only [List.cons_append, List.nil_append] at N12
            repeat' (first | (k_unfold; (try dsimp only)) | (k_end; wrow_close) | ((fail_if_success (with_reducible show wpAny _ _ (call (Value.ref 123) _) _ _ _)); walk1))
            rename Fr _ _ _ _ => F9
            rename News _ _ _ _ => N9
            refine Pure.use (indent_pure prog w l xw (i + 1) _ ⟨by omega, by omega⟩ H.lead) B' F9 X' N9 T' ?_ ?_ ?_ ?_ ?_
            · exact rfl
            · show dp + 1 + 2 < recursionLimit
              omega
            · show un + 3 + 8 * 2 < cLine
              omega
            · exact ⟨dw, nw, cw, vw, _, ⟨raw, u0, u1, u2, u3, u4, v0, v1, v2, vb, hiw, rfl⟩, fun p hp => by
                simp only [List.mem_cons, List.not_mem_nil, or_false] at hp
                rcases hp with rfl | rfl | rfl | rfl <;> exact (N9 _ (by k_mem)).1⟩
            rintro r13 h13 tk13 res13 st13 F13 N13 l13 ⟨rfl, t13, rfl⟩
            rw [hdu1]
            clear l13 st13 F9 N9
            simp only [List.nil_append] at N13
            repeat' (first | (k_unfold; (try dsimp only)) | (k_end; wrow_close) | ((fail_if_success (with_reducible show wpAny _ _ (call (Value.ref 123) _) _ _ _)); walk1))
            refine Pure.use (indent_pure prog w (anewOf n l) xf (i + 1) _ ⟨by omega, by omega⟩ H.alead) B' F13 X' N13 T' ?_ ?_ ?_ ?_ ?_
            · exact rfl
            · show dp + 1 + 2 < recursionLimit
              omega
            · show un + 3 + 8 * 2 < cLine
              omega
            · exact ⟨df, nf, cf, vf, _, ⟨rawf, f0, f1, f2, f3, f4, g0, g1, g2, gb, hif, rfl⟩, fun p hp => by
                simp only [List.mem_cons, List.not_mem_nil, or_false] at hp
                rcases hp with rfl | rfl | rfl | rfl <;> exact (N13 _ (by k_mem)).1⟩
            rintro r14 h14 tk14 res14 st14 F14 N14 l14 ⟨rfl, t14, rfl⟩
            rw [hdu2]
            clear l14 st14 F13 N13
            simp only [List.nil_append] at N14
            k_steps
            rename Fr _ _ _ _ => F15
            rename News _ _ _ _ => N15
            refine LEnd.intro F15 N15 (by k_mem) ?_ hof ⟨rfl, rfl, rfl, rfl, fun _ hp => hp⟩
            intro q9 hq9; repeat (first | exact hq9 | refine List.Mem.tail _ ?_)
          · rename Fr _ _ _ _ => F9
            rename News _ _ _ _ => N9
            refine LEnd.intro F9 N9 (by k_mem) (fun p hp => .tail _ hp) hof ⟨rfl, rfl, rfl, rfl, fun _ hp => hp⟩
        · intro m₁ nx h tk hJ F₁ N₁
          obtain ⟨j1, j2, j3, j4, jn⟩ := hJ
          have N₂ : News g L' h _ := news_of N₁ jn
          clear N₁ F8 N8 hR j1 j2 j3 j4 jn
          k_steps
          try dsimp only
          refine hQo _ _ ?_; try dsimp only
          refine leaveK_ F₁ N₂ ?_
          intro kF kN
          refine hret _ _ _ [] tb3 (fun b o hb e => F₁.keep b o (hg1 b o hb e)) (fun _ hp => nomatch hp) ht3 (fun p hp => ⟨(N₂ p (by (repeat (first | exact hp | refine List.Mem.tail _ ?_)))).1, hin3 p hp⟩) ⟨rfl, rfl⟩

/-- between two halvings -/
inductive BisJ (al f9 : Addr) (x : Int) (tx : Tok) (cnt len : Nat) (ow : List (Addr × Obj)) (h0 : Heap) (tb : List (Addr × Obj)) (k : Nat) (m : Str → Option Value) (nx : List (Addr × Obj)) : Prop
  | mk (lo hi : Nat) (tlo thi : Tok) (tb' : List (Addr × Obj)) (e0 : k = hi - lo) (e1 : lo ≤ cnt) (e2 : cnt ≤ hi) (e3 : hi ≤ len) (e4 : TabO ow tb') (e5 : TabIn h0 tb tb') (e6 : m (Str.ofString "a") = some (.ref al)) (e7 : m (Str.ofString "x") = some (.int x tx)) (e8 : m (Str.ofString "lo") = some (.int (lo : Int) tlo)) (e9 : m (Str.ofString "hi") = some (.int (hi : Int) thi)) (e10 : m (Str.ofString "key") = some (.ref f9)) (e11 : ∀ p ∈ tb', p ∈ nx)
theorem bisr_t (prog : Program) (w : World) (al f9 : Addr) (vr : List Value) (kr : Nat) (row : List Nat) (x : Int) (tx : Tok) (ow : List (Addr × Obj)) (dk n : Nat) (key : Nat → Int) (hK : KeyAt prog w f9 ow dk n key) (hf : ∀ h, Stands ow h → FnAt f9 h)
    (hr : IntsAre vr (castRow row)) (hm : (al, W.listOf vr.toArray kr) ∈ ow) (hN : ∀ k ∈ row, k < n) (hs : Srt (row.map key)) (hlen : row.length ≤ 60) (vs : List Value) (hvs : vs = [.ref al, .int x tx] ∨ ∃ t0 : Tok, vs = [.ref al, .int x tx, .int 0 t0, .none]) :
    TSpec2 (TabO ow) (TabO ow) prog w 74 vs [(Str.ofString "key", .ref f9)] (dk + 2) (Stands ow) (fun _ res r => res = [] ∧ ∃ t, r = .int ((cntLe (row.map key) x : Nat) : Int) t) := by
  intro p loose mean mg mb dp un gd cn cs a₀ ccd cl outer A₀ base h₀ L m tb s Q E B F X N T C1 C2 ht hk hdp hun hpre hret
  refine wpAny_call ?_
  k_dflt (refine' enterB (tb := tb) (fun t0 : Tok => [(Str.ofString "a", .ref al), (Str.ofString "x", .int x tx), (Str.ofString "lo", .int 0 t0), (Str.ofString "hi", .none), (Str.ofString "key", .ref f9)]) B F X N T ?ka ?kl ?kk ?h1 ?h2 ?h3 ?h4 ?_ ?c2 ?c3 ?c4 ?c5)
  case ka => exact rfl
  case kl => exact rfl
  case kk => exact hk
  case h1 => k_is
  case h2 => k_is
  case h3 => ktr_room
  case h4 =>
    rcases hvs with rfl | ⟨t0, rfl⟩
    · refine ⟨281, [(Str.ofString "a", .ref al), (Str.ofString "x", .int x tx), (Str.ofString "lo", .int 0 281), (Str.ofString "hi", .none), (Str.ofString "key", .ref f9)], kp_binds (X.keeps F.keep) (fun S => rfl), locs rfl, ?_⟩
      (intro q hq; simp only [List.mem_cons, List.not_mem_nil, or_false] at hq; rcases hq with rfl | rfl | rfl | rfl | rfl <;> rfl)
    · refine ⟨t0, [(Str.ofString "a", .ref al), (Str.ofString "x", .int x tx), (Str.ofString "lo", .int 0 t0), (Str.ofString "hi", .none), (Str.ofString "key", .ref f9)], kp_binds (X.keeps F.keep) (fun S => rfl), locs rfl, ?_⟩
      (intro q hq; simp only [List.mem_cons, List.not_mem_nil, or_false] at hq; rcases hq with rfl | rfl | rfl | rfl | rfl <;> rfl)
  case c2 => exact rfl
  case c3 => exact rfl
  case c4 => exact rfl
  case c5 => decide
  intro t0 m9 g L' h₁ tk₁ hg1 hg2 hL F' N' B' X' T'
  have hst : Stands ow g := hpre.base ht.2 hg1
  have hin : TabIn s.heap tb tb := TabIn.refl
  have hSq0 : IsSeq g al vr := .inl ⟨_, hst _ hm, rfl, kr, rfl⟩
  have hFn : FnAt f9 g := hf g hst
  have hlr := hr.length
  have hcl := cntLe_len (row.map key) x
  simp only [castRow, List.length_map] at hlr hcl
  generalize hcnt : cntLe (row.map key) x = cnt at *
  clear F X T B N hvs
  refine post_hide ?_
  intro Qo hQo
  try dsimp only
  try k_fold
  repeat' (first | (k_unfold; (try dsimp only)) | (k_end; wrow_close) | ((fail_if_success (with_reducible show wpAny _ _ (exec (Stmt.While _ _ _ _) _) _ _ _)); walk1))
  rename Fr _ _ _ _ => F3
  rename News _ _ _ _ => N3
  refine While_inv2 (BisJ al f9 x tx cnt row.length ow s.heap tb) (n₀ := vr.length - 0) F3 N3 ?hj ?_ ?he
  case hj => exact ⟨0, vr.length, _, _, tb, rfl, Nat.zero_le _, by omega, by omega, ht, hin, rfl, rfl, rfl, rfl, rfl, fun _ hp => hp⟩
  case he => passes_own
  intro k m₁ nx hh tk F₁ N₁ hJ
  obtain ⟨lo, hi, tlo, thi, tb1, hk1, hlo, hhi, hle, ht1, hin1, j1, j2, j3, j4, j5, jn⟩ := hJ
  have F₂ : Fr g L' hh _ := fr_lit [(Str.ofString "a", .ref al), (Str.ofString "x", .int x tx), (Str.ofString "lo", .int (lo : Int) tlo), (Str.ofString "hi", .int (hi : Int) thi), (Str.ofString "key", .ref f9)] (by intro q hq; simp only [List.mem_cons, List.not_mem_nil, or_false] at hq; rcases hq with rfl | rfl | rfl | rfl | rfl <;> assumption) F₁
  have N₂ : News g L' hh _ := news_of N₁ jn
  clear F₁ N₁ F3 N3 jn j1 j2 j3 j4 j5 ht hin
  have hm2 : ((lo : Int) + (hi : Int)).fdiv 2 = (((lo + hi) / 2 : Nat) : Int) := by rw [← Int.natCast_add]; exact fd (lo + hi) 2
  k_steps
  · rename Fr _ _ _ _ => F3
    rename News _ _ _ _ => N3
    have hlt : lo < hi := by omega
    have hmid : (lo + hi) / 2 < row.length := by omega
    rw [hm2] at F3 ⊢
    have e9 : (castRow row).getD (((lo + hi) / 2 : Nat) : Int).toNat 0 = ((row[(lo + hi) / 2] : Nat) : Int) := by
      rw [Int.toNat_natCast]
      simp [castRow, List.getD, hmid]
    rw [e9]
    refine TSpec2.use [] (hK row[(lo + hi) / 2] _ (hN _ (List.getElem_mem hmid))) B' F3 X' N3 T' C1 C2 ht1 ?_ ?_ ?_ (hst.up F3) (fun _ hp => hp) (fun _ hp => nomatch hp) (fun _ hp => nomatch hp) ?_
    · exact rfl
    · show dp + 1 + dk < recursionLimit
      omega
    · show un + 3 + 8 * dk < cLine
      omega
    rintro r4 h4 tk4 res4 tb2 ht2 hs2 F4 N4 l4 lL4 _ ⟨rfl, t4, rfl⟩
    have hin2 := hin1.step hs2 (size_le hL F3)
    simp only [List.nil_append] at N4
    clear l4 lL4 hin1 hs2 ht1 N3 F3
    k_steps
    · rename Fr _ _ _ _ => F5
      rename News _ _ _ _ => N5
      have hx : x < key row[(lo + hi) / 2] := by omega
      refine ⟨_, _, _, _, (lo + hi) / 2 - lo, rfl, F5, N5, by omega, lo, (lo + hi) / 2, _, _, tb2, rfl, hlo, ?_, by omega, ht2, hin2, rfl, rfl, rfl, rfl, rfl, fun _ hp => hp⟩
      rw [← hcnt]
      exact cntLe_hi hs (by rw [List.length_map]; exact hmid) (by rw [List.getElem_map]; exact hx)
    · rename Fr _ _ _ _ => F5
      rename News _ _ _ _ => N5
      have hx : key row[(lo + hi) / 2] ≤ x := by omega
      refine ⟨_, _, _, _, hi - ((lo + hi) / 2 + 1), rfl, F5, N5, by omega, (lo + hi) / 2 + 1, hi, _, _, tb2, rfl, ?_, hhi, hle, ht2, hin2, rfl, rfl, rfl, rfl, rfl, fun _ hp => hp⟩
      rw [← hcnt]
      exact cntLe_lo hs (by rw [List.length_map]; exact hmid) (by rw [List.getElem_map]; exact hx)
  · have hlc : lo = cnt := by omega
    subst hlc
    try dsimp only
    refine hQo _ _ ?_; try dsimp only
    refine leaveK_ F₂ N₂ ?_
    intro kF kN
    refine hret _ _ _ [] tb1 (fun b o hb e => F₂.keep b o (hg1 b o hb e)) (fun _ hp => nomatch hp) ht1 (fun p hp => ⟨(N₂ p hp).1, hin1 p hp⟩) ⟨rfl, _, rfl⟩

-- needs: L_bisr
theorem bisl_t (prog : Program) (w : World) (al f9 : Addr) (vr : List Value) (kr : Nat) (row : List Nat) (x : Int) (tx : Tok) (ow : List (Addr × Obj)) (dk n : Nat) (key : Nat → Int) (hK : KeyAt prog w f9 ow dk n key) (hf : ∀ h, Stands ow h → FnAt f9 h)
    (hr : IntsAre vr (castRow row)) (hm : (al, W.listOf vr.toArray kr) ∈ ow) (hN : ∀ k ∈ row, k < n) (hs : Srt (row.map key)) (hlen : row.length ≤ 60) (vs : List Value) (hvs : vs = [.ref al, .int x tx] ∨ ∃ t0 : Tok, vs = [.ref al, .int x tx, .int 0 t0, .none]) :
    TSpec2 (TabO ow) (TabO ow) prog w 92 vs [(Str.ofString "key", .ref f9)] (dk + 2) (Stands ow) (fun _ res r => res = [] ∧ ∃ t, r = .int ((cntLt (row.map key) x : Nat) : Int) t) := by
  intro p loose mean mg mb dp un gd cn cs a₀ ccd cl outer A₀ base h₀ L m tb s Q E B F X N T C1 C2 ht hk hdp hun hpre hret
  refine wpAny_call ?_
  k_dflt (refine' enterB (tb := tb) (fun t0 : Tok => [(Str.ofString "a", .ref al), (Str.ofString "x", .int x tx), (Str.ofString "lo", .int 0 t0), (Str.ofString "hi", .none), (Str.ofString "key", .ref f9)]) B F X N T ?ka ?kl ?kk ?h1 ?h2 ?h3 ?h4 ?_ ?c2 ?c3 ?c4 ?c5)
  case ka => exact rfl
  case kl => exact rfl
  case kk => exact hk
  case h1 => k_is
  case h2 => k_is
  case h3 => ktr_room
  case h4 =>
    rcases hvs with rfl | ⟨t0, rfl⟩
    · refine ⟨308, [(Str.ofString "a", .ref al), (Str.ofString "x", .int x tx), (Str.ofString "lo", .int 0 308), (Str.ofString "hi", .none), (Str.ofString "key", .ref f9)], kp_binds (X.keeps F.keep) (fun S => rfl), locs rfl, ?_⟩
      (intro q hq; simp only [List.mem_cons, List.not_mem_nil, or_false] at hq; rcases hq with rfl | rfl | rfl | rfl | rfl <;> rfl)
    · refine ⟨t0, [(Str.ofString "a", .ref al), (Str.ofString "x", .int x tx), (Str.ofString "lo", .int 0 t0), (Str.ofString "hi", .none), (Str.ofString "key", .ref f9)], kp_binds (X.keeps F.keep) (fun S => rfl), locs rfl, ?_⟩
      (intro q hq; simp only [List.mem_cons, List.not_mem_nil, or_false] at hq; rcases hq with rfl | rfl | rfl | rfl | rfl <;> rfl)
  case c2 => exact rfl
  case c3 => exact rfl
  case c4 => exact rfl
  case c5 => decide
  intro t0 m9 g L' h₁ tk₁ hg1 hg2 hL F' N' B' X' T'
  have hst : Stands ow g := hpre.base ht.2 hg1
  have hin : TabIn s.heap tb tb := TabIn.refl
  have hSq0 : IsSeq g al vr := .inl ⟨_, hst _ hm, rfl, kr, rfl⟩
  have hFn : FnAt f9 g := hf g hst
  have hlr := hr.length
  have hcl := cntLt_len (row.map key) x
  simp only [castRow, List.length_map] at hlr hcl
  generalize hcnt : cntLt (row.map key) x = cnt at *
  clear F X T B N hvs
  refine post_hide ?_
  intro Qo hQo
  try dsimp only
  try k_fold
  repeat' (first | (k_unfold; (try dsimp only)) | (k_end; wrow_close) | ((fail_if_success (with_reducible show wpAny _ _ (exec (Stmt.While _ _ _ _) _) _ _ _)); walk1))
  rename Fr _ _ _ _ => F3
  rename News _ _ _ _ => N3
  refine While_inv2 (BisJ al f9 x tx cnt row.length ow s.heap tb) (n₀ := vr.length - 0) F3 N3 ?hj ?_ ?he
  case hj => exact ⟨0, vr.length, _, _, tb, rfl, Nat.zero_le _, by omega, by omega, ht, hin, rfl, rfl, rfl, rfl, rfl, fun _ hp => hp⟩
  case he => passes_own
  intro k m₁ nx hh tk F₁ N₁ hJ
  obtain ⟨lo, hi, tlo, thi, tb1, hk1, hlo, hhi, hle, ht1, hin1, j1, j2, j3, j4, j5, jn⟩ := hJ
  have F₂ : Fr g L' hh _ := fr_lit [(Str.ofString "a", .ref al), (Str.ofString "x", .int x tx), (Str.ofString "lo", .int (lo : Int) tlo), (Str.ofString "hi", .int (hi : Int) thi), (Str.ofString "key", .ref f9)] (by intro q hq; simp only [List.mem_cons, List.not_mem_nil, or_false] at hq; rcases hq with rfl | rfl | rfl | rfl | rfl <;> assumption) F₁
  have N₂ : News g L' hh _ := news_of N₁ jn
  clear F₁ N₁ F3 N3 jn j1 j2 j3 j4 j5 ht hin
  have hm2 : ((lo : Int) + (hi : Int)).fdiv 2 = (((lo + hi) / 2 : Nat) : Int) := by rw [← Int.natCast_add]; exact fd (lo + hi) 2
  k_steps
  · rename Fr _ _ _ _ => F3
    rename News _ _ _ _ => N3
    have hlt : lo < hi := by omega
    have hmid : (lo + hi) / 2 < row.length := by omega
    rw [hm2] at F3 ⊢
    have e9 : (castRow row).getD (((lo + hi) / 2 : Nat) : Int).toNat 0 = ((row[(lo + hi) / 2] : Nat) : Int) := by
      rw [Int.toNat_natCast]
      simp [castRow, List.getD, hmid]
    rw [e9]
    refine TSpec2.use [] (hK row[(lo + hi) / 2] _ (hN _ (List.getElem_mem hmid))) B' F3 X' N3 T' C1 C2 ht1 ?_ ?_ ?_ (hst.up F3) (fun _ hp => hp) (fun _ hp => nomatch hp) (fun _ hp => nomatch hp) ?_
    · exact rfl
    · show dp + 1 + dk < recursionLimit
      omega
    · show un + 3 + 8 * dk < cLine
      omega
    rintro r4 h4 tk4 res4 tb2 ht2 hs2 F4 N4 l4 lL4 _ ⟨rfl, t4, rfl⟩
    have hin2 := hin1.step hs2 (size_le hL F3)
    simp only [List.nil_append] at N4
    clear l4 lL4 hin1 hs2 ht1 N3 F3
    k_steps
    · rename Fr _ _ _ _ => F5
      rename News _ _ _ _ => N5
      have hx : key row[(lo + hi) / 2] < x := by omega
      refine ⟨_, _, _, _, hi - ((lo + hi) / 2 + 1), rfl, F5, N5, by omega, (lo + hi) / 2 + 1, hi, _, _, tb2, rfl, ?_, hhi, hle, ht2, hin2, rfl, rfl, rfl, rfl, rfl, fun _ hp => hp⟩
      rw [← hcnt]
      exact cntLt_lo hs (by rw [List.length_map]; exact hmid) (by rw [List.getElem_map]; exact hx)
    · rename Fr _ _ _ _ => F5
      rename News _ _ _ _ => N5
      have hx : x ≤ key row[(lo + hi) / 2] := by omega
      refine ⟨_, _, _, _, (lo + hi) / 2 - lo, rfl, F5, N5, by omega, lo, (lo + hi) / 2, _, _, tb2, rfl, hlo, ?_, by omega, ht2, hin2, rfl, rfl, rfl, rfl, rfl, fun _ hp => hp⟩
      rw [← hcnt]
      exact cntLt_hi hs (by rw [List.length_map]; exact hmid) (by rw [List.getElem_map]; exact hx)
  · have hlc : lo = cnt := by omega
    subst hlc
    try dsimp only
    refine hQo _ _ ?_; try dsimp only
    refine leaveK_ F₂ N₂ ?_
    intro kF kN
    refine hret _ _ _ [] tb1 (fun b o hb e => F₂.keep b o (hg1 b o hb e)) (fun _ hp => nomatch hp) ht1 (fun p hp => ⟨(N₂ p hp).1, hin1 p hp⟩) ⟨rfl, _, rfl⟩

-- needs: L_bisr L_bisl
def RowTab (al : Addr) (row : List Nat) (ow tb : List (Addr × Obj)) : Prop := ∃ (vs : List Value) (kk : Nat) (tb0 : List (Addr × Obj)), tb = (al, W.listOf vs.toArray kk) :: tb0 ∧ IntsAre vs (castRow row) ∧ TabO ow tb0 ∧ ∀ q ∈ tb0, q.1 ≠ al
theorem KeyAt.more {prog : Program} {w : World} {f : Addr} {ow ow' : List (Addr × Obj)} {d n : Nat} {key : Nat → Int} (h : KeyAt prog w f ow d n key) (hs : ∀ p ∈ ow, p ∈ ow') : KeyAt prog w f ow' d n key := fun k t hk => (h k t hk).moreO hs
theorem put_ints {vs : List Value} {row : List Nat} {i k : Nat} {t : Tok} (h : IntsAre vs (castRow row)) (hi : i ≤ row.length) : IntsAre (kl_ins vs ((i : Nat) : Int) (.int ((k : Nat) : Int) t)) (castRow (putAt row i k)) := by
  have hl := h.length
  rw [castRow, List.length_map] at hl
  unfold kl_ins
  have e : (if ((i : Nat) : Int) < 0 then (((i : Nat) : Int) + (vs.length : Int)).toNat else min ((i : Nat) : Int).toNat vs.length) = i := by
    rw [if_neg (by omega)]; omega
  rw [e]
  unfold castRow putAt at *
  rw [List.map_append, List.map_cons, List.map_take, List.map_drop]
  refine ints_app (h.take i) (.cons _ _ (h.drop i))
theorem fits_nat {i : Nat} (h : i ≤ 60) : Builtin.List.listFitsIndex ((i : Nat) : Int) = true := by
  unfold Builtin.List.listFitsIndex
  simp
  omega
theorem insr_t (prog : Program) (w : World) (al f9 : Addr) (row : List Nat) (k : Nat) (tx : Tok) (ow : List (Addr × Obj)) (dk n : Nat) (key : Nat → Int) (hK : KeyAt prog w f9 ow dk n key) (hf : ∀ h, Stands ow h → FnAt f9 h)
    (hal : ∀ p ∈ ow, p.1 ≠ al) (hN : ∀ k ∈ row, k < n) (hkn : k < n) (hs : Srt (row.map key)) (hlen : row.length ≤ 60) :
    TSpec2 (RowTab al row ow) (RowTab al (putAt row (cntLe (row.map key) (key k)) k) ow) prog w 65 [.ref al, .int (k : Int) tx] [(Str.ofString "key", .ref f9)] (dk + 4) (Stands ow) (fun _ res r => res = [] ∧ r = .none) := by
  intro p loose mean mg mb dp un gd cn cs a₀ ccd cl outer A₀ base h₀ L m tb s Q E B F X N T C1 C2 ht hk hdp hun hpre hret
  obtain ⟨vr, kr, tb0, rfl, hr, ht0, hn0⟩ := ht
  have hst0 : Stands ((al, W.listOf vr.toArray kr) :: ow) s.heap := List.forall_mem_cons.mpr ⟨(N _ (.head _)).1, hpre⟩
  have ht1 : TabO ((al, W.listOf vr.toArray kr) :: ow) tb0 := ⟨ht0.1, List.forall_mem_cons.mpr ⟨hn0, ht0.2⟩⟩
  have hpo : ∀ p ∈ ow, ∀ q ∈ (al, W.listOf vr.toArray kr) :: tb0, q.1 ≠ p.1 := fun p hp => List.forall_mem_cons.mpr ⟨Ne.symm (hal p hp), ht0.2 p hp⟩
  refine wpAny_call ?_
  k_dflt (refine' enterB (tb := (al, W.listOf vr.toArray kr) :: tb0) (fun t0 : Tok => [(Str.ofString "a", .ref al), (Str.ofString "x", .int (k : Int) tx), (Str.ofString "lo", .int 0 t0), (Str.ofString "hi", .none), (Str.ofString "key", .ref f9)]) B F X N T ?ka ?kl ?kk ?h1 ?h2 ?h3 ?h4 ?_ ?c2 ?c3 ?c4 ?c5)
  case ka => exact rfl
  case kl => exact rfl
  case kk => exact hk
  case h1 => k_is
  case h2 => k_is
  case h3 => ktr_room
  case h4 =>
    refine ⟨268, [(Str.ofString "a", .ref al), (Str.ofString "x", .int (k : Int) tx), (Str.ofString "lo", .int 0 268), (Str.ofString "hi", .none), (Str.ofString "key", .ref f9)], kp_binds (X.keeps F.keep) (fun S => rfl), locs rfl, ?_⟩
    (intro q hq; simp only [List.mem_cons, List.not_mem_nil, or_false] at hq; rcases hq with rfl | rfl | rfl | rfl | rfl <;> rfl)
  case c2 => exact rfl
  case c3 => exact rfl
  case c4 => exact rfl
  case c5 => decide
  intro t0 m9 g L' h₁ tk₁ hg1 hg2 hL F' N' B' X' T'
  have hst : Stands ow g := hpre.base hpo hg1
  have hFn : FnAt f9 g := hf g hst
  have hin : TabIn s.heap ((al, W.listOf vr.toArray kr) :: tb0) tb0 := fun p hp => .inr (List.mem_map_of_mem (.tail _ hp))
  clear F X T B N
  refine post_hide ?_
  intro Qo hQo
  try dsimp only
  try k_fold
  k_steps
  rename Fr _ _ _ _ => F3
  rename News _ _ _ _ => N3
  refine TSpec2.use [(al, W.listOf vr.toArray kr)] ((hK.more (ow' := (al, W.listOf vr.toArray kr) :: ow) (fun p hp => .tail _ hp)) k _ hkn) B' F3 X' N3 T' C1 C2 ht1 ?_ ?_ ?_ (List.forall_mem_cons.mpr ⟨(N3 _ (.head _)).1, hst.up F3⟩) (fun p hp => .tail _ hp) (List.forall_mem_cons.mpr ⟨.head _, List.forall_mem_nil _⟩) (List.forall_mem_cons.mpr ⟨hn0, List.forall_mem_nil _⟩) ?_
  · exact rfl
  · show dp + 1 + dk < recursionLimit
    omega
  · show un + 3 + 8 * dk < cLine
    omega
  rintro r4 h4 tk4 res4 tb2 ht2 hs2 F4 N4 l4 lL4 o4 ⟨rfl, t4, rfl⟩
  have hin2 := hin.step hs2 (size_le hL F3)
  simp only [List.nil_append, List.cons_append] at N4
  clear l4 lL4 hin hs2 ht1 N3 F3
  k_steps
  with_unfolding_all refine' TSpec2.use [(al, W.listOf vr.toArray kr)] (bisr_t prog w al f9 vr kr row (key k) t4 ((al, W.listOf vr.toArray kr) :: ow) dk n key (hK.more (fun p hp => .tail _ hp)) (fun h x => hf h (x.sub fun p hp => .tail _ hp)) hr (.head _) hN hs hlen _ (.inr ⟨t0, rfl⟩)) B' F4 X' N4 T' C1 C2 ht2 ?k1 ?k2 ?k3 (List.forall_mem_cons.mpr ⟨(N4 _ (.head _)).1, hst.up F4⟩) (fun p hp => .tail _ hp) (List.forall_mem_cons.mpr ⟨.head _, List.forall_mem_nil _⟩) (List.forall_mem_cons.mpr ⟨ht2.2 _ (.head _), List.forall_mem_nil _⟩) ?_
  case k1 => exact rfl
  case k2 =>
    show dp + 1 + (dk + 2) < recursionLimit
    omega
  case k3 =>
    show un + 3 + 8 * (dk + 2) < cLine
    omega
  rintro r5 h5 tk5 res5 tb3 ht3 hs3 F5 N5 l5 lL5 o5 ⟨rfl, t5, rfl⟩
  have hin3 := hin2.step hs3 (size_le hL F4)
  simp only [List.nil_append, List.cons_append] at N5
  have hcl := cntLe_len (row.map key) (key k)
  rw [List.length_map] at hcl
  have hlr := hr.length
  rw [castRow, List.length_map] at hlr
  generalize hcnt : cntLe (row.map key) (key k) = cnt at *
  clear l5 lL5 hin2 hs3 ht2 N4 F4 o4 o5
  k_steps
  rename Fr _ _ _ _ => F6
  rename News _ _ _ _ => N6
  have hput := put_ints (i := cnt) (k := k) (t := tx) hr hcl
  refine kl_insert F6 N6 (fits_nat (by omega)) rfl (.head (ht3.2 _ (.head _))) (by (simp only [sizeLine, Array.length_toList, List.size_toArray]); omega) ?_
  intro h7 F7 N7
  k_steps
  try dsimp only
  refine hQo _ _ ?_; try dsimp only
  refine leaveK_ F7 N7 ?_
  intro kF kN
  have hout : ∀ b o, b ∉ ((al, W.listOf vr.toArray kr) :: tb0).map (·.1) → s.heap.get? b = some o → h7.get? b = some o := fun b o hb e => F7.keep b o (hg1 b o hb e)
  refine hret _ _ _ [] ((al, W.listOf (kl_ins vr ((cnt : Nat) : Int) (.int (k : Int) tx)).toArray (kr + 1)) :: tb3) hout (fun _ hp => nomatch hp) ⟨_, _, tb3, rfl, hput, ht3.sub (fun p hp => .tail _ hp), ht3.2 _ (.head _)⟩ (List.forall_mem_cons.mpr ⟨⟨(N7 _ (.head _)).1, .inr (by simp)⟩, fun p hp => ⟨(N7 p (.tail _ hp)).1, hin3 p hp⟩⟩) ⟨rfl, rfl⟩

-- needs: L_bisr L_bisl L_insr
theorem insl_t (prog : Program) (w : World) (al f9 : Addr) (row : List Nat) (k : Nat) (tx : Tok) (ow : List (Addr × Obj)) (dk n : Nat) (key : Nat → Int) (hK : KeyAt prog w f9 ow dk n key) (hf : ∀ h, Stands ow h → FnAt f9 h)
    (hal : ∀ p ∈ ow, p.1 ≠ al) (hN : ∀ k ∈ row, k < n) (hkn : k < n) (hs : Srt (row.map key)) (hlen : row.length ≤ 60) :
    TSpec2 (RowTab al row ow) (RowTab al (putAt row (cntLt (row.map key) (key k)) k) ow) prog w 83 [.ref al, .int (k : Int) tx] [(Str.ofString "key", .ref f9)] (dk + 4) (Stands ow) (fun _ res r => res = [] ∧ r = .none) := by
  intro p loose mean mg mb dp un gd cn cs a₀ ccd cl outer A₀ base h₀ L m tb s Q E B F X N T C1 C2 ht hk hdp hun hpre hret
  obtain ⟨vr, kr, tb0, rfl, hr, ht0, hn0⟩ := ht
  have hst0 : Stands ((al, W.listOf vr.toArray kr) :: ow) s.heap := List.forall_mem_cons.mpr ⟨(N _ (.head _)).1, hpre⟩
  have ht1 : TabO ((al, W.listOf vr.toArray kr) :: ow) tb0 := ⟨ht0.1, List.forall_mem_cons.mpr ⟨hn0, ht0.2⟩⟩
  have hpo : ∀ p ∈ ow, ∀ q ∈ (al, W.listOf vr.toArray kr) :: tb0, q.1 ≠ p.1 := fun p hp => List.forall_mem_cons.mpr ⟨Ne.symm (hal p hp), ht0.2 p hp⟩
  refine wpAny_call ?_
  k_dflt (refine' enterB (tb := (al, W.listOf vr.toArray kr) :: tb0) (fun t0 : Tok => [(Str.ofString "a", .ref al), (Str.ofString "x", .int (k : Int) tx), (Str.ofString "lo", .int 0 t0), (Str.ofString "hi", .none), (Str.ofString "key", .ref f9)]) B F X N T ?ka ?kl ?kk ?h1 ?h2 ?h3 ?h4 ?_ ?c2 ?c3 ?c4 ?c5)
  case ka => exact rfl
  case kl => exact rfl
  case kk => exact hk
  case h1 => k_is
  case h2 => k_is
  case h3 => ktr_room
  case h4 =>
    refine ⟨295, [(Str.ofString "a", .ref al), (Str.ofString "x", .int (k : Int) tx), (Str.ofString "lo", .int 0 295), (Str.ofString "hi", .none), (Str.ofString "key", .ref f9)], kp_binds (X.keeps F.keep) (fun S => rfl), locs rfl, ?_⟩
    (intro q hq; simp only [List.mem_cons, List.not_mem_nil, or_false] at hq; rcases hq with rfl | rfl | rfl | rfl | rfl <;> rfl)
  case c2 => exact rfl
  case c3 => exact rfl
  case c4 => exact rfl
  case c5 => decide
  intro t0 m9 g L' h₁ tk₁ hg1 hg2 hL F' N' B' X' T'
  have hst : Stands ow g := hpre.base hpo hg1
  have hFn : FnAt f9 g := hf g hst
  have hin : TabIn s.heap ((al, W.listOf vr.toArray kr) :: tb0) tb0 := fun p hp => .inr (List.mem_map_of_mem (.tail _ hp))
  clear F X T B N
  refine post_hide ?_
  intro Qo hQo
  try dsimp only
  try k_fold
  k_steps
  rename Fr _ _ _ _ => F3
  rename News _ _ _ _ => N3
  refine TSpec2.use [(al, W.listOf vr.toArray kr)] ((hK.more (ow' := (al, W.listOf vr.toArray kr) :: ow) (fun p hp => .tail _ hp)) k _ hkn) B' F3 X' N3 T' C1 C2 ht1 ?_ ?_ ?_ (List.forall_mem_cons.mpr ⟨(N3 _ (.head _)).1, hst.up F3⟩) (fun p hp => .tail _ hp) (List.forall_mem_cons.mpr ⟨.head _, List.forall_mem_nil _⟩) (List.forall_mem_cons.mpr ⟨hn0, List.forall_mem_nil _⟩) ?_
  · exact rfl
  · show dp + 1 + dk < recursionLimit
    omega
  · show un + 3 + 8 * dk < cLine
    omega
  rintro r4 h4 tk4 res4 tb2 ht2 hs2 F4 N4 l4 lL4 o4 ⟨rfl, t4, rfl⟩
  have hin2 := hin.step hs2 (size_le hL F3)
  simp only [List.nil_append, List.cons_append] at N4
  clear l4 lL4 hin hs2 ht1 N3 F3
  k_steps
  with_unfolding_all refine' TSpec2.use [(al, W.listOf vr.toArray kr)] (bisl_t prog w al f9 vr kr row (key k) t4 ((al, W.listOf vr.toArray kr) :: ow) dk n key (hK.more (fun p hp => .tail _ hp)) (fun h x => hf h (x.sub fun p hp => .tail _ hp)) hr (.head _) hN hs hlen _ (.inr ⟨t0, rfl⟩)) B' F4 X' N4 T' C1 C2 ht2 ?k1 ?k2 ?k3 (List.forall_mem_cons.mpr ⟨(N4 _ (.head _)).1, hst.up F4⟩) (fun p hp => .tail _ hp) (List.forall_mem_cons.mpr ⟨.head _, List.forall_mem_nil _⟩) (List.forall_mem_cons.mpr ⟨ht2.2 _ (.head _), List.forall_mem_nil _⟩) ?_
  case k1 => exact rfl
  case k2 =>
    show dp + 1 + (dk + 2) < recursionLimit
    omega
  case k3 =>
    show un + 3 + 8 * (dk + 2) < cLine
    omega
  rintro r5 h5 tk5 res5 tb3 ht3 hs3 F5 N5 l5 lL5 o5 ⟨rfl, t5, rfl⟩
  have hin3 := hin2.step hs3 (size_le hL F4)
  simp only [List.nil_append, List.cons_append] at N5
  have hcl := cntLt_len (row.map key) (key k)
  rw [List.length_map] at hcl
  have hlr := hr.length
  rw [castRow, List.length_map] at hlr
  generalize hcnt : cntLt (row.map key) (key k) = cnt at *
  clear l5 lL5 hin2 hs3 ht2 N4 F4 o4 o5
  k_steps
  rename Fr _ _ _ _ => F6
  rename News _ _ _ _ => N6
  have hput := put_ints (i := cnt) (k := k) (t := tx) hr hcl
  refine kl_insert F6 N6 (fits_nat (by omega)) rfl (.head (ht3.2 _ (.head _))) (by (simp only [sizeLine, Array.length_toList, List.size_toArray]); omega) ?_
  intro h7 F7 N7
  k_steps
  try dsimp only
  refine hQo _ _ ?_; try dsimp only
  refine leaveK_ F7 N7 ?_
  intro kF kN
  have hout : ∀ b o, b ∉ ((al, W.listOf vr.toArray kr) :: tb0).map (·.1) → s.heap.get? b = some o → h7.get? b = some o := fun b o hb e => F7.keep b o (hg1 b o hb e)
  refine hret _ _ _ [] ((al, W.listOf (kl_ins vr ((cnt : Nat) : Int) (.int (k : Int) tx)).toArray (kr + 1)) :: tb3) hout (fun _ hp => nomatch hp) ⟨_, _, tb3, rfl, hput, ht3.sub (fun p hp => .tail _ hp), ht3.2 _ (.head _)⟩ (List.forall_mem_cons.mpr ⟨⟨(N7 _ (.head _)).1, .inr (by simp)⟩, fun p hp => ⟨(N7 p (.tail _ hp)).1, hin3 p hp⟩⟩) ⟨rfl, rfl⟩

-- needs: B_lead C_walk D_white E_digits F_int2 G_div H_divpos I_fold J_ind K_told L_bisr L_bisl L_insr L_insl
local macro_rules | `(tactic| k_all) => `(tactic| first | assumption | fail "k_all: no fact")
theorem law_end (prog : Program) (w : World) (p : Program) (loose : List Str) (mean : ExcName → Option Value) (mg mb : Str → Option Value) (fa : Addr) (g : Heap) (L : Addr) (s : Shared) (Q : Flow → Shared → Prop) (E : Value → Shared → Prop) (m : Str → Option Value)
    (n : Nat) (hn : 1 ≤ n ∧ n ≤ 6) (cs : List Int) (hcs : 2 ≤ cs.length ∧ cs.length ≤ 5) (l : List Nat) (ts : Tok) (f9 ac al aM ar ad : Addr) (vc vl vM vr vd : List Value) (kc kl kM kr kd : Nat) (oM oS o3 : Obj) (tS tM : Tok) (st tb : List (Addr × Obj)) (row : List Nat)
    (H : ToldOk n l) (HT : ∀ x, ToldOk n (leadCodes x)) (HL : ∀ x, LexOk n (leadCodes x) l)
    (S : LawSt prog w n cs L f9 ac al aM vc vl vM kc kl kM oM oS tS tM st) (d3 : o3.data = .cell none)
    (hvr : IntsAre vr (castRow row)) (hvd : IntsAre vd (castRow row)) (hrl : row.length = cs.length) (hrk : ∀ k ∈ row, k < cs.length) (hsr : Srt (row.map (keyOf n cs)))
    (B : Below callerA g [] g) (X : (hd.heap_1 w.params).In g) (T : Top p loose mean mg mb g) (C1 : CodeHd g 41 37) (C2 : CodeHd g 48 44)
    (F : Fr g L s.heap (kstB m [(Str.ofString "leads", .ref al), (Str.ofString "sought", .str (text l) ts), (Str.ofString "worth", .ref f9), (Str.ofString "row", .ref ar), (Str.ofString "due", .ref ad)]))
    (N : News g L s.heap ((L + 1 + 1 + 1, o3) :: (ar, W.listOf vr.toArray kr) :: (ad, W.listOf vd.toArray kd) :: (st ++ tb))) (ht : TabO st tb)
    (htb : ∀ q ∈ tb, q.1 ≠ L + 1 + 1 + 1 ∧ q.1 ≠ ar ∧ q.1 ≠ ad) (hst : ∀ q ∈ st, q.1 ≠ L + 1 + 1 + 1 ∧ q.1 ≠ ar ∧ q.1 ≠ ad)
    (har : @LT.lt Nat _ (L + 1 + 1 + 1 + 1 + 1) ar) (had : @LT.lt Nat _ ar ad) (hal : @Ne Nat al (L + 1 + 1 + 1)) (hK : @LT.lt Nat _ 185 L)
    (hret : ∀ (h' : Heap) (tk : Nat), (∀ b o, g.get? b = some o → h'.get? b = some o) → GrownAll [(41, 37), (48, 44), (184, 182)] h' → Q (.ret (.bool true)) { s with heap := h', toks := tk }) :
    wpAny (model prog w) (callerA.deeper (envOfC (Str.ofString "law") lawScope L fa (.ref 184))) (execs (lawBody.drop 10) (envOfC (Str.ofString "law") lawScope L fa (.ref 184))) Q E s := by
  have eB : lawBody.drop 10 = [_, _, _, _, _, _, _] := rfl
  have eS : lawScope = { kind := _, names := _, isGenerator := _, isCoroutine := _, more := _ } := rfl
  rw [eB, eS]
  clear eB eS
  have hlc := S.cells.length
  have hmc := S.mcell
  have hsc := S.scell
  have htl : (text l).length ≤ 24 := by
    have := H.len
    rw [text_len]; exact this
  have hstN : ∀ q ∈ st, q ∈ (L + 1 + 1 + 1, o3) :: (ar, W.listOf vr.toArray kr) :: (ad, W.listOf vd.toArray kd) :: (st ++ tb) := fun q hq => by repeat (first | exact List.mem_append_left _ hq | refine List.Mem.tail _ ?_)
  have N0 : News g L s.heap ((L + 1 + 1 + 1, o3) :: (L + 1, oM) :: (L + 1 + 1 + 1 + 1, oS) :: (al, W.listOf vl.toArray kl) :: (ar, W.listOf vr.toArray kr) :: (ad, W.listOf vd.toArray kd) :: (st ++ tb)) :=
    List.forall_mem_cons.mpr ⟨N _ (.head _), List.forall_mem_cons.mpr ⟨N _ (hstN _ S.hmcell), List.forall_mem_cons.mpr ⟨N _ (hstN _ S.hscell), List.forall_mem_cons.mpr ⟨N _ (hstN _ S.hleads), fun q hq => N q (.tail _ hq)⟩⟩⟩⟩
  clear N hstN
  repeat' (first | (k_unfold; (try dsimp only)) | (k_end; wrow_close) | ((fail_if_success (with_reducible show wpAny _ _ (call (Value.ref 154) _) _ _ _)); walk1))
  have hoff0 : ∀ p ∈ (L + 1 + 1 + 1, o3) :: (L + 1, oM) :: (L + 1 + 1 + 1 + 1, oS) :: (al, W.listOf vl.toArray kl) :: (ar, W.listOf vr.toArray kr) :: (ad, W.listOf vd.toArray kd) :: st, ∀ q ∈ tb, q.1 ≠ p.1 :=
    List.forall_mem_cons.mpr ⟨fun q hq => (htb q hq).1, List.forall_mem_cons.mpr ⟨ht.2 _ S.hmcell, List.forall_mem_cons.mpr ⟨ht.2 _ S.hscell, List.forall_mem_cons.mpr ⟨ht.2 _ S.hleads, List.forall_mem_cons.mpr ⟨fun q hq => (htb q hq).2.1, List.forall_mem_cons.mpr ⟨fun q hq => (htb q hq).2.2, ht.2⟩⟩⟩⟩⟩⟩
  rw [show text l ++ Str.ofString "x\t " = text (l ++ [120, 9, 32]) from text_append l [120, 9, 32]]
  with_unfolding_all refine' Pure.use (white_init prog w l [120, 9, 32] _ H.len H.signs (.inr ⟨_, rfl⟩) (by decide)) B F X N0 T ?a1 ?a2 ?a3 trivial ?_
  case a1 => exact rfl
  case a2 => decide
  case a3 => decide
  rintro r5 h5 tk5 res5 st5 F5 N5 l5 ⟨xw, dw, nw, cw, vw, rfl, raw, u0, u1, u2, u3, u4, v0, v1, v2, vb, hiw, rfl⟩
  have hoff5 : ∀ p ∈ [(xw, instObj 154 dw), (dw, wDict w l raw nw u0 u1 u2 u3 u4 v0 v1 v2), (nw, tupObj #[.ref cw, .int (whAll l).2.1 vb]), (cw, tupObj vw.toArray)], ∀ q ∈ tb, q.1 ≠ p.1 := fun p hp q hq => Nat.ne_of_lt (l5 p hp q (by repeat (first | exact List.mem_append_right _ hq | refine List.Mem.tail _ ?_)))
  simp only [List.cons_append, List.nil_append] at N5
  repeat' (first | (k_unfold; (try dsimp only)) | (k_end; wrow_close) | ((fail_if_success (with_reducible show wpAny _ _ (call (Value.ref 175) _) _ _ _)); walk1))
  rename Fr _ _ _ _ => F6
  rename News _ _ _ _ => N6
  with_unfolding_all refine' TSpec2.use ([(xw, instObj 154 dw), (dw, wDict w l raw nw u0 u1 u2 u3 u4 v0 v1 v2), (nw, tupObj #[.ref cw, .int (whAll l).2.1 vb]), (cw, tupObj vw.toArray)] ++ (L + 1 + 1 + 1, o3) :: (L + 1, oM) :: (L + 1 + 1 + 1 + 1, oS) :: (al, W.listOf vl.toArray kl) :: (ar, W.listOf vr.toArray kr) :: (ad, W.listOf vd.toArray kd) :: st) (fold_t prog w l xw n _ hn H.lead).to2 B F6 X N6 T C1 C2 ht.1 ?b1 ?b2 ?b3 ?b4 ?b5 ?b6 ?b7 ?_
  case b1 => exact rfl
  case b2 => decide
  case b3 => decide
  case b4 => exact ⟨dw, nw, cw, vw, _, ⟨raw, u0, u1, u2, u3, u4, v0, v1, v2, vb, hiw, rfl⟩, fun p hp => by
    simp only [List.mem_cons, List.not_mem_nil, or_false] at hp
    rcases hp with rfl | rfl | rfl | rfl <;> exact (N6 _ (by k_mem)).1⟩
  case b5 => exact fun p hp => by repeat (first | exact List.mem_append_right _ hp | refine List.Mem.tail _ ?_)
  case b6 =>
    intro p hp
    simp only [List.cons_append, List.nil_append] at hp
    have : p ∈ ((xw, instObj 154 dw) :: (dw, wDict w l raw nw u0 u1 u2 u3 u4 v0 v1 v2) :: (nw, tupObj #[.ref cw, .int (whAll l).2.1 vb]) :: (cw, tupObj vw.toArray) :: (L + 1 + 1 + 1, o3) :: (L + 1, oM) :: (L + 1 + 1 + 1 + 1, oS) :: (al, W.listOf vl.toArray kl) :: (ar, W.listOf vr.toArray kr) :: (ad, W.listOf vd.toArray kd) :: st) ++ tb := List.mem_append_left _ hp
    simpa only [List.cons_append] using this
  case b7 => exact List.forall_mem_append.mpr ⟨hoff5, hoff0⟩
  rintro r7 h7 tk7 res7 tb1 ht1 hs1 F7 N7 l7 lL7 o7 ⟨a7, t7, t8, rfl, rfl⟩
  replace o7 : ∀ p ∈ (L + 1 + 1 + 1, o3) :: (L + 1, oM) :: (L + 1 + 1 + 1 + 1, oS) :: (al, W.listOf vl.toArray kl) :: (ar, W.listOf vr.toArray kr) :: (ad, W.listOf vd.toArray kd) :: st, ∀ q ∈ tb1, q.1 ≠ p.1 := (List.forall_mem_append.mp o7).2
  simp only [List.cons_append, List.nil_append] at N7
  clear hoff0 hoff5 l5 st5 F6 N6 hs1 l7 lL7 N0
  repeat' (first | (k_unfold; (try dsimp only)) | (k_end; wrow_close) | ((fail_if_success (with_reducible show wpAny _ _ (call (Value.ref 168) _) _ _ _)); walk1))
  rename Fr _ _ _ _ => F8
  rename News _ _ _ _ => N8
  have N9 : News g L _ ((L + 1 + 1 + 1, o3) :: (L + 1, oM) :: (L + 1 + 1 + 1 + 1, oS) :: (al, W.listOf vl.toArray kl) :: (ar, W.listOf vr.toArray kr) :: (ad, W.listOf vd.toArray kd) :: (st ++ tb1)) := news_of N8 (by intro q hq; repeat (first | exact hq | refine List.Mem.tail _ ?_))
  with_unfolding_all refine' Pure.use (walk_pure prog w l ts n _ hn H.len) B F8 X N9 T ?c1 ?c2 ?c3 trivial ?_
  case c1 => exact rfl
  case c2 => decide
  case c3 => decide
  rintro r10 h10 tk10 res10 st10 F10 N10 l10 ⟨al2, aw2, as2, vw2, vs2, tc2, ka2, kw2, ks2, c2, b2, ws2, ss2, hwk2, rfl, rfl, hi21, hi22⟩
  have ew : ws2 = wideOf n l := by unfold wideOf; rw [← hwk2]
  subst ew
  have lw1 := l10 _ (.head _)
  have lw2 := l10 _ (.tail _ (.head _))
  have lw3 := l10 _ (.tail _ (.tail _ (.head _)))
  k_lt lw1
  k_lt lw2
  k_lt lw3
  have hA3 : ∀ q ∈ st ++ tb1, q.1 ≠ L + 1 + 1 + 1 := List.forall_mem_append.mpr ⟨fun q hq => (hst q hq).1, fun q hq => o7 _ (.head _) q hq⟩
  clear N8 F8 N9 l10 st10 hwk2
  simp only [List.cons_append, List.nil_append] at N10
  repeat' (first | (k_unfold; (try dsimp only)) | (k_end; wrow_close) | ((fail_if_success (with_reducible show wpAny _ _ (eval (PySem.Expr.ListComp _ _ _ _) _) _ _ _)); walk1))
  rename Fr _ _ _ _ => F8
  rename News _ _ _ _ => N8
  rename Obj.data _ = Data.cell (some (Value.ref aw2)) => dk
  rename Obj => oK
  have hvdl := hvd.length
  rw [castRow, List.length_map] at hvdl
  have AN9 : News g L _ ((L + 1 + 1 + 1, oK) :: (L + 1, oM) :: (L + 1 + 1 + 1 + 1, oS) :: (al, W.listOf vl.toArray kl) :: (ar, W.listOf vr.toArray kr) :: (ad, W.listOf vd.toArray kd) :: (aw2, W.listOf vw2.toArray kw2) :: (st ++ tb1)) := news_of N8 (by
    refine List.forall_mem_cons.mpr ⟨by k_mem, List.forall_mem_cons.mpr ⟨by k_mem, List.forall_mem_cons.mpr ⟨by k_mem, List.forall_mem_cons.mpr ⟨by k_mem, List.forall_mem_cons.mpr ⟨by k_mem, List.forall_mem_cons.mpr ⟨by k_mem, List.forall_mem_cons.mpr ⟨by k_mem, fun q hq => ?_⟩⟩⟩⟩⟩⟩⟩
    repeat (first | exact hq | refine List.Mem.tail _ ?_))
  clear N8
  k_dflt (refine LCt.ListComp_T (F₀ := F8) (by with_unfolding_all rfl) (by decide) (by rfl) (by decide) (by rfl) ?_)
  repeat' (first | (k_unfold; (try dsimp only)) | (k_end; wrow_close) | ((fail_if_success (with_reducible show LCt.CompSrcT _ _ _ _ _ _ _ _ _ _ _ _ _ _ _)); walk1))
  refine LCt.CompSrcT.ledger (by rfl) F8 AN9 (by k_mem) (by (simp only [List.size_toArray, sizeLine]); omega) ?_
  intro g'
  refine compT_ints (fun j => castRow ((row.take j).filter fun k => decide (keyOf n cs k < restOf n l))) (fun j => decide (keyOf n cs (row.getD j 0) < restOf n l)) (fun j => ((row.getD j 0 : Nat) : Int)) rfl ?_ ?_ ?_
  · intro j hj
    have hj2 : j < row.length := by rw [List.size_toArray, hvdl] at hj; omega
    have e1 : row.getD j 0 = row[j] := by simp [List.getD, hj2]
    rw [e1, List.take_add_one, List.getElem?_eq_getElem hj2]
    unfold castRow
    rw [List.filter_append, List.map_append]
    by_cases q : keyOf n cs row[j] < restOf n l
    · simp [q]
    · simp [q]
  · intro j v ys I2 oI2 C oC D m2 h8 tk8 E8 hj hP hC hx F9 N8 off ne
    have hj2 : j < row.length := by rw [List.size_toArray, hvdl] at hj; omega
    have e1 : row.getD j 0 = row[j] := by simp [List.getD, hj2]
    rw [e1]
    obtain ⟨u8, hu8⟩ := hvd.get j ((row[j] : Nat) : Int) (by simp [castRow, hj2])
    have hP2 : vd[j]? = some v := by simpa using hP
    rw [hu8] at hP2
    cases hP2
    have hkj : row[j] < cs.length := hrk _ (List.getElem_mem hj2)
    obtain ⟨am1, vm1, km1, hv1, hm1, hi1⟩ := S.marks.2 row[j] hkj
    have N10 : News g L h8 ((I2, oI2) :: (C, oC) :: (D, LCg.lst ys) :: (L + 1 + 1 + 1, oK) :: (L + 1, oM) :: (L + 1 + 1 + 1 + 1, oS) :: (al, W.listOf vl.toArray kl) :: (ar, W.listOf vr.toArray kr) :: (ad, W.listOf vd.toArray kd) :: (aw2, W.listOf vw2.toArray kw2) :: (st ++ tb1)) := N8
    have inst : ∀ q ∈ st, h8.get? q.1 = some q.2 := fun q hq => (N8 q (by repeat (first | exact List.mem_append_left _ hq | refine List.Mem.tail _ ?_))).1
    have inw : h8.get? aw2 = some (W.listOf vw2.toArray kw2) := (N10 (aw2, W.listOf vw2.toArray kw2) (by k_mem)).1
    repeat' (first | (k_unfold; (try dsimp only)) | (k_end; wrow_close) | ((fail_if_success (with_reducible show wpAny _ _ (subscriptTail _ _ _ _) _ _ _)); walk1))
    refine PyProof.Rows.item_list (⟨_, inst _ S.hmarks, rfl, kM, rfl⟩ : Heap.IsList _ aM vM.toArray) (by omega) (by omega) (by simpa using hv1) ?_
    repeat' (first | (k_unfold; (try dsimp only)) | (k_end; wrow_close) | ((fail_if_success (with_reducible show wpAny _ _ (compareOp _ _ _) _ _ _)); walk1))
    refine lt_lists (inst _ hm1) inw hi1 hi21 (HL _).1 (by show 4 + 3 < cLine; decide) ?_
    rw [(HL _).2.2]
    repeat' (first | (k_unfold; (try dsimp only)) | (k_end; wrow_close) | ((fail_if_success (with_reducible show wpAny _ _ (ite _ _ _) _ _ _)); walk1))
    · refine LCg.CompEnd.intro F9 N10 _ (fun p hp => hp) off (.inr ⟨_, by k_mem, rfl, kd, rfl⟩) ⟨decide_eq_true (by assumption), rfl, _, rfl⟩
    · refine LCg.CompEnd.intro F9 N10 _ (fun p hp => hp) off (.inr ⟨_, by k_mem, rfl, kd, rfl⟩) ⟨decide_eq_false (by assumption), rfl⟩
  · intro ys hys
    rw [List.size_toArray, hvdl, List.take_of_length_le (by omega)] at hys
    have hcnt := hys.length
    rw [cast_filter_lt] at hcnt
    have hcleA := cntLt_len (row.map (keyOf n cs)) (restOf n l)
    rw [List.length_map] at hcleA
    unfold LCg.FinE
    intro D6 h6 tk6 F9 N8 off6
    clear AN9 F8 off6
    repeat' (first | (k_unfold; (try dsimp only)) | (k_end; wrow_close) | ((fail_if_success (with_reducible show wpAny _ _ (call (Value.builtin "len") _ _) _ _ _)); walk1))
    refine PyProof.Rows.len_list (News.isList N8 (.head _)) (by (simp only [List.size_toArray]); omega) ?_
    rw [show ((ys.toArray.size : Nat) : Int) = ((cntLt (row.map (keyOf n cs)) (restOf n l) : Nat) : Int) by rw [List.size_toArray, hcnt]]
    repeat' (first | (k_unfold; (try dsimp only)) | (k_end; wrow_close) | ((fail_if_success (with_reducible show wpAny _ _ (eval (PySem.Expr.ListComp _ _ _ _) _) _ _ _)); walk1))
    rename Fr _ _ _ _ => F8
    rename News _ _ _ _ => N8
    have BN9 : News g L _ ((L + 1 + 1 + 1, oK) :: (L + 1, oM) :: (L + 1 + 1 + 1 + 1, oS) :: (al, W.listOf vl.toArray kl) :: (ar, W.listOf vr.toArray kr) :: (ad, W.listOf vd.toArray kd) :: (aw2, W.listOf vw2.toArray kw2) :: (st ++ tb1)) := news_of N8 (by
      refine List.forall_mem_cons.mpr ⟨by k_mem, List.forall_mem_cons.mpr ⟨by k_mem, List.forall_mem_cons.mpr ⟨by k_mem, List.forall_mem_cons.mpr ⟨by k_mem, List.forall_mem_cons.mpr ⟨by k_mem, List.forall_mem_cons.mpr ⟨by k_mem, List.forall_mem_cons.mpr ⟨by k_mem, fun q hq => ?_⟩⟩⟩⟩⟩⟩⟩
      repeat (first | exact hq | refine List.Mem.tail _ ?_))
    clear N8
    k_dflt (refine LCt.ListComp_T (F₀ := F8) (by with_unfolding_all rfl) (by decide) (by rfl) (by decide) (by rfl) ?_)
    repeat' (first | (k_unfold; (try dsimp only)) | (k_end; wrow_close) | ((fail_if_success (with_reducible show LCt.CompSrcT _ _ _ _ _ _ _ _ _ _ _ _ _ _ _)); walk1))
    refine LCt.CompSrcT.ledger (by rfl) F8 BN9 (by k_mem) (by (simp only [List.size_toArray, sizeLine]); omega) ?_
    intro g'
    refine compT_ints (fun j => castRow ((row.take j).filter fun k => decide (keyOf n cs k ≤ restOf n l))) (fun j => decide (keyOf n cs (row.getD j 0) ≤ restOf n l)) (fun j => ((row.getD j 0 : Nat) : Int)) rfl ?_ ?_ ?_
    · intro j hj
      have hj2 : j < row.length := by rw [List.size_toArray, hvdl] at hj; omega
      have e1 : row.getD j 0 = row[j] := by simp [List.getD, hj2]
      rw [e1, List.take_add_one, List.getElem?_eq_getElem hj2]
      unfold castRow
      rw [List.filter_append, List.map_append]
      by_cases q : keyOf n cs row[j] ≤ restOf n l
      · simp [q]
      · simp [q]
    · intro j v ys I2 oI2 C oC D m2 h8 tk8 E8 hj hP hC hx F9 N8 off ne
      have hj2 : j < row.length := by rw [List.size_toArray, hvdl] at hj; omega
      have e1 : row.getD j 0 = row[j] := by simp [List.getD, hj2]
      rw [e1]
      obtain ⟨u8, hu8⟩ := hvd.get j ((row[j] : Nat) : Int) (by simp [castRow, hj2])
      have hP2 : vd[j]? = some v := by simpa using hP
      rw [hu8] at hP2
      cases hP2
      have hkj : row[j] < cs.length := hrk _ (List.getElem_mem hj2)
      obtain ⟨am1, vm1, km1, hv1, hm1, hi1⟩ := S.marks.2 row[j] hkj
      have N10 : News g L h8 ((I2, oI2) :: (C, oC) :: (D, LCg.lst ys) :: (L + 1 + 1 + 1, oK) :: (L + 1, oM) :: (L + 1 + 1 + 1 + 1, oS) :: (al, W.listOf vl.toArray kl) :: (ar, W.listOf vr.toArray kr) :: (ad, W.listOf vd.toArray kd) :: (aw2, W.listOf vw2.toArray kw2) :: (st ++ tb1)) := N8
      have inst : ∀ q ∈ st, h8.get? q.1 = some q.2 := fun q hq => (N8 q (by repeat (first | exact List.mem_append_left _ hq | refine List.Mem.tail _ ?_))).1
      have inw : h8.get? aw2 = some (W.listOf vw2.toArray kw2) := (N10 (aw2, W.listOf vw2.toArray kw2) (by k_mem)).1
      repeat' (first | (k_unfold; (try dsimp only)) | (k_end; wrow_close) | ((fail_if_success (with_reducible show wpAny _ _ (subscriptTail _ _ _ _) _ _ _)); walk1))
      refine PyProof.Rows.item_list (⟨_, inst _ S.hmarks, rfl, kM, rfl⟩ : Heap.IsList _ aM vM.toArray) (by omega) (by omega) (by simpa using hv1) ?_
      repeat' (first | (k_unfold; (try dsimp only)) | (k_end; wrow_close) | ((fail_if_success (with_reducible show wpAny _ _ (compareOp _ _ _) _ _ _)); walk1))
      refine le_lists (inst _ hm1) inw hi1 hi21 (HL _).1 (by show 4 + 3 < cLine; decide) ?_
      rw [(HL _).2.1]
      repeat' (first | (k_unfold; (try dsimp only)) | (k_end; wrow_close) | ((fail_if_success (with_reducible show wpAny _ _ (ite _ _ _) _ _ _)); walk1))
      · refine LCg.CompEnd.intro F9 N10 _ (fun p hp => hp) off (.inr ⟨_, by k_mem, rfl, kd, rfl⟩) ⟨decide_eq_true (by assumption), rfl, _, rfl⟩
      · refine LCg.CompEnd.intro F9 N10 _ (fun p hp => hp) off (.inr ⟨_, by k_mem, rfl, kd, rfl⟩) ⟨decide_eq_false (by assumption), rfl⟩
    · intro ys hys
      rw [List.size_toArray, hvdl, List.take_of_length_le (by omega)] at hys
      have hcnt := hys.length
      rw [cast_filter_le] at hcnt
      have hcleB := cntLe_len (row.map (keyOf n cs)) (restOf n l)
      rw [List.length_map] at hcleB
      unfold LCg.FinE
      intro D6 h6 tk6 F9 N8 off6
      clear BN9 F8 off6
      repeat' (first | (k_unfold; (try dsimp only)) | (k_end; wrow_close) | ((fail_if_success (with_reducible show wpAny _ _ (call (Value.builtin "len") _ _) _ _ _)); walk1))
      refine PyProof.Rows.len_list (News.isList N8 (.head _)) (by (simp only [List.size_toArray]); omega) ?_
      rw [show ((ys.toArray.size : Nat) : Int) = ((cntLe (row.map (keyOf n cs)) (restOf n l) : Nat) : Int) by rw [List.size_toArray, hcnt]]
      repeat' (first | (k_unfold; (try dsimp only)) | (k_end; wrow_close) | ((fail_if_success (with_reducible show wpAny _ _ (compareOp _ _ _) _ _ _)); walk1))
      rename Fr _ _ _ _ => F12
      rename News _ _ _ _ => N12
      have N13 : News g L _ ((L + 1 + 1 + 1, oK) :: (L + 1, oM) :: (L + 1 + 1 + 1 + 1, oS) :: (al, W.listOf vl.toArray kl) :: (ar, W.listOf vr.toArray kr) :: (ad, W.listOf vd.toArray kd) :: (st ++ tb1)) := news_of N12 (by
        refine List.forall_mem_cons.mpr ⟨by k_mem, List.forall_mem_cons.mpr ⟨by k_mem, List.forall_mem_cons.mpr ⟨by k_mem, List.forall_mem_cons.mpr ⟨by k_mem, List.forall_mem_cons.mpr ⟨by k_mem, List.forall_mem_cons.mpr ⟨by k_mem, fun q hq => ?_⟩⟩⟩⟩⟩⟩
        repeat (first | exact hq | refine List.Mem.tail _ ?_))
      clear N12
      refine ke_ne_ints (News.isList N13 (by k_mem)) (News.isList N13 (by k_mem)) hvr hvd (by show 4 + 3 + 64 < cLine; decide) ?_
      rw [show (!decide (castRow row = castRow row)) = false by simp]
      have o8 : ∀ p ∈ (L + 1 + 1 + 1, oK) :: (L + 1, oM) :: (L + 1 + 1 + 1 + 1, oS) :: (al, W.listOf vl.toArray kl) :: (ar, W.listOf vr.toArray kr) :: (ad, W.listOf vd.toArray kd) :: st, ∀ q ∈ tb1, q.1 ≠ p.1 := List.forall_mem_cons.mpr ⟨o7 (L + 1 + 1 + 1, o3) (.head _), fun p hp => o7 p (.tail _ hp)⟩
      repeat' (first | (k_unfold; (try dsimp only)) | (k_end; wrow_close) | ((fail_if_success (with_reducible show wpAny _ _ (call (Value.ref 92) _ _) _ _ _)); walk1))
      have hT1 : TabO ((ar, W.listOf vr.toArray kr) :: st) tb1 := ⟨ht1, List.forall_mem_cons.mpr ⟨o8 _ (.tail _ (.tail _ (.tail _ (.tail _ (.head _))))), fun p hp => o8 p (.tail _ (.tail _ (.tail _ (.tail _ (.tail _ (.tail _ hp))))))⟩⟩
      with_unfolding_all refine' TSpec2.use ((L + 1 + 1 + 1, oK) :: (L + 1, oM) :: (L + 1 + 1 + 1 + 1, oS) :: (al, W.listOf vl.toArray kl) :: (ar, W.listOf vr.toArray kr) :: (ad, W.listOf vd.toArray kd) :: st) (bisl_t prog w ar f9 vr kr row (restOf n l) t8 ((ar, W.listOf vr.toArray kr) :: st) 86 cs.length (keyOf n cs) (S.key.more (fun p hp => .tail _ hp)) (fun h x => S.fn h (x.sub fun p hp => .tail _ hp)) hvr (.head _) hrk hsr (by omega) _ (.inl rfl)) B F12 X N13 T C1 C2 hT1 ?d1 ?d2 ?d3 ?d4 ?d5 ?d6 o8 ?_
      case d1 => exact rfl
      case d2 => decide
      case d3 => decide
      case d4 => exact List.forall_mem_cons.mpr ⟨(N13 (ar, W.listOf vr.toArray kr) (by k_mem)).1, fun p hp => (N13 p (by repeat (first | exact List.mem_append_left _ hp | refine List.Mem.tail _ ?_))).1⟩
      case d5 => exact fun p hp => by repeat (first | exact List.mem_append_right _ hp | refine List.Mem.tail _ ?_)
      case d6 => exact fun p hp => by simpa only [List.cons_append] using List.mem_append_left tb1 hp
      rintro r14 h14 tk14 res14 tb2 hT2 hs2 F14 N14 l14 lL14 o14 ⟨rfl, t14, rfl⟩
      simp only [List.cons_append, List.nil_append] at N14
      clear N13 F12 o8 o7 l14 lL14 hs2 hT1 hA3
      repeat' (first | (k_unfold; (try dsimp only)) | (k_end; wrow_close) | ((fail_if_success (with_reducible show wpAny _ _ (call (Value.ref 74) _ _) _ _ _)); walk1))
      with_unfolding_all refine' TSpec2.use ((L + 1 + 1 + 1, oK) :: (L + 1, oM) :: (L + 1 + 1 + 1 + 1, oS) :: (al, W.listOf vl.toArray kl) :: (ar, W.listOf vr.toArray kr) :: (ad, W.listOf vd.toArray kd) :: st) (bisr_t prog w ar f9 vr kr row (restOf n l) t8 ((ar, W.listOf vr.toArray kr) :: st) 86 cs.length (keyOf n cs) (S.key.more (fun p hp => .tail _ hp)) (fun h x => S.fn h (x.sub fun p hp => .tail _ hp)) hvr (.head _) hrk hsr (by omega) _ (.inl rfl)) B F14 X N14 T C1 C2 hT2 ?e1 ?e2 ?e3 ?e4 ?e5 ?e6 o14 ?_
      case e1 => exact rfl
      case e2 => decide
      case e3 => decide
      case e4 => exact List.forall_mem_cons.mpr ⟨(N14 (ar, W.listOf vr.toArray kr) (by k_mem)).1, fun p hp => (N14 p (by repeat (first | exact List.mem_append_left _ hp | refine List.Mem.tail _ ?_))).1⟩
      case e5 => exact fun p hp => by repeat (first | exact List.mem_append_right _ hp | refine List.Mem.tail _ ?_)
      case e6 => exact fun p hp => by simpa only [List.cons_append] using List.mem_append_left tb2 hp
      rintro r15 h15 tk15 res15 tb3 hT3 hs3 F15 N15 l15 lL15 o15 ⟨rfl, t15, rfl⟩
      simp only [List.cons_append, List.nil_append] at N15
      clear N14 F14 o14 l15 lL15 hs3 hT2
      repeat' (first | (k_unfold; (try dsimp only)) | (k_end; wrow_close) | ((fail_if_success (with_reducible show wpAny _ _ (call (Value.ref 180) _ _) _ _ _)); walk1))
      rename Fr _ _ _ _ => F16
      rename News _ _ _ _ => N16
      have N17 : News g L _ ((L + 1 + 1 + 1, oK) :: (L + 1, oM) :: (L + 1 + 1 + 1 + 1, oS) :: (al, W.listOf vl.toArray kl) :: (ar, W.listOf vr.toArray kr) :: (ad, W.listOf vd.toArray kd) :: (st ++ tb3)) := news_of N16 (by
        refine List.forall_mem_cons.mpr ⟨by k_mem, List.forall_mem_cons.mpr ⟨by k_mem, List.forall_mem_cons.mpr ⟨by k_mem, List.forall_mem_cons.mpr ⟨by k_mem, List.forall_mem_cons.mpr ⟨by k_mem, List.forall_mem_cons.mpr ⟨by k_mem, fun q hq => ?_⟩⟩⟩⟩⟩⟩
        repeat (first | exact hq | refine List.Mem.tail _ ?_))
      clear N16
      with_unfolding_all refine' TSpec2.use ((L + 1 + 1 + 1, oK) :: (L + 1, oM) :: (L + 1 + 1 + 1 + 1, oS) :: (al, W.listOf vl.toArray kl) :: (ar, W.listOf vr.toArray kr) :: (ad, W.listOf vd.toArray kd) :: st) (told_t prog w l ts n tS hn H).to2 B F16 X N17 T C1 C2 hT3.1 ?g1 ?g2 ?g3 trivial ?g5 ?g6 o15 ?_
      case g1 => exact rfl
      case g2 => decide
      case g3 => decide
      case g5 => exact fun p hp => by repeat (first | exact List.mem_append_right _ hp | refine List.Mem.tail _ ?_)
      case g6 => exact fun p hp => by simpa only [List.cons_append] using List.mem_append_left tb3 hp
      rintro r18 h18 tk18 res18 tb4 hT4 hs4 F18 N18 l18 lL18 o18 ⟨rfl, rfl⟩
      simp only [List.cons_append, List.nil_append] at N18
      clear N17 F16 o15 l18 lL18 hs4 hT3
      have hll := S.leads.len_eq
      rw [List.length_map] at hll
      obtain ⟨tl9, hl9⟩ := strs_get S.leads (i := vl.length - 1) (x := leadText (cs.getD (cs.length - 1) 0)) (by
        rw [List.getElem?_map, hll, List.getElem?_eq_getElem (by omega)]
        simp [List.getD, show cs.length - 1 < cs.length by omega])
      repeat' (first | (k_unfold; (try dsimp only)) | (k_end; wrow_close) | ((fail_if_success (with_reducible show wpAny _ _ (subscriptTail _ _ _ _) _ _ _)); walk1))
      refine item_last (News.isList N18 (by k_mem)) (by omega) hl9 ?_
      repeat' (first | (k_unfold; (try dsimp only)) | (k_end; wrow_close) | ((fail_if_success (with_reducible show wpAny _ _ (call (Value.ref 180) _ _) _ _ _)); walk1))
      with_unfolding_all refine' TSpec2.use ((L + 1 + 1 + 1, oK) :: (L + 1, oM) :: (L + 1 + 1 + 1 + 1, oS) :: (al, W.listOf vl.toArray kl) :: (ar, W.listOf vr.toArray kr) :: (ad, W.listOf vd.toArray kd) :: st) (told_t prog w (leadCodes (cs.getD (cs.length - 1) 0)) tl9 n tS hn (HT _)).to2 B F18 X N18 T C1 C2 hT4 ?i1 ?i2 ?i3 trivial ?i5 ?i6 o18 ?_
      case i1 => exact rfl
      case i2 => decide
      case i3 => decide
      case i5 => exact fun p hp => by repeat (first | exact List.mem_append_right _ hp | refine List.Mem.tail _ ?_)
      case i6 => exact fun p hp => by simpa only [List.cons_append] using List.mem_append_left tb4 hp
      rintro r19 h19 tk19 res19 tb5 hT5 hs5 F19 N19 l19 lL19 o19 ⟨rfl, rfl⟩
      simp only [List.cons_append, List.nil_append] at N19
      k_steps
      obtain ⟨⟨p37, m37⟩, ⟨p44, m44⟩⟩ := hT5.grown
      obtain ⟨p182, m182⟩ := S.tab
      refine hret h19 tk19 (fun b o e => F19.keep b o e) ⟨GrownAt.of N19 (ps := p37) ?_, GrownAt.of N19 (ps := p44) ?_, GrownAt.of N19 (ps := p182) ?_, trivial⟩
      · repeat (first | exact List.mem_append_right _ m37 | refine List.Mem.tail _ ?_)
      · repeat (first | exact List.mem_append_right _ m44 | refine List.Mem.tail _ ?_)
      · repeat (first | exact List.mem_append_left _ m182 | refine List.Mem.tail _ ?_)

-- needs: B_lead C_walk D_white E_digits F_int2 G_div H_divpos I_fold J_ind K_told L_bisr L_bisl L_insr L_insl M_lc
local macro_rules | `(tactic| k_all) => `(tactic| first | assumption | fail "k_all: no fact")
theorem law_loop (prog : Program) (w : World) (p : Program) (loose : List Str) (mean : ExcName → Option Value) (mg mb : Str → Option Value) (fa : Addr) (g : Heap) (L : Addr) (s : Shared) (Q : Flow → Shared → Prop) (E : Value → Shared → Prop) (m : Str → Option Value)
    (n : Nat) (hn : 1 ≤ n ∧ n ≤ 6) (cs : List Int) (hcs : 2 ≤ cs.length ∧ cs.length ≤ 5) (so : Int) (ts : Tok) (f9 ac al aM ar ad : Addr) (vc vl vM : List Value) (kc kl kM kr kd : Nat) (oM oS o2 o3 : Obj) (x2 : Option Value) (tS tM : Tok) (st tb : List (Addr × Obj))
    (HT : ∀ x, ToldOk n (leadCodes x)) (HL : ∀ x y, LexOk n (leadCodes x) (leadCodes y))
    (S : LawSt prog w n cs L f9 ac al aM vc vl vM kc kl kM oM oS tS tM st) (d2 : o2.data = .cell x2) (d3 : o3.data = .cell none)
    (B : Below callerA g [] g) (X : (hd.heap_1 w.params).In g) (T : Top p loose mean mg mb g) (C1 : CodeHd g 41 37) (C2 : CodeHd g 48 44)
    (F : Fr g L s.heap (kstB m [(Str.ofString "cells", .ref ac), (Str.ofString "leads", .ref al), (Str.ofString "sought", .str (leadText so) ts), (Str.ofString "worth", .ref f9), (Str.ofString "row", .ref ar), (Str.ofString "due", .ref ad)]))
    (N : News g L s.heap ((L + 1 + 1, o2) :: (L + 1 + 1 + 1, o3) :: (ar, W.listOf #[] kr) :: (ad, W.listOf #[] kd) :: (st ++ tb))) (ht : TabO st tb)
    (htb : ∀ q ∈ tb, q.1 ≠ L + 1 + 1 ∧ q.1 ≠ L + 1 + 1 + 1 ∧ q.1 ≠ ar ∧ q.1 ≠ ad) (hst : ∀ q ∈ st, q.1 ≠ L + 1 + 1 ∧ q.1 ≠ L + 1 + 1 + 1 ∧ q.1 ≠ ar ∧ q.1 ≠ ad)
    (har : @LT.lt Nat _ (L + 1 + 1 + 1 + 1 + 1) ar) (had : @LT.lt Nat _ ar ad) (hK : @LT.lt Nat _ 185 L)
    (hE : PassesOwn (model prog w) (callerA.deeper (envOfC (Str.ofString "law") lawScope L fa (.ref 184))) (envOfC (Str.ofString "law") lawScope L fa (.ref 184)) E)
    (hret : ∀ (h' : Heap) (tk : Nat), (∀ b o, g.get? b = some o → h'.get? b = some o) → GrownAll [(41, 37), (48, 44), (184, 182)] h' → Q (.ret (.bool true)) { s with heap := h', toks := tk }) :
    wpAny (model prog w) (callerA.deeper (envOfC (Str.ofString "law") lawScope L fa (.ref 184))) (execs (lawBody.drop 9) (envOfC (Str.ofString "law") lawScope L fa (.ref 184))) Q E s := by
  have eB : lawBody.drop 9 = [_, _, _, _, _, _, _, _] := rfl
  have eS : lawScope = { kind := _, names := _, isGenerator := _, isCoroutine := _, more := _ } := rfl
  rw [eB, eS]
  rw [eS] at hE
  clear eB eS
  have hlc := S.cells.length
  have N0 : News g L s.heap ((ac, W.listOf vc.toArray kc) :: (L + 1 + 1, o2) :: (L + 1 + 1 + 1, o3) :: (ar, W.listOf #[] kr) :: (ad, W.listOf #[] kd) :: (st ++ tb)) := List.forall_mem_cons.mpr ⟨N _ (by repeat (first | exact List.mem_append_left _ S.hcells | refine List.Mem.tail _ ?_)), N⟩
  clear N
  repeat' (first | (k_unfold; (try dsimp only)) | (k_end; wrow_close) | ((fail_if_success (with_reducible show wpAny _ _ (exec (Stmt.For _ _ _ _ _) _) _ _ _)); walk1))
  with_unfolding_all refine' For_invTF F ?k1 ?k2 ?k3
  case k2 => exact fun _ => rfl
  case k3 => exact hE
  repeat' (first | (k_unfold; (try dsimp only)) | (k_end; wrow_close) | ((fail_if_success (with_reducible show wpAny _ _ (pyIter _) _ _ _)); walk1))
  refine PyProof.Rows.len_list (News.isList N0 (by k_mem)) (by (simp only [List.size_toArray]); omega) ?_
  rw [show ((vc.toArray.size : Nat) : Int) = ((cs.length : Nat) : Int) by rw [List.size_toArray, hlc]]
  repeat' (first | (k_unfold; (try dsimp only)) | (k_end; wrow_close) | ((fail_if_success (with_reducible show wpAny _ _ (pyIter _) _ _ _)); walk1))
  rename IsRange _ _ _ _ _ _ _ _ => hR
  rename Fr _ _ _ _ => F1
  rename News _ _ _ _ => N1
  refine loop_rangeT (n := cs.length) (PlaceJ n cs L f9 ac al ar ad o3 st (.str (leadText so) ts)) (by rfl) hR (small_one (by omega) (by omega) (by omega) (by omega)) (by rw [rangeSize_one]; split <;> omega) F1 N1 ?hj ?_ ?_
  case hj =>
    refine ⟨[], o2, x2, [], [], kr, kd, tb, rfl, rfl, rfl, rfl, rfl, rfl, d2, .nil, .nil, rfl, fun _ h => (nomatch h), List.Pairwise.nil, ht, htb, ?_⟩
    intro q9 hq9; repeat (first | exact hq9 | refine List.Mem.tail _ ?_)
  · intro i t m₁ nx s₁ I oI hi hJ hne F₁ N₁
    obtain ⟨row, oP, x0, vr, vd, kr', kd', tb1, j1, j2, j3, j4, j5, j6, dP, hvr, hvd, hrl, hrk, hsr, ht1, htb1, jn⟩ := hJ
    have F₂ : Fr g L s₁.heap _ := fr_lit [(Str.ofString "cells", .ref ac), (Str.ofString "leads", .ref al), (Str.ofString "sought", .str (leadText so) ts), (Str.ofString "worth", .ref f9), (Str.ofString "row", .ref ar), (Str.ofString "due", .ref ad)] (by intro q hq; simp only [List.mem_cons, List.not_mem_nil, or_false] at hq; rcases hq with rfl | rfl | rfl | rfl | rfl | rfl <;> assumption) F₁
    have N₂ : News g L s₁.heap ((I, oI) :: (L + 1 + 1, oP) :: (ac, W.listOf vc.toArray kc) :: (L + 1, oM) :: (L + 1 + 1 + 1, o3) :: (ar, W.listOf vr.toArray kr') :: (ad, W.listOf vd.toArray kd') :: (st ++ tb1)) := by
      have hs : ∀ q ∈ st, q ∈ nx := fun q hq => jn _ (by repeat (first | exact List.mem_append_left _ hq | refine List.Mem.tail _ ?_))
      refine List.forall_mem_cons.mpr ⟨N₁ _ (.head _), fun q hq => N₁ _ (.tail _ ?_)⟩
      rcases List.mem_cons.mp hq with rfl | hq
      · exact jn _ (.head _)
      rcases List.mem_cons.mp hq with rfl | hq
      · exact hs _ S.hcells
      rcases List.mem_cons.mp hq with rfl | hq
      · exact hs _ S.hmcell
      exact jn _ (.tail _ hq)
    have hof : ∀ q ∈ (L + 1 + 1, oP) :: (L + 1 + 1 + 1, o3) :: (ar, W.listOf vr.toArray kr') :: (ad, W.listOf vd.toArray kd') :: (st ++ tb1), q.1 ≠ I := fun q hq => hne q (jn q hq)
    have hA2 : ∀ q ∈ st ++ tb1, q.1 ≠ L + 1 + 1 := List.forall_mem_append.mpr ⟨fun q hq => (hst q hq).1, fun q hq => (htb1 q hq).1⟩
    have hI1 : @Ne Nat (L + 1 + 1) I := hof _ (.head _)
    have hI2 : @Ne Nat (L + 1 + 1 + 1) I := hof _ (.tail _ (.head _))
    have hI3 : @Ne Nat ar I := hof _ (.tail _ (.tail _ (.head _)))
    have hI4 : @Ne Nat ad I := hof _ (.tail _ (.tail _ (.tail _ (.head _))))
    have hIs : ∀ q ∈ st, @Ne Nat q.1 I := fun q hq => hof q (.tail _ (.tail _ (.tail _ (.tail _ (List.mem_append_left _ hq)))))
    have hI5 : @Ne Nat ac I := hIs _ S.hcells
    have hI6 : @Ne Nat (L + 1) I := hIs _ S.hmcell
    have hc2 : @Ne Nat ac (L + 1 + 1) := (hst _ S.hcells).1
    clear F₁ N₁ F1 N1 hR j1 j2 j3 j4 j5 j6 jn hne
    have hcl := S.cells.length
    have hvc := S.cells
    rw [Int.zero_add]
    refine wpAny_assign_Name ?_
    walk1
    rename_i hS2 oP2 FS2 NS2 dP2
    repeat' (first | (k_unfold; (try dsimp only)) | (k_end; wrow_close) | ((fail_if_success (with_reducible show wpAny _ _ (call (Value.ref _) _ _) _ _ _)); walk1))
    · have hsz : row.length ≤ 5 := by omega
      have hT1 : RowTab ar row st ((ar, W.listOf vr.toArray kr') :: tb1) := ⟨vr, kr', tb1, rfl, hvr, ht1, fun q hq => (htb1 q hq).2.2.1⟩
      have hofI : ∀ q ∈ tb1, q.1 ≠ I := fun q hq => hof q (.tail _ (.tail _ (.tail _ (.tail _ (List.mem_append_right _ hq)))))
      have hsta : ∀ p ∈ st, ∀ q ∈ (ar, W.listOf vr.toArray kr') :: tb1, q.1 ≠ p.1 := fun p hp => List.forall_mem_cons.mpr ⟨Ne.symm (hst p hp).2.2.1, ht1.2 p hp⟩
      have hoffS : ∀ p ∈ (I, oI) :: (L + 1 + 1, oP2) :: (ac, W.listOf vc.toArray kc) :: (L + 1, oM) :: (L + 1 + 1 + 1, o3) :: (ad, W.listOf vd.toArray kd') :: st, ∀ q ∈ (ar, W.listOf vr.toArray kr') :: tb1, q.1 ≠ p.1 := by
        refine List.forall_mem_cons.mpr ⟨List.forall_mem_cons.mpr ⟨hI3, hofI⟩, List.forall_mem_cons.mpr ⟨List.forall_mem_cons.mpr ⟨neN (by omega), fun q hq => (htb1 q hq).1⟩, List.forall_mem_cons.mpr ⟨hsta _ S.hcells, List.forall_mem_cons.mpr ⟨hsta _ S.hmcell, List.forall_mem_cons.mpr ⟨List.forall_mem_cons.mpr ⟨neN (by omega), fun q hq => (htb1 q hq).2.1⟩, List.forall_mem_cons.mpr ⟨List.forall_mem_cons.mpr ⟨neN (by omega), fun q hq => (htb1 q hq).2.2.2⟩, hsta⟩⟩⟩⟩⟩⟩
      with_unfolding_all refine' TSpec2.use ((I, oI) :: (L + 1 + 1, oP2) :: (ac, W.listOf vc.toArray kc) :: (L + 1, oM) :: (L + 1 + 1 + 1, o3) :: (ad, W.listOf vd.toArray kd') :: st) (insr_t prog w ar f9 row i t st 86 cs.length (keyOf n cs) S.key S.fn (fun p hp => (hst p hp).2.2.1) (fun k hk => Nat.lt_trans (hrk k hk) hi) hi hsr (by omega)) B FS2 X NS2 T C1 C2 hT1 ?cntLeq1 ?cntLeq2 ?cntLeq3 ?cntLeq4 ?cntLeq5 ?cntLeq6 hoffS ?_
      case cntLeq1 => exact rfl
      case cntLeq2 => decide
      case cntLeq3 => decide
      case cntLeq4 => exact fun p hp => (NS2 p (by repeat (first | exact List.mem_append_left _ hp | refine List.Mem.tail _ ?_))).1
      case cntLeq5 => exact List.forall_mem_cons.mpr ⟨by k_mem, fun p hp => by repeat (first | exact List.mem_append_right _ hp | refine List.Mem.tail _ ?_)⟩
      case cntLeq6 =>
        refine List.forall_mem_cons.mpr ⟨by k_mem, List.forall_mem_cons.mpr ⟨by k_mem, List.forall_mem_cons.mpr ⟨by k_mem, List.forall_mem_cons.mpr ⟨by k_mem, List.forall_mem_cons.mpr ⟨by k_mem, List.forall_mem_cons.mpr ⟨by k_mem, fun p hp => ?_⟩⟩⟩⟩⟩⟩
        repeat (first | exact List.mem_append_left _ hp | refine List.Mem.tail _ ?_)
      rintro r5 h5 tk5 res5 tb5 hT5 hs5 F5 N5 l5 lL5 o5 ⟨rfl, rfl⟩
      obtain ⟨vr2, kr2, tb2, rfl, hvr2, ht2, hn2⟩ := hT5
      have o5c : ∀ p ∈ (I, oI) :: (L + 1 + 1, oP2) :: (ac, W.listOf vc.toArray kc) :: (L + 1, oM) :: (L + 1 + 1 + 1, o3) :: (ad, W.listOf vd.toArray kd') :: st, ∀ q ∈ tb2, q.1 ≠ p.1 := fun p hp q hq => o5 p hp q (.tail _ hq)
      have htb2 : ∀ q ∈ tb2, q.1 ≠ L + 1 + 1 ∧ q.1 ≠ L + 1 + 1 + 1 ∧ q.1 ≠ ar ∧ q.1 ≠ ad := fun q hq => ⟨o5c _ (.tail _ (.head _)) q hq, o5c _ (.tail _ (.tail _ (.tail _ (.tail _ (.head _))))) q hq, hn2 q hq, o5c _ (.tail _ (.tail _ (.tail _ (.tail _ (.tail _ (.head _)))))) q hq⟩
      have hofI2 : ∀ q ∈ tb2, q.1 ≠ I := fun q hq => o5c _ (.head _) q hq
      have N6 : News g L h5 ((I, oI) :: (L + 1 + 1, oP2) :: (ac, W.listOf vc.toArray kc) :: (L + 1, oM) :: (L + 1 + 1 + 1, o3) :: (ar, W.listOf vr2.toArray kr2) :: (ad, W.listOf vd.toArray kd') :: (st ++ tb2)) := by
        refine news_of N5 ?_
        simp only [List.nil_append, List.cons_append]
        refine List.forall_mem_cons.mpr ⟨by k_mem, List.forall_mem_cons.mpr ⟨by k_mem, List.forall_mem_cons.mpr ⟨by k_mem, List.forall_mem_cons.mpr ⟨by k_mem, List.forall_mem_cons.mpr ⟨by k_mem, List.forall_mem_cons.mpr ⟨?_, List.forall_mem_cons.mpr ⟨by k_mem, fun p hp => ?_⟩⟩⟩⟩⟩⟩⟩
        · repeat (first | exact List.mem_append_right _ (.head _) | refine List.Mem.tail _ ?_)
        · rcases List.mem_append.mp hp with hp | hp
          · repeat (first | exact List.mem_append_left _ hp | refine List.Mem.tail _ ?_)
          · repeat (first | exact List.mem_append_right _ (.tail _ hp) | refine List.Mem.tail _ ?_)
      have hAd : ∀ q ∈ st ++ tb2, q.1 ≠ ad := List.forall_mem_append.mpr ⟨fun q hq => (hst q hq).2.2.2, fun q hq => (htb2 q hq).2.2.2⟩
      have hcd : @Ne Nat ac ad := (hst _ S.hcells).2.2.2
      clear N5 l5 lL5 o5 o5c hs5 hT1 hofI hsta hoffS NS2 FS2
      repeat' (first | (k_unfold; (try dsimp only)) | (k_end; wrow_close) | ((fail_if_success (with_reducible show wpAny _ _ (eval (PySem.Expr.ListComp _ _ _ _) _) _ _ _)); walk1))
      have hvdl := hvd.length
      rw [castRow, List.length_map, hrl] at hvdl
      have hmc := S.mcell
      k_dflt (refine LCt.ListComp_T (F₀ := F5) (by with_unfolding_all rfl) (by decide) (by rfl) (by decide) (by rfl) ?_)
      repeat' (first | (k_unfold; (try dsimp only)) | (k_end; wrow_close) | ((fail_if_success (with_reducible show LCt.CompSrcT _ _ _ _ _ _ _ _ _ _ _ _ _ _ _)); walk1))
      refine LCt.CompSrcT.ledger (by rfl) F5 N6 (by k_mem) (by (simp only [List.size_toArray, sizeLine]); omega) ?_
      intro g'
      refine compT_ints (fun j => castRow ((row.take j).filter fun k => decide (keyOf n cs k ≤ keyOf n cs i))) (fun j => decide (keyOf n cs (row.getD j 0) ≤ keyOf n cs i)) (fun j => ((row.getD j 0 : Nat) : Int)) rfl ?_ ?_ ?_
      · intro j hj
        have hj2 : j < row.length := by rw [List.size_toArray, hvdl] at hj; omega
        have e1 : row.getD j 0 = row[j] := by simp [List.getD, hj2]
        rw [e1, List.take_add_one, List.getElem?_eq_getElem hj2]
        unfold castRow
        rw [List.filter_append, List.map_append]
        by_cases q : keyOf n cs row[j] ≤ keyOf n cs i
        · simp [q]
        · simp [q]
      · intro j v ys I2 oI2 C oC D m2 h8 tk8 E8 hj hP hC hx F8 N8 off ne
        have hj2 : j < row.length := by rw [List.size_toArray, hvdl] at hj; omega
        have e1 : row.getD j 0 = row[j] := by simp [List.getD, hj2]
        rw [e1]
        obtain ⟨u8, hu8⟩ := hvd.get j ((row[j] : Nat) : Int) (by simp [castRow, hj2])
        have hP2 : vd[j]? = some v := by simpa using hP
        rw [hu8] at hP2
        cases hP2
        have hkj : row[j] < cs.length := Nat.lt_trans (hrk _ (List.getElem_mem hj2)) hi
        obtain ⟨am1, vm1, km1, hv1, hm1, hi1⟩ := S.marks.2 row[j] hkj
        obtain ⟨am2, vm2, km2, hv2, hm2, hi2⟩ := S.marks.2 i hi
        have N9 : News g L h8 ((I2, oI2) :: (C, oC) :: (D, LCg.lst ys) :: (I, oI) :: (L + 1 + 1, oP2) :: (ac, W.listOf vc.toArray kc) :: (L + 1, oM) :: (L + 1 + 1 + 1, o3) :: (ar, W.listOf vr2.toArray kr2) :: (ad, W.listOf vd.toArray kd') :: (st ++ tb2)) := N8
        have inst : ∀ q ∈ st, h8.get? q.1 = some q.2 := fun q hq => (N8 q (by repeat (first | exact List.mem_append_left _ hq | refine List.Mem.tail _ ?_))).1
        repeat' (first | (k_unfold; (try dsimp only)) | (k_end; wrow_close) | ((fail_if_success (with_reducible show wpAny _ _ (subscriptTail _ _ _ _) _ _ _)); walk1))
        refine PyProof.Rows.item_list (⟨_, inst _ S.hmarks, rfl, kM, rfl⟩ : Heap.IsList _ aM vM.toArray) (by omega) (by omega) (by simpa using hv1) ?_
        repeat' (first | (k_unfold; (try dsimp only)) | (k_end; wrow_close) | ((fail_if_success (with_reducible show wpAny _ _ (subscriptTail _ _ _ _) _ _ _)); walk1))
        refine PyProof.Rows.item_list (⟨_, inst _ S.hmarks, rfl, kM, rfl⟩ : Heap.IsList _ aM vM.toArray) (by omega) (by omega) (by simpa using hv2) ?_
        repeat' (first | (k_unfold; (try dsimp only)) | (k_end; wrow_close) | ((fail_if_success (with_reducible show wpAny _ _ (compareOp _ _ _) _ _ _)); walk1))
        refine le_lists (inst _ hm1) (inst _ hm2) hi1 hi2 (HL _ _).1 (by show 4 + 3 < cLine; decide) ?_
        rw [(HL _ _).2.1]
        repeat' (first | (k_unfold; (try dsimp only)) | (k_end; wrow_close) | ((fail_if_success (with_reducible show wpAny _ _ (ite _ _ _) _ _ _)); walk1))
        · refine LCg.CompEnd.intro F8 N9 _ (fun p hp => hp) off (.inr ⟨_, by k_mem, rfl, kd', rfl⟩) ⟨decide_eq_true (by assumption), rfl, _, rfl⟩
        · refine LCg.CompEnd.intro F8 N9 _ (fun p hp => hp) off (.inr ⟨_, by k_mem, rfl, kd', rfl⟩) ⟨decide_eq_false (by assumption), rfl⟩
      · intro ys hys
        rw [List.size_toArray, hvdl, List.take_of_length_le (by omega)] at hys
        have hcnt := hys.length
        rw [cast_filter_le] at hcnt
        have hcle := cntLe_len (row.map (keyOf n cs)) (keyOf n cs i)
        rw [List.length_map] at hcle
        generalize hcg : cntLe (row.map (keyOf n cs)) (keyOf n cs i) = cnt at *
        unfold LCg.FinE
        intro D6 h6 tk6 F6 N7 off6
        repeat' (first | (k_unfold; (try dsimp only)) | (k_end; wrow_close) | ((fail_if_success (with_reducible show wpAny _ _ (call (Value.builtin "len") _ _) _ _ _)); walk1))
        refine PyProof.Rows.len_list (News.isList N7 (.head _)) (by (simp only [List.size_toArray]); omega) ?_
        rw [show ((ys.toArray.size : Nat) : Int) = ((cnt : Nat) : Int) by rw [List.size_toArray, hcnt]]
        have N8 : News g L h6 ((I, oI) :: (L + 1 + 1, oP2) :: (ac, W.listOf vc.toArray kc) :: (L + 1, oM) :: (L + 1 + 1 + 1, o3) :: (ar, W.listOf vr2.toArray kr2) :: (ad, W.listOf vd.toArray kd') :: (st ++ tb2)) := fun p hp => N7 p (.tail _ hp)
        clear N7 off6
        repeat' (first | (k_unfold; (try dsimp only)) | (k_end; wrow_close) | ((fail_if_success (with_reducible show wpAny _ _ (call (Value.builtin "list.insert") _ _) _ _ _)); walk1))
        have hput := put_ints (i := cnt) (k := i) (t := t) hvd hcle
        refine kl_insert F6 N8 (fits_nat (by omega)) rfl (.tail (Ne.symm hI4) (.tail (neN (by omega)) (.tail hcd (.tail (neN (by omega)) (.tail (neN (by omega)) (.tail (neN (by omega)) (.head hAd))))))) (by (simp only [sizeLine, Array.length_toList, List.size_toArray]); omega) ?_
        intro h7 F7 N9
        k_steps
        refine LEnd.intro F7 N9 (.head _) ?_ ?_ ⟨putAt row cnt i, oP2, some (.int (i : Int) t), vr2, _, kr2, kd' + 1, tb2, rfl, rfl, rfl, rfl, rfl, rfl, dP2, hvr2, hput, by rw [putAt_length, hrl], putAt_lt hrk, ?_, ht2, htb2, fun p hp => hp⟩
        · refine List.forall_mem_cons.mpr ⟨by k_mem, List.forall_mem_cons.mpr ⟨by k_mem, List.forall_mem_cons.mpr ⟨by k_mem, List.forall_mem_cons.mpr ⟨by k_mem, fun q9 hq9 => ?_⟩⟩⟩⟩
          repeat (first | exact hq9 | refine List.Mem.tail _ ?_)
        · exact List.forall_mem_cons.mpr ⟨hI1, List.forall_mem_cons.mpr ⟨hI2, List.forall_mem_cons.mpr ⟨hI3, List.forall_mem_cons.mpr ⟨hI4, List.forall_mem_append.mpr ⟨hIs, hofI2⟩⟩⟩⟩⟩
        · rw [← hcg]; exact srt_put_le hsr
    · have hsz : row.length ≤ 5 := by omega
      have hT1 : RowTab ar row st ((ar, W.listOf vr.toArray kr') :: tb1) := ⟨vr, kr', tb1, rfl, hvr, ht1, fun q hq => (htb1 q hq).2.2.1⟩
      have hofI : ∀ q ∈ tb1, q.1 ≠ I := fun q hq => hof q (.tail _ (.tail _ (.tail _ (.tail _ (List.mem_append_right _ hq)))))
      have hsta : ∀ p ∈ st, ∀ q ∈ (ar, W.listOf vr.toArray kr') :: tb1, q.1 ≠ p.1 := fun p hp => List.forall_mem_cons.mpr ⟨Ne.symm (hst p hp).2.2.1, ht1.2 p hp⟩
      have hoffS : ∀ p ∈ (I, oI) :: (L + 1 + 1, oP2) :: (ac, W.listOf vc.toArray kc) :: (L + 1, oM) :: (L + 1 + 1 + 1, o3) :: (ad, W.listOf vd.toArray kd') :: st, ∀ q ∈ (ar, W.listOf vr.toArray kr') :: tb1, q.1 ≠ p.1 := by
        refine List.forall_mem_cons.mpr ⟨List.forall_mem_cons.mpr ⟨hI3, hofI⟩, List.forall_mem_cons.mpr ⟨List.forall_mem_cons.mpr ⟨neN (by omega), fun q hq => (htb1 q hq).1⟩, List.forall_mem_cons.mpr ⟨hsta _ S.hcells, List.forall_mem_cons.mpr ⟨hsta _ S.hmcell, List.forall_mem_cons.mpr ⟨List.forall_mem_cons.mpr ⟨neN (by omega), fun q hq => (htb1 q hq).2.1⟩, List.forall_mem_cons.mpr ⟨List.forall_mem_cons.mpr ⟨neN (by omega), fun q hq => (htb1 q hq).2.2.2⟩, hsta⟩⟩⟩⟩⟩⟩
      with_unfolding_all refine' TSpec2.use ((I, oI) :: (L + 1 + 1, oP2) :: (ac, W.listOf vc.toArray kc) :: (L + 1, oM) :: (L + 1 + 1 + 1, o3) :: (ad, W.listOf vd.toArray kd') :: st) (insl_t prog w ar f9 row i t st 86 cs.length (keyOf n cs) S.key S.fn (fun p hp => (hst p hp).2.2.1) (fun k hk => Nat.lt_trans (hrk k hk) hi) hi hsr (by omega)) B FS2 X NS2 T C1 C2 hT1 ?cntLtq1 ?cntLtq2 ?cntLtq3 ?cntLtq4 ?cntLtq5 ?cntLtq6 hoffS ?_
      case cntLtq1 => exact rfl
      case cntLtq2 => decide
      case cntLtq3 => decide
      case cntLtq4 => exact fun p hp => (NS2 p (by repeat (first | exact List.mem_append_left _ hp | refine List.Mem.tail _ ?_))).1
      case cntLtq5 => exact List.forall_mem_cons.mpr ⟨by k_mem, fun p hp => by repeat (first | exact List.mem_append_right _ hp | refine List.Mem.tail _ ?_)⟩
      case cntLtq6 =>
        refine List.forall_mem_cons.mpr ⟨by k_mem, List.forall_mem_cons.mpr ⟨by k_mem, List.forall_mem_cons.mpr ⟨by k_mem, List.forall_mem_cons.mpr ⟨by k_mem, List.forall_mem_cons.mpr ⟨by k_mem, List.forall_mem_cons.mpr ⟨by k_mem, fun p hp => ?_⟩⟩⟩⟩⟩⟩
        repeat (first | exact List.mem_append_left _ hp | refine List.Mem.tail _ ?_)
      rintro r5 h5 tk5 res5 tb5 hT5 hs5 F5 N5 l5 lL5 o5 ⟨rfl, rfl⟩
      obtain ⟨vr2, kr2, tb2, rfl, hvr2, ht2, hn2⟩ := hT5
      have o5c : ∀ p ∈ (I, oI) :: (L + 1 + 1, oP2) :: (ac, W.listOf vc.toArray kc) :: (L + 1, oM) :: (L + 1 + 1 + 1, o3) :: (ad, W.listOf vd.toArray kd') :: st, ∀ q ∈ tb2, q.1 ≠ p.1 := fun p hp q hq => o5 p hp q (.tail _ hq)
      have htb2 : ∀ q ∈ tb2, q.1 ≠ L + 1 + 1 ∧ q.1 ≠ L + 1 + 1 + 1 ∧ q.1 ≠ ar ∧ q.1 ≠ ad := fun q hq => ⟨o5c _ (.tail _ (.head _)) q hq, o5c _ (.tail _ (.tail _ (.tail _ (.tail _ (.head _))))) q hq, hn2 q hq, o5c _ (.tail _ (.tail _ (.tail _ (.tail _ (.tail _ (.head _)))))) q hq⟩
      have hofI2 : ∀ q ∈ tb2, q.1 ≠ I := fun q hq => o5c _ (.head _) q hq
      have N6 : News g L h5 ((I, oI) :: (L + 1 + 1, oP2) :: (ac, W.listOf vc.toArray kc) :: (L + 1, oM) :: (L + 1 + 1 + 1, o3) :: (ar, W.listOf vr2.toArray kr2) :: (ad, W.listOf vd.toArray kd') :: (st ++ tb2)) := by
        refine news_of N5 ?_
        simp only [List.nil_append, List.cons_append]
        refine List.forall_mem_cons.mpr ⟨by k_mem, List.forall_mem_cons.mpr ⟨by k_mem, List.forall_mem_cons.mpr ⟨by k_mem, List.forall_mem_cons.mpr ⟨by k_mem, List.forall_mem_cons.mpr ⟨by k_mem, List.forall_mem_cons.mpr ⟨?_, List.forall_mem_cons.mpr ⟨by k_mem, fun p hp => ?_⟩⟩⟩⟩⟩⟩⟩
        · repeat (first | exact List.mem_append_right _ (.head _) | refine List.Mem.tail _ ?_)
        · rcases List.mem_append.mp hp with hp | hp
          · repeat (first | exact List.mem_append_left _ hp | refine List.Mem.tail _ ?_)
          · repeat (first | exact List.mem_append_right _ (.tail _ hp) | refine List.Mem.tail _ ?_)
      have hAd : ∀ q ∈ st ++ tb2, q.1 ≠ ad := List.forall_mem_append.mpr ⟨fun q hq => (hst q hq).2.2.2, fun q hq => (htb2 q hq).2.2.2⟩
      have hcd : @Ne Nat ac ad := (hst _ S.hcells).2.2.2
      clear N5 l5 lL5 o5 o5c hs5 hT1 hofI hsta hoffS NS2 FS2
      repeat' (first | (k_unfold; (try dsimp only)) | (k_end; wrow_close) | ((fail_if_success (with_reducible show wpAny _ _ (eval (PySem.Expr.ListComp _ _ _ _) _) _ _ _)); walk1))
      have hvdl := hvd.length
      rw [castRow, List.length_map, hrl] at hvdl
      have hmc := S.mcell
      k_dflt (refine LCt.ListComp_T (F₀ := F5) (by with_unfolding_all rfl) (by decide) (by rfl) (by decide) (by rfl) ?_)
      repeat' (first | (k_unfold; (try dsimp only)) | (k_end; wrow_close) | ((fail_if_success (with_reducible show LCt.CompSrcT _ _ _ _ _ _ _ _ _ _ _ _ _ _ _)); walk1))
      refine LCt.CompSrcT.ledger (by rfl) F5 N6 (by k_mem) (by (simp only [List.size_toArray, sizeLine]); omega) ?_
      intro g'
      refine compT_ints (fun j => castRow ((row.take j).filter fun k => decide (keyOf n cs k < keyOf n cs i))) (fun j => decide (keyOf n cs (row.getD j 0) < keyOf n cs i)) (fun j => ((row.getD j 0 : Nat) : Int)) rfl ?_ ?_ ?_
      · intro j hj
        have hj2 : j < row.length := by rw [List.size_toArray, hvdl] at hj; omega
        have e1 : row.getD j 0 = row[j] := by simp [List.getD, hj2]
        rw [e1, List.take_add_one, List.getElem?_eq_getElem hj2]
        unfold castRow
        rw [List.filter_append, List.map_append]
        by_cases q : keyOf n cs row[j] < keyOf n cs i
        · simp [q]
        · simp [q]
      · intro j v ys I2 oI2 C oC D m2 h8 tk8 E8 hj hP hC hx F8 N8 off ne
        have hj2 : j < row.length := by rw [List.size_toArray, hvdl] at hj; omega
        have e1 : row.getD j 0 = row[j] := by simp [List.getD, hj2]
        rw [e1]
        obtain ⟨u8, hu8⟩ := hvd.get j ((row[j] : Nat) : Int) (by simp [castRow, hj2])
        have hP2 : vd[j]? = some v := by simpa using hP
        rw [hu8] at hP2
        cases hP2
        have hkj : row[j] < cs.length := Nat.lt_trans (hrk _ (List.getElem_mem hj2)) hi
        obtain ⟨am1, vm1, km1, hv1, hm1, hi1⟩ := S.marks.2 row[j] hkj
        obtain ⟨am2, vm2, km2, hv2, hm2, hi2⟩ := S.marks.2 i hi
        have N9 : News g L h8 ((I2, oI2) :: (C, oC) :: (D, LCg.lst ys) :: (I, oI) :: (L + 1 + 1, oP2) :: (ac, W.listOf vc.toArray kc) :: (L + 1, oM) :: (L + 1 + 1 + 1, o3) :: (ar, W.listOf vr2.toArray kr2) :: (ad, W.listOf vd.toArray kd') :: (st ++ tb2)) := N8
        have inst : ∀ q ∈ st, h8.get? q.1 = some q.2 := fun q hq => (N8 q (by repeat (first | exact List.mem_append_left _ hq | refine List.Mem.tail _ ?_))).1
        repeat' (first | (k_unfold; (try dsimp only)) | (k_end; wrow_close) | ((fail_if_success (with_reducible show wpAny _ _ (subscriptTail _ _ _ _) _ _ _)); walk1))
        refine PyProof.Rows.item_list (⟨_, inst _ S.hmarks, rfl, kM, rfl⟩ : Heap.IsList _ aM vM.toArray) (by omega) (by omega) (by simpa using hv1) ?_
        repeat' (first | (k_unfold; (try dsimp only)) | (k_end; wrow_close) | ((fail_if_success (with_reducible show wpAny _ _ (subscriptTail _ _ _ _) _ _ _)); walk1))
        refine PyProof.Rows.item_list (⟨_, inst _ S.hmarks, rfl, kM, rfl⟩ : Heap.IsList _ aM vM.toArray) (by omega) (by omega) (by simpa using hv2) ?_
        repeat' (first | (k_unfold; (try dsimp only)) | (k_end; wrow_close) | ((fail_if_success (with_reducible show wpAny _ _ (compareOp _ _ _) _ _ _)); walk1))
        refine lt_lists (inst _ hm1) (inst _ hm2) hi1 hi2 (HL _ _).1 (by show 4 + 3 < cLine; decide) ?_
        rw [(HL _ _).2.2]
        repeat' (first | (k_unfold; (try dsimp only)) | (k_end; wrow_close) | ((fail_if_success (with_reducible show wpAny _ _ (ite _ _ _) _ _ _)); walk1))
        · refine LCg.CompEnd.intro F8 N9 _ (fun p hp => hp) off (.inr ⟨_, by k_mem, rfl, kd', rfl⟩) ⟨decide_eq_true (by assumption), rfl, _, rfl⟩
        · refine LCg.CompEnd.intro F8 N9 _ (fun p hp => hp) off (.inr ⟨_, by k_mem, rfl, kd', rfl⟩) ⟨decide_eq_false (by assumption), rfl⟩
      · intro ys hys
        rw [List.size_toArray, hvdl, List.take_of_length_le (by omega)] at hys
        have hcnt := hys.length
        rw [cast_filter_lt] at hcnt
        have hcle := cntLt_len (row.map (keyOf n cs)) (keyOf n cs i)
        rw [List.length_map] at hcle
        generalize hcg : cntLt (row.map (keyOf n cs)) (keyOf n cs i) = cnt at *
        unfold LCg.FinE
        intro D6 h6 tk6 F6 N7 off6
        repeat' (first | (k_unfold; (try dsimp only)) | (k_end; wrow_close) | ((fail_if_success (with_reducible show wpAny _ _ (call (Value.builtin "len") _ _) _ _ _)); walk1))
        refine PyProof.Rows.len_list (News.isList N7 (.head _)) (by (simp only [List.size_toArray]); omega) ?_
        rw [show ((ys.toArray.size : Nat) : Int) = ((cnt : Nat) : Int) by rw [List.size_toArray, hcnt]]
        have N8 : News g L h6 ((I, oI) :: (L + 1 + 1, oP2) :: (ac, W.listOf vc.toArray kc) :: (L + 1, oM) :: (L + 1 + 1 + 1, o3) :: (ar, W.listOf vr2.toArray kr2) :: (ad, W.listOf vd.toArray kd') :: (st ++ tb2)) := fun p hp => N7 p (.tail _ hp)
        clear N7 off6
        repeat' (first | (k_unfold; (try dsimp only)) | (k_end; wrow_close) | ((fail_if_success (with_reducible show wpAny _ _ (call (Value.builtin "list.insert") _ _) _ _ _)); walk1))
        have hput := put_ints (i := cnt) (k := i) (t := t) hvd hcle
        refine kl_insert F6 N8 (fits_nat (by omega)) rfl (.tail (Ne.symm hI4) (.tail (neN (by omega)) (.tail hcd (.tail (neN (by omega)) (.tail (neN (by omega)) (.tail (neN (by omega)) (.head hAd))))))) (by (simp only [sizeLine, Array.length_toList, List.size_toArray]); omega) ?_
        intro h7 F7 N9
        k_steps
        refine LEnd.intro F7 N9 (.head _) ?_ ?_ ⟨putAt row cnt i, oP2, some (.int (i : Int) t), vr2, _, kr2, kd' + 1, tb2, rfl, rfl, rfl, rfl, rfl, rfl, dP2, hvr2, hput, by rw [putAt_length, hrl], putAt_lt hrk, ?_, ht2, htb2, fun p hp => hp⟩
        · refine List.forall_mem_cons.mpr ⟨by k_mem, List.forall_mem_cons.mpr ⟨by k_mem, List.forall_mem_cons.mpr ⟨by k_mem, List.forall_mem_cons.mpr ⟨by k_mem, fun q9 hq9 => ?_⟩⟩⟩⟩
          repeat (first | exact hq9 | refine List.Mem.tail _ ?_)
        · exact List.forall_mem_cons.mpr ⟨hI1, List.forall_mem_cons.mpr ⟨hI2, List.forall_mem_cons.mpr ⟨hI3, List.forall_mem_cons.mpr ⟨hI4, List.forall_mem_append.mpr ⟨hIs, hofI2⟩⟩⟩⟩⟩
        · rw [← hcg]; exact srt_put_lt hsr
  · intro m₁ nx h tk hJ F₁ N₁
    obtain ⟨row, oP, x0, vr, vd, kr', kd', tb1, j1, j2, j3, j4, j5, j6, dP, hvr, hvd, hrl, hrk, hsr, ht1, htb1, jn⟩ := hJ
    have F₂ : Fr g L h _ := fr_lit [(Str.ofString "leads", .ref al), (Str.ofString "sought", .str (text (leadCodes so)) ts), (Str.ofString "worth", .ref f9), (Str.ofString "row", .ref ar), (Str.ofString "due", .ref ad)] (by intro q hq; simp only [List.mem_cons, List.not_mem_nil, or_false] at hq; rcases hq with rfl | rfl | rfl | rfl | rfl <;> assumption) F₁
    have N₂ : News g L h ((L + 1 + 1 + 1, o3) :: (ar, W.listOf vr.toArray kr') :: (ad, W.listOf vd.toArray kd') :: (st ++ tb1)) := fun q hq => N₁ q (jn q (.tail _ hq))
    exact law_end prog w p loose mean mg mb fa g L _ Q E _ n hn cs hcs (leadCodes so) ts f9 ac al aM ar ad vc vl vM vr vd kc kl kM kr' kd' oM oS o3 tS tM st tb1 row (HT _) HT (fun x => HL x _) S d3 hvr hvd hrl hrk hsr B X T C1 C2 F₂ N₂ ht1 (fun q hq => (htb1 q hq).2) (fun q hq => (hst q hq).2) har had (neN (hst _ S.hleads).2.1) hK (fun h' tk' hk hg => hret h' tk' hk hg)

-- needs: B_lead C_walk D_white E_digits F_int2 G_div H_divpos I_fold J_ind K_told L_bisr L_bisl L_insr L_insl M_lc M_lb
local macro_rules | `(tactic| k_all) => `(tactic| first | assumption | fail "k_all: no fact")
theorem law_main (prog : Program) (w : World) (p : Program) (loose : List Str) (mean : ExcName → Option Value) (mg mb : Str → Option Value) (fa : Addr) (g : Heap) (L ls : Addr) (vs : List Value) (ns : List Int) (s : Shared) (Q : Flow → Shared → Prop) (E : Value → Shared → Prop) (m : Str → Option Value)
    (o1 o2 o3 o4 o5 : Obj) (d1 : o1.data = .cell none) (d2 : o2.data = .cell none) (d3 : o3.data = .cell none) (d4 : o4.data = .cell none) (d5 : o5.data = .cell none)
    (B : Below callerA g [] g) (X : (hd.heap_1 w.params).In g) (T : Top p loose mean mg mb g) (C1 : CodeHd g 41 37) (C2 : CodeHd g 48 44) (C3 : CodeHd g 184 182) (hl : g.IsList ls vs.toArray) (hi : IntsAre vs ns) (hlen : ns.length ≤ 63)
    (F : Fr g L s.heap (kstB m [(Str.ofString "script", .ref ls)])) (hK : @LT.lt Nat _ 185 L)
    (N : News g L s.heap [(L + 1 + 1 + 1 + 1 + 1, o5), (L + 1 + 1 + 1 + 1, o4), (L + 1 + 1 + 1, o3), (L + 1 + 1, o2), (L + 1, o1), (37, tabObj #[]), (44, tabObj #[]), (182, tabObj #[])])
    (hE : PassesOwn (model prog w) (callerA.deeper (envOfC (Str.ofString "law") lawScope L fa (.ref 184))) (envOfC (Str.ofString "law") lawScope L fa (.ref 184)) E)
    (HT : ∀ n, 1 ≤ n ∧ n ≤ 6 → ∀ x, ToldOk n (leadCodes x)) (HL : ∀ n, 1 ≤ n ∧ n ≤ 6 → ∀ x y, LexOk n (leadCodes x) (leadCodes y))
    (hret : ∀ (h' : Heap) (tk : Nat), (∀ b o, g.get? b = some o → h'.get? b = some o) → GrownAll [(41, 37), (48, 44), (184, 182)] h' → Q (.ret (.bool true)) { s with heap := h', toks := tk }) :
    wpAny (model prog w) (callerA.deeper (envOfC (Str.ofString "law") lawScope L fa (.ref 184))) (execs lawBody (envOfC (Str.ofString "law") lawScope L fa (.ref 184))) Q E s := by
  have eB : lawBody = [_, _, _, _, _, _, _, _, _, _, _, _, _, _, _, _, _] := rfl
  have eS : lawScope = { kind := _, names := _, isGenerator := _, isCoroutine := _, more := _ } := rfl
  rw [eB, eS]
  rw [eS] at hE
  clear eB
  have eS0 := eS
  have hb6 : 0 ≤ (ns.sum + 2).fmod 6 ∧ (ns.sum + 2).fmod 6 < 6 := ⟨Int.fmod_nonneg_of_pos _ (by decide), Int.fmod_lt_of_pos _ (by decide)⟩
  obtain ⟨n, en, hn⟩ : ∃ n : Nat, 1 + (ns.sum + 2).fmod 6 = (n : Int) ∧ 1 ≤ n ∧ n ≤ 6 := ⟨(1 + (ns.sum + 2).fmod 6).toNat, by omega, by omega, by omega⟩
  clear hb6
  repeat' (first | (k_unfold; (try dsimp only)) | (k_end; wrow_close) | ((fail_if_success (with_reducible show wpAny _ _ (storeName _ (PySem.Str.ofString "size") _) _ _ _)); walk1))
  rw [en]
  repeat' (first | (k_unfold; (try dsimp only)) | (k_end; wrow_close) | ((fail_if_success (with_reducible show wpAny _ _ (exec (Stmt.Assign _ (PySem.Expr.ListComp _ _ _ _) _) _) _ _ _)); walk1))
  rename Fr _ _ _ _ => F1
  rename News _ _ _ _ => N1
  rename Obj.data _ = Data.cell (some (Value.int (n : Int) _)) => dS
  rename IntsAre _ (_ ++ _) => hvc
  rename Obj => oS
  rename Heap => h8
  obtain ⟨cs, hcsd⟩ : ∃ cs : List Int, ([1964, 2470] : List Int) ++ List.take (Int.toNat 3) ns = cs := ⟨_, rfl⟩
  rw [hcsd] at hvc
  have hcs : 2 ≤ cs.length ∧ cs.length ≤ 5 := by
    rw [← hcsd, List.length_append, List.length_take]
    simp only [List.length_cons, List.length_nil]
    omega
  obtain ⟨ac, vc, kc, m2, hvc, F2, lac, N2⟩ : ∃ (ac : Addr) (vc : List Value) (kc : Nat) (m2 : Str → Option Value), IntsAre vc cs ∧ Fr g L h8 (kstB m2 [(Str.ofString "script", .ref ls), (Str.ofString "cells", .ref ac)]) ∧ @LT.lt Nat _ (L + 1 + 1 + 1 + 1 + 1) ac ∧
      News g L h8 ((L + 1 + 1 + 1 + 1 + 1, o5) :: (L + 1 + 1 + 1 + 1, oS) :: (L + 1 + 1 + 1, o3) :: (L + 1 + 1, o2) :: (L + 1, o1) :: (ac, W.listOf vc.toArray kc) :: (37, tabObj #[]) :: (44, tabObj #[]) :: (182, tabObj #[]) :: []) := by
    obtain ⟨m9, F9⟩ := fr_snoc1 F1 (by decide)
    refine' ⟨_, _, _, _, hvc, F9, ?l, news_of N1 ?n⟩
    case l => refine ltN ?_; omega
    case n => refine List.forall_mem_cons.mpr ⟨by k_mem, List.forall_mem_cons.mpr ⟨by k_mem, List.forall_mem_cons.mpr ⟨by k_mem, List.forall_mem_cons.mpr ⟨by k_mem, List.forall_mem_cons.mpr ⟨by k_mem, List.forall_mem_cons.mpr ⟨by k_mem, List.forall_mem_cons.mpr ⟨by k_mem, List.forall_mem_cons.mpr ⟨by k_mem, List.forall_mem_cons.mpr ⟨by k_mem, List.forall_mem_nil _⟩⟩⟩⟩⟩⟩⟩⟩⟩
  clear F1 N1 hcsd
  have hvcl := hvc.length
  k_dflt (refine LCg.Assign_ListComp_U (F₀ := F2) (by rfl) (by with_unfolding_all rfl) (by with_unfolding_all rfl) (by decide) (by rfl) (by decide) (by rfl) (by rfl) (by rfl) ?_)
  repeat' (first | (k_unfold; (try dsimp only)) | (k_end; wrow_close) | ((fail_if_success (with_reducible show LCg.CompSrc _ _ _ _ _ _ _ _ _ _ _ _ _ _)); walk1))
  refine LCg.CompSrc.ledger (by rfl) F2 N2 (by k_mem) (by (simp only [List.size_toArray, sizeLine]); omega) ?_
  intro g'
  refine comp_gen (fun i y => ∃ t : Tok, y = Value.str (leadText (cs.getD i 0)) t) ?_ ?_
  · intro i v ys I oI C oC D m₂ h tk E' hi hP hC hx F₁ N₁ off ne
    have hi2 : i < cs.length := by rw [List.size_toArray, hvcl] at hi; exact hi
    obtain ⟨u8, hu8⟩ := hvc.get i cs[i] (by simp [hi2])
    have hP2 : vc[i]? = some v := by simpa using hP
    rw [hu8] at hP2
    cases hP2
    have e1 : cs.getD i 0 = cs[i] := by simp [List.getD, hi2]
    rw [e1]
    repeat' (first | (k_unfold; (try dsimp only)) | (k_end; wrow_close) | ((fail_if_success (with_reducible show wpAny _ _ (call (Value.ref 163) _ _) _ _ _)); walk1))
    with_unfolding_all refine' Pure.use (lead_pure prog w cs[i] u8) B F₁ X N₁ T ?a1 ?a2 ?a3 trivial ?_
    case a1 => exact rfl
    case a2 => decide
    case a3 => decide
    rintro r5 h5 tk5 res5 st5 F5 N5 l5 ⟨rfl, t5, rfl⟩
    simp only [List.nil_append] at N5
    repeat' (first | (k_unfold; (try dsimp only)) | (k_end; wrow_close) | ((fail_if_success (with_reducible show LCg.CompEnd _ _ _ _ _ _ _ _ _ _ _ _ _ _)); walk1))
    refine LCg.CompEnd.intro F5 N5 _ (fun p hp => hp) off (.inr ⟨_, by k_mem, rfl, kc, rfl⟩) ⟨rfl, _, rfl⟩
  · intro ys hl9 hr9
    unfold LCg.FinA
    intro D5 h5 tk5 F5 N5 off5
    rw [List.size_toArray, hvcl] at hl9
    have hvl : StrsAre ys (cs.map leadText) := strs_map leadText hl9 hr9
    have hvll := hvl.len_eq
    rw [List.length_map] at hvll
    have F6 : Fr g L h5 _ := fr_lit [(Str.ofString "script", .ref ls), (Str.ofString "cells", .ref ac), (Str.ofString "leads", .ref D5)] (by intro q hq; simp only [List.mem_cons, List.not_mem_nil, or_false] at hq; rcases hq with rfl | rfl | rfl <;> rfl) F5
    simp only [LCg.Off1, and_true] at off5
    clear F5 hr9 N2 F2
    repeat' (first | (k_unfold; (try dsimp only)) | (k_end; wrow_close) | ((fail_if_success (with_reducible show wpAny _ _ (call (Value.ref 163) _ _) _ _ _)); walk1))
    rename Fr _ _ _ _ => F7
    rename News _ _ _ _ => N7
    generalize ns.sum.fdiv 6 + 500 = so at *
    with_unfolding_all refine' Pure.use (lead_pure prog w so _) B F7 X N7 T ?b1 ?b2 ?b3 trivial ?_
    case b1 => exact rfl
    case b2 => decide
    case b3 => decide
    rintro r6 h6 tk6 res6 st6 F8 N8 l6 ⟨rfl, t6, rfl⟩
    simp only [List.nil_append] at N8
    clear l6 st6 F7 N7
    repeat' (first | (k_unfold; (try dsimp only)) | (k_end; wrow_close) | ((fail_if_success (with_reducible show wpAny _ _ (exec (Stmt.Assign _ (PySem.Expr.ListComp _ _ _ _) _) _) _ _ _)); walk1))
    refine wpAny_Assign_Name ?_
    rename Fr _ _ _ _ => F9
    rename News _ _ _ _ => N9
    k_dflt (refine LCg.ListComp_U (F₀ := F9) (by with_unfolding_all rfl) (by decide) (by rfl) (by decide) (by rfl) ?_)
    repeat' (first | (k_unfold; (try dsimp only)) | (k_end; wrow_close) | ((fail_if_success (with_reducible show LCg.CompSrc _ _ _ _ _ _ _ _ _ _ _ _ _ _)); walk1))
    refine LCg.CompSrc.ledger (by rfl) F9 N9 (by k_mem) (by (simp only [List.size_toArray, sizeLine]); omega) ?_
    intro g2
    refine comp_grow (WhitesG w cs (L + 1 + 1 + 1 + 1 + 1) _) ⟨[], rfl, fun _ hp => (nomatch hp), rfl, fun j hj => absurd hj (Nat.not_lt_zero _)⟩ ?_ ?_
    · intro i v ys2 news I oI C oC D m₂ h tk E' hi hP hG hC hx F₁ N₁ off ne
      have hi2 : i < cs.length := by rw [List.size_toArray, hl9] at hi; exact hi
      obtain ⟨u8, hu8⟩ := strs_get hvl (i := i) (x := leadText (cs.getD i 0)) (by simp [List.getD, hi2])
      have hP2 : ys[i]? = some v := by simpa using hP
      rw [hu8] at hP2
      cases hP2
      have HTi := HT n hn (cs.getD i 0)
      have htl : (leadText (cs.getD i 0)).length ≤ 24 := by
        have := HTi.len
        rw [show leadText (cs.getD i 0) = text (leadCodes (cs.getD i 0)) from rfl, text_len]; exact this
      repeat' (first | (k_unfold; (try dsimp only)) | (k_end; wrow_close) | ((fail_if_success (with_reducible show wpAny _ _ (call (Value.ref 154) _ _) _ _ _)); walk1))
      rw [show leadText (cs.getD i 0) ++ Str.ofString "x\t " = text (leadCodes (cs.getD i 0) ++ [120, 9, 32]) from text_append _ _]
      with_unfolding_all refine' Pure.use (white_init prog w (leadCodes (cs.getD i 0)) [120, 9, 32] _ HTi.len HTi.signs (.inr ⟨_, rfl⟩) (by decide)) B F₁ X N₁ T ?c1 ?c2 ?c3 trivial ?_
      case c1 => exact rfl
      case c2 => decide
      case c3 => decide
      rintro r10 h10 tk10 res10 st10 F10 N10 l10 ⟨xw, dw, nw, cw, vw, rfl, hres⟩
      have hbm : ∀ p ∈ news, ∀ q ∈ res10, p.1 < q.1 := fun p hp q hq => l10 q hq p (.tail _ (.tail _ (.tail _ hp)))
      have hsn := hG.snoc hres (fun q hq => hbm (L + 1 + 1 + 1 + 1 + 1, o5) (by obtain ⟨wt, rfl, _⟩ := hG; exact List.mem_append_right _ (.tail _ (.head _))) q hq)
      refine LCg.CompEnd.intro F10 N10 (res10 ++ news) mem_shift (off3_grow l10 off) (.inr ⟨LCg.lst ys, ?_, rfl, ys.length, rfl⟩) hsn
      obtain ⟨wt, rfl, _⟩ := hG
      exact List.mem_append_right _ (List.mem_append_right _ (.head _))
    · intro ys3 news3 hG3
      obtain ⟨wt, rfl, hw1, hw2, hw3⟩ := hG3
      unfold LCg.FinE
      intro D7 h7 tk7 F10 N10 off7
      have o7 := off1_mem off7
      have N11 : News g L h7 ((D7, LCg.lst ys3) :: (D5, LCg.lst ys) :: (L + 1 + 1 + 1 + 1 + 1, o5) :: (L + 1 + 1 + 1 + 1, oS) :: (L + 1 + 1 + 1, o3) :: (L + 1 + 1, o2) :: (L + 1, o1) :: (ac, W.listOf vc.toArray kc) :: (37, tabObj #[]) :: (44, tabObj #[]) :: (182, tabObj #[]) :: wt) := by
        refine news_of N10 (List.forall_mem_cons.mpr ⟨.head _, fun q hq => .tail _ (mem_swap q hq)⟩)
      have hW5 : ∀ q ∈ wt, q.1 ≠ L + 1 + 1 + 1 + 1 + 1 := fun q hq => neN (by have := hw1 q hq; omega)
      have q1 := o7 (D5, LCg.lst ys) (List.mem_append_right _ (by k_mem))
      have q2 := o7 (L + 1 + 1 + 1 + 1 + 1, o5) (List.mem_append_right _ (by k_mem))
      have q3 := o7 (L + 1 + 1 + 1 + 1, oS) (List.mem_append_right _ (by k_mem))
      have q4 := o7 (L + 1 + 1 + 1, o3) (List.mem_append_right _ (by k_mem))
      have q5 := o7 (L + 1 + 1, o2) (List.mem_append_right _ (by k_mem))
      have q6 := o7 (L + 1, o1) (List.mem_append_right _ (by k_mem))
      have q7 := o7 (ac, W.listOf vc.toArray kc) (List.mem_append_right _ (by k_mem))
      have q8 := o7 ((37 : Addr), tabObj #[]) (List.mem_append_right _ (by k_mem))
      have q9 := o7 ((44 : Addr), tabObj #[]) (List.mem_append_right _ (by k_mem))
      have q10 := o7 ((182 : Addr), tabObj #[]) (List.mem_append_right _ (by k_mem))
      dsimp only at q1 q2 q3 q4 q5 q6 q7 q8 q9 q10
      clear N10 off7 o7 N9 F9
      walk1
      rename Obj.data _ = Data.cell (some (Value.ref D7)) => dW
      rename Obj => oW
      repeat' (first | (k_unfold; (try dsimp only)) | (k_end; wrow_close) | ((fail_if_success (with_reducible show wpAny _ _ (exec (Stmt.Assign _ (PySem.Expr.ListComp _ _ _ _) _) _) _ _ _)); walk1))
      refine wpAny_Assign_Name ?_
      rename Fr _ _ _ _ => F12
      rename News _ _ _ _ => N12
      k_dflt (refine LCg.ListComp_U (F₀ := F12) (by with_unfolding_all rfl) (by decide) (by rfl) (by decide) (by rfl) ?_)
      repeat' (first | (k_unfold; (try dsimp only)) | (k_end; wrow_close) | ((fail_if_success (with_reducible show LCg.CompSrc _ _ _ _ _ _ _ _ _ _ _ _ _ _)); walk1))
      refine LCg.CompSrc.ledger (by rfl) F12 N12 (by k_mem) (by (simp only [List.size_toArray, sizeLine]); omega) ?_
      intro g3
      refine comp_grow (MarksG n cs (L + 1 + 1 + 1 + 1 + 1) _) ⟨[], rfl, fun _ hp => (nomatch hp), rfl, fun j hj => absurd hj (Nat.not_lt_zero _)⟩ ?_ ?_
      · intro i v ys2 news I oI C oC D m₂ h tk E' hi hP hG hC hx F₁ N₁ off ne
        have hi2 : i < cs.length := by rw [List.size_toArray, hl9] at hi; exact hi
        obtain ⟨u8, hu8⟩ := strs_get hvl (i := i) (x := leadText (cs.getD i 0)) (by simp [List.getD, hi2])
        have hP2 : ys[i]? = some v := by simpa using hP
        rw [hu8] at hP2
        cases hP2
        have HTi := HT n hn (cs.getD i 0)
        have hbase : ∀ p ∈ (D7, LCg.lst ys3) :: (D5, LCg.lst ys) :: (L + 1 + 1 + 1 + 1 + 1, oW) :: (L + 1 + 1 + 1 + 1, oS) :: [], p ∈ news := by
          obtain ⟨wt2, rfl, _⟩ := hG
          refine List.forall_mem_cons.mpr ⟨List.mem_append_right _ (by k_mem), List.forall_mem_cons.mpr ⟨List.mem_append_right _ (by k_mem), List.forall_mem_cons.mpr ⟨List.mem_append_right _ (by k_mem), List.forall_mem_cons.mpr ⟨List.mem_append_right _ (by k_mem), List.forall_mem_nil _⟩⟩⟩⟩
        have N2' : News g L h ((L + 1 + 1 + 1 + 1, oS) :: (I, oI) :: (C, oC) :: (D, LCg.lst ys2) :: news) := List.forall_mem_cons.mpr ⟨N₁ _ (.tail _ (.tail _ (.tail _ (hbase _ (by k_mem))))), N₁⟩
        repeat' (first | (k_unfold; (try dsimp only)) | (k_end; wrow_close) | ((fail_if_success (with_reducible show wpAny _ _ (call (Value.ref 168) _ _) _ _ _)); walk1))
        with_unfolding_all refine' Pure.use (walk_pure prog w (leadCodes (cs.getD i 0)) _ n _ hn HTi.len) B F₁ X N₁ T ?d1 ?d2 ?d3 trivial ?_
        case d1 => exact rfl
        case d2 => decide
        case d3 => decide
        rintro r13 h13 tk13 res13 st13 F13 N13 l13 ⟨al2, aw2, as2, vw2, vs2, tc2, ka2, kw2, ks2, c2, b2, ws2, ss2, hwk2, rfl, rfl, hi21, hi22⟩
        have ew : ws2 = wideOf n (leadCodes (cs.getD i 0)) := by unfold wideOf; rw [← hwk2]
        subst ew
        have hsn := hG.snoc (am := aw2) (vm := vw2) (km := kw2) (res := [(al2, W.listOf #[.int c2 tc2, .ref aw2, .ref as2] ka2), (as2, W.listOf vs2.toArray ks2), (aw2, W.listOf vw2.toArray kw2)]) (by k_mem) hi21 (fun q hq => l13 q hq (L + 1 + 1 + 1 + 1 + 1, oW) (.tail _ (.tail _ (.tail _ (hbase _ (by k_mem))))))
        have off2 := off3_grow l13 off
        have N14 := N13
        simp only [List.cons_append, List.nil_append] at N13
        clear N2'
        repeat' (first | (k_unfold; (try dsimp only)) | (k_end; wrow_close) | ((fail_if_success (with_reducible show LCg.CompEnd _ _ _ _ _ _ _ _ _ _ _ _ _ _)); walk1))
        refine LCg.CompEnd.intro F13 N14 _ mem_shift off2 (.inr ⟨LCg.lst ys, List.mem_append_right _ (hbase _ (by k_mem)), rfl, ys.length, rfl⟩) hsn
      · intro ys4 news4 hG4
        obtain ⟨wt2, rfl, hv1, hv2, hv3⟩ := hG4
        unfold LCg.FinE
        intro D8 h8 tk8 F13 N13 off8
        have o8 := off1_mem off8
        have N14 : News g L h8 (((D8, LCg.lst ys4) :: (D7, LCg.lst ys3) :: (D5, LCg.lst ys) :: (L + 1 + 1 + 1 + 1 + 1, oW) :: (L + 1 + 1 + 1 + 1, oS) :: (L + 1 + 1 + 1, o3) :: (L + 1 + 1, o2) :: (L + 1, o1) :: (ac, W.listOf vc.toArray kc) :: (37, tabObj #[]) :: (44, tabObj #[]) :: (182, tabObj #[]) :: []) ++ (wt2 ++ wt)) := by
          refine news_of N13 (List.forall_mem_cons.mpr ⟨.head _, fun q hq => .tail _ ?_⟩)
          exact mem_perm (a := [(D7, LCg.lst ys3), (D5, LCg.lst ys), (L + 1 + 1 + 1 + 1 + 1, oW), (L + 1 + 1 + 1 + 1, oS), (L + 1 + 1 + 1, o3), (L + 1 + 1, o2), (L + 1, o1), (ac, W.listOf vc.toArray kc), (37, tabObj #[]), (44, tabObj #[]), (182, tabObj #[])]) q hq
        simp only [List.cons_append, List.nil_append] at N14
        have hW1 : ∀ q ∈ wt2 ++ wt, q.1 ≠ L + 1 := List.forall_mem_append.mpr ⟨fun q hq => neN (by have := hv1 q hq; omega), fun q hq => neN (by have := hw1 q hq; omega)⟩
        have s1 := o8 (D7, LCg.lst ys3) (List.mem_append_right _ (by k_mem))
        have s2 := o8 (D5, LCg.lst ys) (List.mem_append_right _ (by k_mem))
        have s3 := o8 (L + 1 + 1 + 1 + 1 + 1, oW) (List.mem_append_right _ (by k_mem))
        have s4 := o8 (L + 1 + 1 + 1 + 1, oS) (List.mem_append_right _ (by k_mem))
        have s5 := o8 (L + 1 + 1 + 1, o3) (List.mem_append_right _ (by k_mem))
        have s6 := o8 (L + 1 + 1, o2) (List.mem_append_right _ (by k_mem))
        have s7 := o8 (L + 1, o1) (List.mem_append_right _ (by k_mem))
        have s8 := o8 (ac, W.listOf vc.toArray kc) (List.mem_append_right _ (by k_mem))
        have s9 := o8 ((37 : Addr), tabObj #[]) (List.mem_append_right _ (by k_mem))
        have s10 := o8 ((44 : Addr), tabObj #[]) (List.mem_append_right _ (by k_mem))
        have s11 := o8 ((182 : Addr), tabObj #[]) (List.mem_append_right _ (by k_mem))
        dsimp only at s1 s2 s3 s4 s5 s6 s7 s8 s9 s10 s11
        clear N13 off8 o8 N12 F12
        walk1
        rename Obj.data _ = Data.cell (some (Value.ref D8)) => dM
        rename Obj => oM
        have hT182 : ∀ q ∈ wt2 ++ wt, q.1 ≠ (182 : Addr) := List.forall_mem_append.mpr ⟨fun q hq => neN (by have := hv1 q hq; omega), fun q hq => neN (by have := hw1 q hq; omega)⟩
        repeat' (first | (k_unfold; (try dsimp only)) | (k_end; wrow_close) | ((fail_if_success (with_reducible show wpAny _ _ (execs (Stmt.For _ _ _ _ _ :: _) _) _ _ _)); walk1))
        rename_i f9 c9 oc9 vs9 t9 ct9 g5 tk9 e1 e2 u0 u1 u2 u3 u4 u5 u6 u7 u8 u9 u10 u11 lc9 lf9 g4 ar g3 v0 v1 v2 v3 v4 v5 v6 v7 v8 v9 v10 v11 v12 v13 lr9 g2 ad g1 x0 x1 x2 x3 x4 x5 x6 x7 x8 x9 x10 x11 x12 x13 x14 ld9 h9 F15 N15
        obtain ⟨ps9, hps9⟩ : ∃ ps, News g L h9 [((182 : Addr), tabObj ps)] := ⟨_, List.forall_mem_cons.mpr ⟨N15 ((182 : Addr), _) (by k_mem), List.forall_mem_nil _⟩⟩
        obtain ⟨fo, hfo, sfo, mfo⟩ := ex_obj (f := f9) N15 (by k_mem)
        obtain ⟨st, hstd⟩ : ∃ st, st = (f9, fo) :: (c9, oc9) :: ((182 : Addr), tabObj ps9) :: (L + 1 + 1 + 1 + 1 + 1, oW) :: (L + 1 + 1 + 1 + 1, oS) :: (L + 1, oM) :: (ac, W.listOf vc.toArray kc) :: (D5, LCg.lst ys) :: (D7, LCg.lst ys3) :: (D8, LCg.lst ys4) :: (wt2 ++ wt) := ⟨_, rfl⟩
        have mf : (f9, fo) ∈ st := by rw [hstd]; k_mem
        have mc : (c9, oc9) ∈ st := by rw [hstd]; k_mem
        have mW : (L + 1 + 1 + 1 + 1 + 1, oW) ∈ st := by rw [hstd]; k_mem
        have mS : (L + 1 + 1 + 1 + 1, oS) ∈ st := by rw [hstd]; k_mem
        have mw : (D7, LCg.lst ys3) ∈ st := by rw [hstd]; k_mem
        have mt : ∀ p ∈ wt, p ∈ st := fun p hp => by rw [hstd]; repeat (first | exact List.mem_append_right _ hp | refine List.Mem.tail _ ?_)
        have hKey : KeyAt prog w f9 st 86 cs.length (keyOf n cs) := by
          intro k t hkn
          intro p0 loose0 mean0 mg0 mb0 dp un gd cn0 sc0 a₀ ccd cl0 outer A₀ base h₀ L0 m0 tb s0 Q0 E0 B0 F0 X0 N0 T0 K1 K2 ht hk0 hdp hun hpre hret0
          have sf : s0.heap.get? f9 = some fo := hpre _ mf
          have sc : s0.heap.get? c9 = some oc9 := hpre _ mc
          obtain ⟨xw, dw, nw, cw, vw, res, x1, x2, x3⟩ := hw3 k (by rw [List.size_toArray, hl9]; exact hkn)
          clear F15 N15 hret mfo
          rw [hfo] at sf
          refine wpAny_call ?_
          k_dflt (refine' enterLam (tb := tb) B0 F0 X0 N0 T0 ?ka ?kl ?kk sf ⟨c9, oc9, vs9, t9, rfl, sc, e1, e2⟩ ?h3 ?h4 ?h5 ?_ ?c2 ?c3 ?c4 ?c5)
          case ka => exact rfl
          case kl => exact rfl
          case kk => exact hk0
          case h3 => ktr_room
          case h4 => exact rfl
          case h5 => exact locs rfl
          case c2 => exact rfl
          case c3 => exact rfl
          case c4 => exact rfl
          case c5 => decide
          intro g' L'' h₁' hgg hgg2 hLL F2 N2 B2 X2 T2
          have hst2 : Stands st g' := hpre.base ht.2 hgg
          have hq1 := hst2 _ mW
          have hq2 := hst2 _ mS
          have hin : TabIn s0.heap tb tb := TabIn.refl
          dsimp only at hq1 hq2
          try dsimp only
          try k_fold
          repeat' (first | (k_unfold; (try dsimp only)) | (k_end; wrow_close) | ((fail_if_success (with_reducible show wpAny _ _ (subscriptTail _ _ _ _) _ _ _)); walk1))
          have HTk := HT n hn (cs.getD k 0)
          refine PyProof.Rows.item_list (⟨_, F2.keep _ _ (hst2 _ mw), rfl, ys3.length, rfl⟩ : Heap.IsList _ D7 ys3.toArray) (by omega) (by omega) (by simpa using x1) ?_
          repeat' (first | (k_unfold; (try dsimp only)) | (k_end; wrow_close) | ((fail_if_success (with_reducible show wpAny _ _ (call (Value.ref 175) _ _) _ _ _)); walk1))
          refine TSpec2.use [] (fold_t prog w (leadCodes (cs.getD k 0)) xw n _ hn HTk.lead).to2 B2 F2 X2 N2 T2 K1 K2 ht.1 ?_ ?_ ?_ ⟨dw, nw, cw, vw, res, x2, fun q hq => F2.keep _ _ (hst2 _ (mt q (x3 q hq)))⟩ (fun _ hp => hp) (fun _ hp => nomatch hp) (fun _ hp => nomatch hp) ?_
          · exact rfl
          · show dp + 1 + 82 < recursionLimit
            omega
          · show un + 3 + 8 * 82 < cLine
            omega
          rintro r4 h4 tk4 res4 tb2 ht2 hs2 F4 N4 l4 lL4 _ ⟨a4, t4, u4, rfl, rfl⟩
          have hin2 := hin.step hs2 (size_le hLL F2)
          simp only [List.cons_append, List.nil_append] at N4
          clear l4 lL4 hin hs2 N2 F2
          k_steps
          have tm : ∀ p ∈ tb2, h4.get? p.1 = some p.2 ∧ (s0.heap.objs.size ≤ p.1 ∨ p.1 ∈ tb.map (·.1)) := fun p hp => ⟨(N4 p (.tail _ hp)).1, hin2 p hp⟩
          exact hret0 _ _ _ [] tb2 (fun b o hb e => F4.keep b o (hgg b o hb e)) (fun _ hp => nomatch hp) ⟨ht2, off_step hpre ht.2 tm⟩ tm ⟨rfl, _, rfl⟩
        have hFn : ∀ h, Stands st h → FnAt f9 h := fun h x => ⟨_, _, _, _, hfo ▸ x _ mf⟩
        obtain ⟨kr, mr⟩ : ∃ kr, News g L h9 [(ar, W.listOf #[] kr)] := ⟨_, List.forall_mem_cons.mpr ⟨N15 _ (by k_mem), List.forall_mem_nil _⟩⟩
        obtain ⟨kd, md⟩ : ∃ kd, News g L h9 [(ad, W.listOf #[] kd)] := ⟨_, List.forall_mem_cons.mpr ⟨N15 _ (by k_mem), List.forall_mem_nil _⟩⟩
        have N16 : News g L h9 ((L + 1 + 1, o2) :: (L + 1 + 1 + 1, o3) :: (ar, W.listOf #[] kr) :: (ad, W.listOf #[] kd) :: (st ++ [((37 : Addr), tabObj #[]), ((44 : Addr), tabObj #[])])) := by
          refine List.forall_mem_cons.mpr ⟨N15 _ (by k_mem), List.forall_mem_cons.mpr ⟨N15 _ (by k_mem), List.forall_mem_cons.mpr ⟨mr _ (.head _), List.forall_mem_cons.mpr ⟨md _ (.head _), List.forall_mem_append.mpr ⟨?_, List.forall_mem_cons.mpr ⟨N15 _ (by k_mem), List.forall_mem_cons.mpr ⟨N15 _ (by k_mem), List.forall_mem_nil _⟩⟩⟩⟩⟩⟩⟩
          rw [hstd]
          refine List.forall_mem_cons.mpr ⟨N15 _ mfo, List.forall_mem_cons.mpr ⟨N15 _ (by k_mem), List.forall_mem_cons.mpr ⟨hps9 _ (.head _), List.forall_mem_cons.mpr ⟨N15 _ (by k_mem), List.forall_mem_cons.mpr ⟨N15 _ (by k_mem), List.forall_mem_cons.mpr ⟨N15 _ (by k_mem), List.forall_mem_cons.mpr ⟨N15 _ (by k_mem), List.forall_mem_cons.mpr ⟨N15 _ (by k_mem), List.forall_mem_cons.mpr ⟨N15 _ (by k_mem), List.forall_mem_cons.mpr ⟨N15 _ (by k_mem), fun q hq => N15 q ?_⟩⟩⟩⟩⟩⟩⟩⟩⟩⟩
          repeat (first | exact hq | refine List.Mem.tail _ ?_)
        have hwt : ∀ q ∈ wt2 ++ wt, @LT.lt Nat _ (L + 1 + 1 + 1 + 1 + 1) q.1 := List.forall_mem_append.mpr ⟨hv1, hw1⟩
        have hal1 := allLt_all lr9
        have hal2 := allLt_all ld9
        have hstA : ∀ q ∈ st, (@Ne Nat q.1 37 ∧ @Ne Nat q.1 44) ∧ @Ne Nat q.1 (L + 1 + 1) ∧ @Ne Nat q.1 (L + 1 + 1 + 1) ∧ @Ne Nat q.1 ar ∧ @Ne Nat q.1 ad := by
          rw [hstd]
          refine List.forall_mem_cons.mpr ⟨?_, List.forall_mem_cons.mpr ⟨?_, List.forall_mem_cons.mpr ⟨?_, List.forall_mem_cons.mpr ⟨?_, List.forall_mem_cons.mpr ⟨?_, List.forall_mem_cons.mpr ⟨?_, List.forall_mem_cons.mpr ⟨?_, List.forall_mem_cons.mpr ⟨?_, List.forall_mem_cons.mpr ⟨?_, List.forall_mem_cons.mpr ⟨?_, fun q hq => ?_⟩⟩⟩⟩⟩⟩⟩⟩⟩⟩
          all_goals try dsimp only
          all_goals try (refine ⟨⟨?_, ?_⟩, ?_, ?_, ?_, ?_⟩ <;> k_ne)
          have h1 := hwt q hq
          have h2 := hal1 q hq
          have h3 := hal2 q hq
          omega
        have F16 : Fr g L h9 _ := fr_lit [(Str.ofString "cells", .ref ac), (Str.ofString "leads", .ref D5), (Str.ofString "sought", .str (leadText so) t6), (Str.ofString "worth", .ref f9), (Str.ofString "row", .ref ar), (Str.ofString "due", .ref ad)] (by intro q hq; simp only [List.mem_cons, List.not_mem_nil, or_false] at hq; rcases hq with rfl | rfl | rfl | rfl | rfl | rfl <;> rfl) F15
        have hS : LawSt prog w n cs L f9 ac D5 D8 vc ys ys4 kc ys.length ys4.length oM oS _ 0 st :=
          { cells := hvc, leads := hvl, mcell := dM, scell := dS, hcells := by (rw [hstd]; k_mem), hleads := by (rw [hstd]; k_mem), hmarks := by (rw [hstd]; k_mem), hmcell := by (rw [hstd]; k_mem), hscell := mS
            marks := ⟨by rw [hv2, List.size_toArray, hl9], fun k hk => by
              obtain ⟨am, vm, km, z1, z2, z3⟩ := hv3 k (by rw [List.size_toArray, hl9]; exact hk)
              refine ⟨am, vm, km, z1, ?_, z3⟩
              rw [hstd]
              repeat (first | exact List.mem_append_left _ z2 | refine List.Mem.tail _ ?_)⟩
            key := hKey, fn := hFn, tab := ⟨ps9, by rw [hstd]; k_mem⟩ }
        rw [← eS0] at hE ⊢
        exact law_loop prog w p loose mean mg mb fa g L _ Q E _ n hn cs hcs so t6 f9 ac D5 D8 ar ad vc ys ys4 kc ys.length ys4.length kr kd oM oS o2 o3 none _ 0 st [((37 : Addr), tabObj #[]), ((44 : Addr), tabObj #[])] (HT n hn) (HL n hn) hS d2 d3 B X T C1 C2 F16 N16
          ⟨⟨[((37 : Addr), tabObj #[])], [((44 : Addr), tabObj #[])], rfl, .inl rfl, .inl rfl⟩, fun q hq => List.forall_mem_cons.mpr ⟨Ne.symm (hstA q hq).1.1, List.forall_mem_cons.mpr ⟨Ne.symm (hstA q hq).1.2, List.forall_mem_nil _⟩⟩⟩
          (List.forall_mem_cons.mpr ⟨⟨neN (by dsimp only; omega), neN (by dsimp only; omega), neN (by dsimp only; omega), neN (by dsimp only; omega)⟩, List.forall_mem_cons.mpr ⟨⟨neN (by dsimp only; omega), neN (by dsimp only; omega), neN (by dsimp only; omega), neN (by dsimp only; omega)⟩, List.forall_mem_nil _⟩⟩)
          (fun q hq => (hstA q hq).2) (by omega) (by omega) hK hE (fun h' tk' x1 x2 => hret h' tk' x1 x2)

-- needs: B_lead C_walk D_white E_digits F_int2 G_div H_divpos I_fold J_ind K_told L_bisr L_bisl L_insr L_insl M_lc M_lb M_la
local macro_rules | `(tactic| k_qdec) => `(tactic| decide +kernel)
theorem law_holds (HT : ∀ n, 1 ≤ n ∧ n ≤ 6 → ∀ x, ToldOk n (leadCodes x)) (HL : ∀ n, 1 ≤ n ∧ n ≤ 6 → ∀ x y, LexOk n (leadCodes x) (leadCodes y)) : PySem.Challenge.rw_pg0307_01.Holds := by
  refine hd ?_
  k_go0
  (all_goals try k_fold)
  rename Below _ _ _ _ => B0
  rename Top _ _ _ _ _ _ => T0
  rename Fr _ _ _ _ => F0
  rename News _ _ _ _ => N0
  rename Frag.In _ _ => X0
  rename IntsAre _ _ => hi0
  rename ¬ _ < _ => hc0
  have hlt := Heap.lt_size (X0 185 _ (by k_is))
  have F1 : Fr _ _ _ (kstB _ [(Str.ofString "script", .ref _)]) := fr_lit [(Str.ofString "script", .ref _)] (by intro q hq; rw [List.mem_singleton.mp hq]; rfl) F0
  with_unfolding_all refine' law_main _ _ _ _ _ _ _ _ _ _ _ _ _ _ _ _ _ _ _ _ _ _ ?d1 ?d2 ?d3 ?d4 ?d5 B0 X0 T0 ?c1 ?c2 ?c3 lifted hi0 ?hl F1 ?hk N0 ?he HT HL ?ret
  case d1 => assumption
  case d2 => assumption
  case d3 => assumption
  case d4 => assumption
  case d5 => assumption
  case c1 => assumption
  case c2 => assumption
  case c3 => assumption
  case hl => omega
  case hk => exact Nat.lt_of_lt_of_le hlt F0.above
  case he => passes_own
  case ret =>
    intro h' tk hkeep hgr
    refine ⟨?_, hgr⟩
    refine ⟨.inl ⟨.bool true, .bool true, [], rfl, raisesW_false ?rz, .bool true, ?pz, fun _ => ⟨List.nodup_nil, fun _ h => (nomatch h)⟩⟩, hkeep, rfl, ?gz⟩
    case rz => wrow_none_raised
    case pz => first | rfl | decide | wrow_post
    case gz => assumption

end Mine
theorem PySem.Challenge.cw_pg0307_01_holds : PySem.Challenge.rw_pg0307_01.Holds := by
  exact Mine.law_holds Mine.told_all Mine.lex_all
