import PyProof.Rows.All
import Wide.All
import OpenK.AllK
import Wide.FinOn
import PySem.Challenge.RW_rl0069_01
open PySem PySem.W PyProof.Rows PySem.Spec PySem.Calls
set_option Elab.async false
set_option maxRecDepth 100000
local macro_rules | `(tactic| walk_at $s:str) => `(tactic| k_extra $s)
namespace Mine
def fkRow : OpenRow where
  prog := PySem.Challenge.pw_rl0069_01
  name := PySem.Str.ofString "_substitution_cost"
  records := []
  args := [.int, .int]
  returns := .int
  pre := .eq (.arg 0) (.arg 1)
  post := .eq .res (.lit (.int 0))
  raises := []
  mutates := []
  within := []
  unshared := true
  same := none
  under := ⟨true, true, true⟩
  after := ⟨true, true, true⟩
  apart := false
  loose := []
  makers := []
  pinned := true
  writes := false
theorem fkh.tw11158022391173807654 : True := trivial
theorem fkh.tw18270556856454331500 : True := trivial
theorem fkh.tw7721742889173883057 : True := trivial
theorem fkh.tw3552448077427795783 : True := trivial
theorem fkh.tw5705377010665297300 : True := trivial
theorem fkh.tw10497967099189862643 : True := trivial
theorem fkh.tw6810701595091991688 : True := trivial
theorem fkh.tw3198006160531208500 : True := trivial
theorem fkh.tw2719984882595993024 : True := trivial
theorem fkh.tw17383986288110135441 : True := trivial
theorem fkh.tw10972337949000719694 : True := trivial
theorem fkh.tw3362700488775839761 : True := trivial
theorem fkh.tw7358913232287648140 : True := trivial
theorem fkh.tw6760194885927371483 : True := trivial
theorem fkh.tw12019927493626724385 : True := trivial
theorem fkh.tw6287304960042763178 : True := trivial
theorem fkh.tw12137708564704739404 : True := trivial
theorem fkh.tw700713391067176839 : True := trivial
theorem fkh.tw10842933114971526374 : True := trivial
theorem fkh.tw1993232902183889209 : True := trivial
theorem fkh.tw16337071076264772399 : True := trivial
theorem fkh.tw18381425762472207615 : True := trivial
theorem fkh.tw5453296834697701881 : True := trivial
theorem fkh.tw3603515331745301705 : True := trivial
theorem fkh.tw1986384545680700736 : True := trivial
theorem fkh.tw15620260970698012778 : True := trivial
theorem fkh.tw6457493510426460298 : True := trivial
theorem fkh.tw315028960960870082 : True := trivial
theorem fkh.tw3986774937982583320 : True := trivial
theorem fkh.tw16157087374787500892 : True := trivial
theorem fkh.tw12409375886045410421 : True := trivial
theorem fkh.tw3550781131169075250 : True := trivial
theorem fkh.tw12751106911288295324 : True := trivial
theorem fkh.tw10072478394925233600 : True := trivial
theorem fkh.tw4244003337492614829 : True := trivial
theorem fkh.tw2437878845008597058 : True := trivial
theorem fkh.tw2910306059882156602 : True := trivial
theorem fkh.tw207815378979584759 : True := trivial
theorem fkh.tw15923385068281546912 : True := trivial
theorem fkh.tw4854936970675580993 : True := trivial
theorem fkh.tw541454552873874285 : True := trivial
theorem fkh.tw17578900396003035076 : True := trivial
theorem fkh.tw3445481578891650245 : True := trivial
theorem fkh.tw1247158211884721708 : True := trivial
theorem fkh.tw3395700359413500451 : True := trivial
theorem fkh.tw1448956675926234714 : True := trivial
theorem fkh.tw11674480325170185173 : True := trivial
theorem fkh.tw15930407723663529501 : True := trivial
theorem fkh.tw17083510348965188580 : True := trivial
theorem fkh.tw8867185303355403229 : True := trivial
theorem fkh.tw4468962459922153308 : True := trivial
theorem fkh.tw6344970275413066037 : True := trivial
theorem fkh.tw1059854477056128284 : True := trivial
theorem fkh.tw8517626235557306283 : True := trivial
theorem fkh.tw10811244213048892420 : True := trivial
theorem fkh.tw14550518680628234637 : True := trivial
theorem fkh.tw5912599030361196321 : True := trivial
theorem fkh.tw475075813814275548 : True := trivial
theorem fkh.tw4489753815082330352 : True := trivial
theorem fkh.tw15325303895714276700 : True := trivial
theorem fkh.tw13370624697820609384 : True := trivial
theorem fkh.tw16744267020313848116 : True := trivial
theorem fkh.tw11581923657484727602 : True := trivial
theorem fkh.tw6702403541289246595 : True := trivial
theorem fkh.tw7080397147970514103 : True := trivial
theorem fkh.tw148698068516264345 : True := trivial
theorem fkh.tw2525657445942170416 : True := trivial
theorem fkh.tw8939351030477738223 : True := trivial
theorem fkh.tw903508026910568460 : True := trivial
theorem fkh.tw16557213851148114842 : True := trivial
theorem fkh.tw15889698254432642340 : True := trivial
theorem fkh.tw6827654845514002337 : True := trivial
theorem fkh.tw4790897673440172647 : True := trivial
theorem fkh.tw14001614111741192773 : True := trivial
theorem fkh.tw6743428348698242062 : True := trivial
theorem fkh.tw9454461880970440188 : True := trivial
theorem fkh.tw11820769018268640853 : True := trivial
theorem fkh.tw16615201037418638939 : True := trivial
set_option maxRecDepth 100000 in
set_option maxHeartbeats 8000000 in
set_option Elab.async true in
theorem fkh : fkRow.Holds := by open_k with [.int 0, .int 0]
/-- what was made on the way stands -/
theorem fk_here : Mine.fkh.heap_1_1 = Mine.fkh.heap_1_1 := rfl
end Mine
namespace Mine
def Keeps (h h' : Heap) : Prop := ∀ b o, h.get? b = some o → h'.get? b = some o
structure Gd (hs : Heap) (as : List (Addr × Obj)) (g : Heap) : Prop where
  here : ∀ p ∈ as, hs.get? p.1 = some p.2
  get : ∀ b o, hs.get? b = some o → b ∉ as.map (·.1) → g.get? b = some o
def LeaveP (hs : Heap) (as : List (Addr × Obj)) (R : Value → Shared → Prop) (v : Value) (s' : Shared) : Prop :=
  ∃ g L' m' news', Gd hs as g ∧ Fr g L' s'.heap m' ∧ News g L' s'.heap news' ∧ (∀ p ∈ as, p ∈ news') ∧
    (Keeps hs s'.heap → (∀ p ∈ news', p.1 ∉ as.map (·.1) → hs.get? p.1 = none) → R v s')
theorem LeaveP.out {hs : Heap} {as : List (Addr × Obj)} {R : Value → Shared → Prop} {v : Value} {s' : Shared} (x : LeaveP hs as R v s') : R v s' := by
  obtain ⟨g, L', m', news', G, F, N, hsub, k⟩ := x
  refine k (fun b o e => ?_) (fun p hp hn => ?_)
  · by_cases hb : b ∈ as.map (·.1)
    · obtain ⟨p, hp, rfl⟩ := List.mem_map.mp hb
      have := G.here p hp
      rw [this] at e; cases e
      exact (N p (hsub p hp)).1
    · exact F.keep _ _ (G.get b o e hb)
  · cases q : hs.get? p.1 with
    | none => rfl
    | some o =>
      have := G.get _ _ q hn
      rw [(N p hp).2.2] at this; cases this
theorem leaveP_ {hs g : Heap} {as news' : List (Addr × Obj)} {R : Value → Shared → Prop} {v : Value} {s' : Shared} {L' : Addr} {m' : Str → Option Value}
    (G : Gd hs as g) (F : Fr g L' s'.heap m') (N : News g L' s'.heap news') (hsub : ∀ p ∈ as, p ∈ news')
    (k : Keeps hs s'.heap → (∀ p ∈ news', p.1 ∉ as.map (·.1) → hs.get? p.1 = none) → R v s') : LeaveP hs as R v s' := ⟨g, L', m', news', G, F, N, hsub, k⟩
section
variable {prog : Program} {w : World} {A A₀ : Around} {E : Value → Shared → Prop} {s : Shared} {K : Frag} {L : Addr} {h₀ base : Heap} {m mg mb : Str → Option Value} {as : List (Addr × Obj)} {p : Program} {loose : List Str} {mean : ExcName → Option Value} {Q : Value → Shared → Prop}
 {env : Env} {outer : List Env} {name qual : Str} {params : Arguments} {body : List Stmt} {scope : Scope} {dV kV doc pm cdv ct oc : Value} {an od : Option Addr} {osl : Array (Option Value)} {f : Addr} {vs : List Value} {binds : List (Str × Value)}
theorem gd_of (N : News h₀ L s.heap as) : Gd s.heap as (hideAll s.heap (as.map (·.1))) :=
  ⟨fun p hp => (N p hp).1, fun _ _ e hn => hideAll_get _ e hn⟩
theorem enterP (B : Below A₀ base outer h₀) (F : Fr h₀ L s.heap m) (X₀ : K.In h₀) (N : News h₀ L s.heap as) (T : Top p loose mean mg mb h₀) (hA : A.frames = some (env :: outer)) (hf : env.frame = some L) (hke : env.scope.kind = .function)
    (ho : K.lookup f = some ⟨oc, od, .func (fnOf name qual params body scope dV kV doc pm an cdv ct), osl⟩) (hcd : codeIn K cdv qual = true) (hroom : A.depth < recursionLimit)
    (hbind : BindsTo s (fnOf name qual params body scope dV kV doc pm an cdv ct) ⟨vs, []⟩ binds) (hloc : ∀ y ∈ binds, scope.names.lookup y.1 = some .local)
    (h : ∀ g L' h₁ tk, Gd s.heap as g → Fr g L' h₁ (fun y => binds.reverse.lookup y) → News g L' h₁ as → Below A base (env :: outer) g → K.In g → Top p loose mean mg mb g → (∀ p ∈ as, p.1 < L') →
      wpAny (model prog w) (A.deeper (envOf qual scope L' f cdv)) (execs body (envOf qual scope L' f cdv))
        (fun fl s' => LeaveP s.heap as Q (match fl with | .ret v => v | _ => .none) s')
        (fun e s' => wpAny (model prog w) (A.deeper (envOf qual scope L' f cdv)) (leaving (envOf qual scope L' f cdv) e) (fun _ s'' => E e s'') (fun e' s'' => E e' s'') s')
        { s with heap := h₁, toks := tk })
    (hco : scope.isCoroutine = false) (hgen : scope.isGenerator = false) (hk : scope.kind = .function)
    (hcell : ∀ x ∈ scope.names, x.2 ≠ .cell) : wpAny (model prog w) A (call (.ref f) vs) Q E s := by
  refine wpAny_call ?_
  obtain ⟨FG, BG, st, lv⟩ := groundX (R := fun _ _ => True) B F N hA hf hke
  refine codeAny_call_def (fd := fnX name qual params body scope [] dV kV doc pm an cdv ct) (body := body) (binds := binds) hroom ((X₀.keeps F.keep) _ _ ho) rfl (T.nolimit.keeps F.keep) (codeRec_of (X₀.keeps F.keep) hcd) rfl hbind hcell hloc (fun h₁ hns hk₁ => ?_) hco hgen hk
  exact wpAny_mono (h _ s.heap.objs.size h₁ _ (gd_of N) ⟨hns, fun b o e => hk₁ b o (of_hideAll _ e), Nat.le_of_eq (hideAll_size _ _)⟩
    (fun p hp => ⟨hk₁ _ _ (N p hp).1, Nat.ne_of_lt (Heap.lt_size (N p hp).1), hideAll_none _ (List.mem_map_of_mem hp)⟩) BG (X₀.keeps st) (T.keeps st) (fun p hp => Heap.lt_size (N p hp).1)) (fun fl s' hl => hl.out) fun _ _ y => y
theorem enterPC (B : Below A₀ base outer h₀) (F : Fr h₀ L s.heap m) (X₀ : K.In h₀) (N : News h₀ L s.heap as) (T : Top p loose mean mg mb h₀) (hA : A.frames = some (env :: outer)) (hf : env.frame = some L) (hke : env.scope.kind = .function)
    (ho : K.lookup f = some ⟨oc, od, .func (fnOf name qual params body scope dV kV doc pm an cdv ct), osl⟩) (hcd : codeIn K cdv qual = true) (hroom : A.depth < recursionLimit)
    (hbind : BindsTo s (fnOf name qual params body scope dV kV doc pm an cdv ct) ⟨vs, []⟩ binds) (hkind : (binds.all fun y => scope.names.lookup y.1 == some .local || scope.names.lookup y.1 == some .cell) = true)
    (hnd : ((cellsFrom 0 scope.names []).map (·.1)).Nodup)
    (h : ∀ g L' h₁ tk cells, Gd s.heap as g → Fr g L' h₁ (bindL (envOfC qual scope L' f cdv).kindOf binds fun _ => none) → News g L' h₁ (cells ++ as) →
      CellsAre (bindC (envOfC qual scope L' f cdv).kindOf binds fun _ => none) (cellsFrom (L' + 1) scope.names []) cells → Below A base (env :: outer) g → K.In g → Top p loose mean mg mb g → (∀ p ∈ as, p.1 < L') →
      wpAny (model prog w) (A.deeper (envOfC qual scope L' f cdv)) (execs body (envOfC qual scope L' f cdv))
        (fun fl s' => LeaveP s.heap as Q (match fl with | .ret v => v | _ => .none) s')
        (fun e s' => wpAny (model prog w) (A.deeper (envOfC qual scope L' f cdv)) (leaving (envOfC qual scope L' f cdv) e) (fun _ s'' => E e s'') (fun e' s'' => E e' s'') s')
        { s with heap := h₁, toks := tk })
    (hco : scope.isCoroutine = false) (hgen : scope.isGenerator = false) (hk : scope.kind = .function) : wpAny (model prog w) A (call (.ref f) vs) Q E s := by
  refine wpAny_call ?_
  obtain ⟨FG, BG, st, lv⟩ := groundX (R := fun _ _ => True) B F N hA hf hke
  refine codeAny_call_function hroom ((X₀.keeps F.keep) _ _ ho) rfl hco hgen rfl (codeRec_of (X₀.keeps F.keep) hcd) (hbind _ _ _ _ ?_)
  refine wpAny_newFunctionEnv_cells hk (kindsX hkind _) fun env' he s' x => ?_
  subst he
  refine ⟨(T.nolimit.keeps F.keep).keeps x.toInCall.keep, codeAny_func ?_⟩
  obtain ⟨h₁, tk, rfl, _⟩ := x.done
  have hk₁ := x.toInCall.keep
  obtain ⟨cells, NC, Y⟩ := Cl.news (h₀ := s.heap) (Nat.le_refl _) fun n c hm => ⟨x.cell n c (lookup_of_mem_nodup (cellsFrom_names scope.names 0 (s.heap.objs.size + 1) [] [] rfl ▸ hnd) hm), x.above n c hm⟩
  refine wpAny_mono (h _ s.heap.objs.size h₁ tk cells (gd_of N) ⟨x.toInCall.ns, fun b o e => hk₁ b o (of_hideAll _ e), Nat.le_of_eq (hideAll_size _ _)⟩ (fun p hp => ?_) Y BG (X₀.keeps st) (T.keeps st) (fun p hp => Heap.lt_size (N p hp).1)) (fun fl s' hl => hl.out) fun _ _ y => y
  rcases List.mem_append.mp hp with hp | hp
  · refine ⟨(NC p hp).1, (NC p hp).2.1, ?_⟩
    cases q : (hideAll s.heap (as.map (·.1))).get? p.1 with
    | none => rfl
    | some o => have := of_hideAll _ q; rw [(NC p hp).2.2] at this; cases this
  · exact ⟨hk₁ _ _ (N p hp).1, Nat.ne_of_lt (Heap.lt_size (N p hp).1), hideAll_none _ (List.mem_map_of_mem hp)⟩
end
/-- a contract of a def that changes nothing of what stood: the def at `f`, its arguments `vs`, the lists `as` that they name; `Out` of the heap before, the heap behind, the value -/
def Ct (k : Nat) (f : Addr) (as : List (Addr × Obj)) (vs : List Value) (Out : Heap → Heap → Value → Prop) : Prop :=
  ∀ (w : World) (mean : ExcName → Option Value) (mg mb : Str → Option Value) (dp un : Nat) (gd : Option (List Code)) (cn : Str) (cs : Scope) (a : Addr) (ccd : Value) (cl : List (Str × Addr)) (outer : List Env) (A₀ : Around) (base h₀ : Heap) (L : Addr) (m : Str → Option Value) (s : Shared) (Q E : Value → Shared → Prop),
    Below A₀ base outer h₀ → Fr h₀ L s.heap m → (Mine.fkh.heap_1_1 w.params).In h₀ → News h₀ L s.heap as → Top Mine.fkh.view_1_2 (looseW Mine.fkh.view_1_2 [Str.ofString "EXACT_TOKEN_TYPES"]) mean mg mb h₀ → cs.kind = .function →
    dp + k < recursionLimit → un + 16 * k < cLine →
    (∀ r h' tk', Keeps s.heap h' → Out s.heap h' r → Q r { s with heap := h', toks := tk' }) →
    wpAny (model PySem.Challenge.rw_rl0069_01.row.prog w) (ktrTop dp un gd cn cs L a ccd cl outer) (call (.ref f) vs) Q E s
theorem use_ct {k : Nat} {f : Addr} {as : List (Addr × Obj)} {vs : List Value} {Out : Heap → Heap → Value → Prop} (C : Ct k f as vs Out)
    {w : World} {mean : ExcName → Option Value} {mg mb : Str → Option Value} {dp un : Nat} {gd : Option (List Code)} {cn : Str} {cs : Scope} {a : Addr} {ccd : Value} {cl : List (Str × Addr)} {outer : List Env} {A₀ : Around} {base h₀ : Heap} {L : Addr} {m : Str → Option Value} {s : Shared} {Q E : Value → Shared → Prop} {news : List (Addr × Obj)}
    (B : Below A₀ base outer h₀) (F : Fr h₀ L s.heap m) (X : (Mine.fkh.heap_1_1 w.params).In h₀) (N : News h₀ L s.heap news) (T : Top Mine.fkh.view_1_2 (looseW Mine.fkh.view_1_2 [Str.ofString "EXACT_TOKEN_TYPES"]) mean mg mb h₀) (hk : cs.kind = .function)
    (hsub : ∀ p ∈ as, p ∈ news) (hd : dp + k < recursionLimit) (hu : un + 16 * k < cLine)
    (h : ∀ r h' tk', Keeps s.heap h' → Fr h₀ L h' m → News h₀ L h' news → Out s.heap h' r → Q r { s with heap := h', toks := tk' }) :
    wpAny (model PySem.Challenge.rw_rl0069_01.row.prog w) (ktrTop dp un gd cn cs L a ccd cl outer) (call (.ref f) vs) Q E s :=
  C w mean mg mb dp un gd cn cs a ccd cl outer A₀ base h₀ L m s Q E B F X (fun p hp => N p (hsub p hp)) T hk hd hu fun r h' tk' hK ho => h r h' tk' hK (F.keeps hK) (N.grown hK) ho
end Mine
namespace Mine
section
variable {prog : Program} {w : World} {A : Around} {E : Value → Shared → Prop} {s : Shared} {L : Addr} {h₀ : Heap} {m : Str → Option Value} {news : List (Addr × Obj)} {Q : Value → Shared → Prop}
theorem max3_K {a b c : Int} {t u x : Tok} (F : Fr h₀ L s.heap m) (N : News h₀ L s.heap news) (hh : A.handled = none)
    (h : ∀ h' tk t', Fr h₀ L h' m → News h₀ L h' news → Q (.int (max a (max b c)) t') { s with heap := h', toks := tk }) :
    wpAny (model prog w) A (call (.builtin "max") [.int a t, .int b u, .int c x]) Q E s := by
  refine max_three_ints hh fun h' tk hk => ?_
  have k := fun t' => h h' tk t' (F.keeps hk) (N.grown hk)
  have e : ∀ {y : Int}, y = max a (max b c) → ∀ t', Q (.int y t') { s with heap := h', toks := tk } := fun q t' => q ▸ k t'
  split <;> split <;> exact e (by omega) _
theorem min3_K {a b c : Int} {t u x : Tok} (F : Fr h₀ L s.heap m) (N : News h₀ L s.heap news) (hh : A.handled = none)
    (h : ∀ h' tk t', Fr h₀ L h' m → News h₀ L h' news → Q (.int (min a (min b c)) t') { s with heap := h', toks := tk }) :
    wpAny (model prog w) A (call (.builtin "min") [.int a t, .int b u, .int c x]) Q E s := by
  refine min_three_ints hh fun h' tk hk => ?_
  have k := fun t' => h h' tk t' (F.keeps hk) (N.grown hk)
  have e : ∀ {y : Int}, y = min a (min b c) → ∀ t', Q (.int y t') { s with heap := h', toks := tk } := fun q t' => q ▸ k t'
  split <;> split <;> exact e (by omega) _
end
end Mine
open Mine
namespace Mine
theorem words1 : True := by
  k_with "call builtin:max" => (k_here; (with_reducible show wpAny _ _ (call (Value.builtin "max") [Value.int _ _, Value.int _ _, Value.int _ _]) _ _ _); k_dflt (refine' max3_K ?k1 ?k2 ?k3 ?_; (case k1 => k_asm); (case k2 => k_asm); (case k3 => exact rfl); k_whole); intro h' tk' t' F' N'; (try k_sweep))
  trivial
end Mine
namespace Mine
theorem words2 : True := by
  k_with "call builtin:min" => (k_here; (with_reducible show wpAny _ _ (call (Value.builtin "min") [Value.int _ _, Value.int _ _, Value.int _ _]) _ _ _); k_dflt (refine' min3_K ?k1 ?k2 ?k3 ?_; (case k1 => k_asm); (case k2 => k_asm); (case k3 => exact rfl); k_whole); intro h' tk' t' F' N'; (try k_sweep))
  trivial
end Mine
namespace Mine
def Hold (P : Prop) : Prop := P
theorem any_toks {α : Type} {M : Model} {A : Around} {T : Sem α} {Q : α → Shared → Prop} {E : Value → Shared → Prop} {h : Heap} {g : Array GenState} {d : Drawn} {X : Nat} {os : OsState} (k : ∀ tk : Nat, wpAny M A T Q E ⟨h, g, d, tk, os⟩) : wpAny M A T Q E ⟨h, g, d, X, os⟩ := k X
theorem hold_in {P : Prop} (h : Hold P) : P := h
section
variable {M : Model} {A : Around} {E : Value → Shared → Prop} {env : Env}
theorem execs_app_wp {Γ : PySem.Ctx} {l₂ : List Stmt} {Qw : Flow → Pos → Shared → Prop} {Ew : Value → Pos → Shared → Prop} : ∀ (l₁ : List Stmt) (p : Pos) (s : Shared),
    Sem.wp M Γ (execs l₁ env) (fun f p' s' => match f with | .next => Sem.wp M Γ (execs l₂ env) Qw Ew p' s' | f => Qw f p' s') Ew p s → Sem.wp M Γ (execs (l₁ ++ l₂) env) Qw Ew p s
  | [], p, s, h => h
  | st :: r, p, s, h => by
    rw [List.cons_append, execs_cons, Sem.wp_bind']
    rw [execs_cons, Sem.wp_bind'] at h
    refine Sem.wp_mono M Γ _ (fun f p' s' h' => ?_) (fun _ _ _ h' => h') _ _ h
    cases f with
    | next => exact execs_app_wp r p' s' h'
    | cont => exact h'
    | brk => exact h'
    | ret v => exact h'
theorem execs_cut {prog : Program} {w : World} {h₀ : Heap} {L : Addr} {s : Shared} {l : List Stmt} {Q : Flow → Shared → Prop} (n : Nat) (X : (Str → Option Value) → List (Addr × Obj) → Prop)
    (h : wpAny (model prog w) A (execs (l.take n) env) (fun f s' => f = .next ∧ ∃ h tk m₁ news₁, s' = { s with heap := h, toks := tk } ∧ Fr h₀ L h m₁ ∧ News h₀ L h news₁ ∧ X m₁ news₁) E s)
    (k : ∀ m₁ news₁ h tk, Fr h₀ L h m₁ → News h₀ L h news₁ → X m₁ news₁ → wpAny (model prog w) A (execs (l.drop n) env) Q E { s with heap := h, toks := tk }) :
    wpAny (model prog w) A (execs l env) Q E s := fun Γ p hΓ => by
  rw [← List.take_append_drop n l]
  refine execs_app_wp _ p s ?_
  refine Sem.wp_mono _ Γ _ (fun f p' s' h' => ?_) (fun _ _ _ h' => h') _ _ (h Γ p hΓ)
  obtain ⟨rfl, hh, tk, m₁, news₁, rfl, F, N, x⟩ := h'
  exact k m₁ news₁ hh tk F N x Γ p' hΓ
end
theorem upd_upd {M : Str → Option Value} {x : Str} {u v : Option Value} : (fun y => if y = x then v else (if y = x then u else M y)) = (fun y => if y = x then v else M y) := by
  funext y; split <;> simp_all
def ExitAt (h₀ : Heap) (L : Addr) (s : Shared) (X : (Str → Option Value) → List (Addr × Obj) → Prop) (s₂ : Shared) : Prop :=
  ∃ h tk m₁ news₁, s₂ = { s with heap := h, toks := tk } ∧ Fr h₀ L h m₁ ∧ News h₀ L h news₁ ∧ X m₁ news₁
section
variable {prog : Program} {w : World} {A : Around} {E : Value → Shared → Prop} {Q : Flow → Shared → Prop} {s : Shared} {env : Env} {h₀ : Heap} {L : Addr}
theorem While_cut {test : Expr} {body : List Stmt} {pos : Pos} {m : Str → Option Value} {news : List (Addr × Obj)} (J : Nat → (Str → Option Value) → List (Addr × Obj) → Prop) {n₀ : Nat}
    (F : Fr h₀ L s.heap m) (N : News h₀ L s.heap news) (hJ : J n₀ m news)
    (turn : ∀ n m₁ news₁ h₁ tk₁, Fr h₀ L h₁ m₁ → News h₀ L h₁ news₁ → J n m₁ news₁ →
      wpAny (model prog w) A (isTrue test env (eval test env)) (fun b s₂ =>
        if b = true then wpAny (model prog w) A (execs body env) (WhileStep2 h₀ L s J Q n) E s₂ else ExitAt h₀ L s (J 0) s₂) E { s with heap := h₁, toks := tk₁ })
    (done : ∀ m₁ news₁ h₁ tk₁, Fr h₀ L h₁ m₁ → News h₀ L h₁ news₁ → J 0 m₁ news₁ → Q .next { s with heap := h₁, toks := tk₁ })
    (hE : PassesOwn (model prog w) A env E := by passes_own) :
    wpAny (model prog w) A (exec (.While test body [] pos) env) Q E s := by
  refine While_inv2 J F N hJ (fun n m₁ news₁ h₁ tk₁ F₁ N₁ J₁ => wpAny_mono (turn n m₁ news₁ h₁ tk₁ F₁ N₁ J₁) (fun b s₂ p => ?_) fun _ _ e => e) hE
  cases b with
  | true => exact p
  | false =>
    simp only [Bool.false_eq_true, if_false] at p ⊢
    obtain ⟨h, tk, m₁, news₁, rfl, F', N', x⟩ := p
    exact done m₁ news₁ h tk F' N' x
end
section
variable {prog : Program} {w : World} {A : Around} {E : Value → Shared → Prop} {s : Shared} {value slice : Expr} {t : Tok} {h₀ : Heap} {L : Addr} {m : Str → Option Value} {news : List (Addr × Obj)} {Q : Value → Shared → Prop}
theorem slice_nn (x : Str) : Txt.slice x none none = x := by
  have e : (Builtin.Str.strSliceIndices none none 1 x.length).length = x.length := by
    simp only [Builtin.Str.strSliceIndices, sliceRange, show (1 : Int) > 0 by decide, if_true, List.length_map, List.length_range, Int.ediv_one]
    split <;> omega
  unfold Txt.slice
  rw [if_pos (by simp [e])]
theorem slice_none_K {x : Str} (hF : Fr h₀ L s.heap m) (hN : News h₀ L s.heap news) (h : ∀ h' t' k, Fr h₀ L h' m → News h₀ L h' news → Q (.str x t') { s with heap := h', toks := k })
    (hs : subscripted slice false (.str x t) (.ref s.heap.objs.size) = operate [.ref s.heap.objs.size, .str x t] (getItem (.str x t) (.ref s.heap.objs.size)) := by with_unfolding_all rfl)
    (ht : ∀ r, letTemporaryGo value (.str x t) r = pure () := by intro _; with_unfolding_all rfl) (hsz : x.length ≤ sizeLine := by size_fits) :
    wpAny (model prog w) A (subscriptTail value slice (.str x t) (.ref s.heap.objs.size)) Q E { s with heap := s.heap.push { cls := .type "slice", data := .fields #[.none, .none, .none] } } :=
  slice_strN_nn hF hN (fun h' t' k a b => by rw [slice_nn]; exact h h' t' k a b) hs ht hsz
end
/-- the word of a colour: i times <, j times > -/
def Wd (i j : Nat) : Str := ⟨(List.replicate i 60 ++ List.replicate j 62).toArray⟩
theorem wd_len (i j : Nat) : (Wd i j).length = i + j := by simp [Wd, Str.length]
theorem wd_from {i j k : Nat} (hi : i ≤ 7) (hj : j ≤ 7) (hk : k ≤ 14) : Txt.slice (Wd i j) (some (k : Int)) none = Wd (i - k) (j - (k - i)) := by
  have : ∀ i : Nat, i < 8 → ∀ j : Nat, j < 8 → ∀ k : Nat, k < 15 → Txt.slice (Wd i j) (some (k : Int)) none = Wd (i - k) (j - (k - i)) := by decide +kernel
  exact this i (by omega) j (by omega) k (by omega)
theorem wd_to_neg {i j k : Nat} (hi : i ≤ 7) (hj : j ≤ 7) (hk : k ≤ 14) (h1 : 1 ≤ k) : Txt.slice (Wd i j) none (some (-(k : Int))) = Wd (i - (k - j)) (j - k) := by
  have : ∀ i : Nat, i < 8 → ∀ j : Nat, j < 8 → ∀ k : Nat, k < 15 → 1 ≤ k → Txt.slice (Wd i j) none (some (-(k : Int))) = Wd (i - (k - j)) (j - k) := by decide +kernel
  exact this i (by omega) j (by omega) k (by omega) h1
theorem wd_item {i j k : Nat} (hi : i ≤ 7) (hj : j ≤ 7) (hk : k < i + j) : Txt.item (Wd i j) (k : Int) = if k < i then Str.ofString "<" else Str.ofString ">" := by
  have : ∀ i : Nat, i < 8 → ∀ j : Nat, j < 8 → ∀ k : Nat, k < 15 → k < i + j → Txt.item (Wd i j) (k : Int) = if k < i then Str.ofString "<" else Str.ofString ">" := by decide +kernel
  exact this i (by omega) j (by omega) k (by omega) hk
theorem wd_item_neg {i j k : Nat} (hi : i ≤ 7) (hj : j ≤ 7) (h1 : 1 ≤ k) (hk : k ≤ i + j) : Txt.item (Wd i j) (-(k : Int)) = if k ≤ j then Str.ofString ">" else Str.ofString "<" := by
  have : ∀ i : Nat, i < 8 → ∀ j : Nat, j < 8 → ∀ k : Nat, k < 15 → 1 ≤ k → k ≤ i + j → Txt.item (Wd i j) (-(k : Int)) = if k ≤ j then Str.ofString ">" else Str.ofString "<" := by decide +kernel
  exact this i (by omega) j (by omega) k (by omega) h1 hk
theorem wd_eq {i j k l : Nat} : Wd i j = Wd k l ↔ i = k ∧ j = l := by
  constructor
  · intro h
    have h' : List.replicate i 60 ++ List.replicate j 62 = List.replicate k 60 ++ List.replicate l 62 := by
      have := congrArg (fun x : Str => x.cps.toList) h
      simpa [Wd] using this
    have c1 := congrArg (List.count 60) h'
    have c2 := congrArg (List.count 62) h'
    simp [List.count_append, List.count_replicate] at c1 c2
    exact ⟨c1, c2⟩
  · rintro ⟨rfl, rfl⟩; rfl
theorem sfx_cut {x y q : Nat} (hx : x ≤ 7) (hy : y ≤ 7) (hq : q ≤ y) (h1 : 1 ≤ q) : Txt.slice (Wd x y) none (some (-(q : Int))) = Wd x (y - q) := by
  rw [wd_to_neg hx hy (by omega) h1, show q - y = 0 by omega, Nat.sub_zero]
section
variable {prog : Program} {w : World} {A : Around} {E : Value → Shared → Prop} {s : Shared} {h₀ : Heap} {L : Addr} {m : Str → Option Value} {news : List (Addr × Obj)} {Q : Value → Shared → Prop} {name : Str} {scope : Scope} {ad : Addr} {cd : Value}
theorem cutEnd {x y q : Nat} {a p : Str} {ta tp : Tok} {pa pp pb ps pos pc : Pos} {kk : Nat} (F : Fr h₀ L s.heap m) (N : News h₀ L s.heap news) (ha : m a = some (.str (Wd x y) ta)) (hp : m p = some (.int (-(q : Int)) tp)) (hx : x ≤ 7) (hy : y ≤ 7) (hq : q ≤ y)
    (h : ∀ h' t' k, Fr h₀ L h' m → News h₀ L h' news → Q (.str (Wd x (y - q)) t') { s with heap := h', toks := k })
    (hk : scope.kind = .function := by rfl) (hla : (envOf name scope L ad cd).kindOf a = some .local := by rfl) (hlp : (envOf name scope L ad cd).kindOf p = some .local := by rfl) (hda : (a == ("__debug__" : Str)) = false := by decide) (hdp : (p == ("__debug__" : Str)) = false := by decide) :
    wpAny (model prog w) A (eval (.Subscript (.Name a pa) (.Slice none (some (.BoolOp .Or [.Name p pp, .Constant .none kk pc] pb)) none ps) pos) (envOf name scope L ad cd)) Q E s := by
  have hsz : (Wd x y).length ≤ sizeLine := by rw [wd_len, sizeLine_eq]; omega
  refine Subscript_ (ld F ha ?_ hk hla hda)
  refine wpAny_Slice (evalPart_none_step ?_)
  refine evalPart_some_step (BoolOp_or (ld F hp ?_ hk hlp hdp))
  refine truthy_int ?_
  by_cases hq0 : q = 0
  · subst hq0
    rw [if_neg (by simp)]
    refine BoolOp_one ?_
    refine wpAny_Constant_none ?_
    refine evalPart_none_step ?_
    exact slice_none_K (s := s) F N (fun h' t' k a b => h h' t' k a b) (hsz := hsz)
  · rw [if_pos (by simp; omega)]
    refine evalPart_none_step ?_
    exact slice_strN_ns (s := s) F N (fun h' t' k a b => by rw [sfx_cut hx hy hq (by omega)]; exact h h' t' k a b) (hsz := hsz)
end
end Mine
open Mine
namespace Mine
theorem words3 : True := by
  k_with "exec While BoolOp cons nil" => ((with_reducible show wpAny _ _ (exec (Stmt.While _ _ _ _) _) _ _ _); refine hold_in ?_)
  trivial
end Mine
namespace Mine
theorem words4 : True := by
  k_with "exec While Compare cons nil" => ((with_reducible show wpAny _ _ (exec (Stmt.While _ _ _ _) _) _ _ _); refine hold_in ?_)
  trivial
end Mine
namespace Mine
theorem words5 : True := by
  k_with "subscriptTail Name Slice str ref" => ((with_reducible show wpAny _ _ (subscriptTail _ (Expr.Slice none (some (Expr.BoolOp _ _ _)) none _) _ _) _ _ _); (with_reducible rename Fr _ _ _ _ => F'); (with_reducible rename News _ _ _ _ => N'); refine slice_none_K (s := ⟨_, _, _, _, _⟩) F' N' ?_; intro _ _ _ _ _)
  trivial
end Mine
namespace Mine
theorem words6 : True := by
  k_with "eval Subscript" => (k_here; (with_reducible show wpAny _ _ (eval (Expr.Subscript (Expr.Name _ _) (Expr.Slice none (some (Expr.BoolOp _ _ _)) none _) _) _) _ _ _); k_dflt (refine' cutEnd ?k1 ?k2 ?k3 ?k4 ?k5 ?k6 ?k7 ?_; (case k1 => k_asm); (case k2 => k_asm); (case k3 => exact rfl); (case k4 => exact rfl); (case k5 => omega); (case k6 => omega); (case k7 => omega); k_whole); intro h' t' k' F' N'; (try k_sweep))
  trivial
end Mine
namespace Mine
theorem words7 : True := by
  k_with "execs cons" => (k_here; (with_reducible refine any_toks ?_); intro tk'; (with_reducible refine wpAny_execs_cons ?_); (try dsimp only))
  trivial
end Mine
namespace Mine
theorem words8 : True := by
  k_with "execs nil" => (k_here; (with_reducible refine any_toks ?_); intro tk'; (with_reducible refine wpAny_execs_nil ?_); (try dsimp only))
  trivial
end Mine
namespace Mine
set_option pp.deepTerms false
set_option pp.deepTerms.threshold 10
set_option maxHeartbeats 2000000 in
theorem c_subst (c1 c2 : Str) (t1 t2 : Tok) (hc : (c1 = Str.ofString "<" ∧ c2 = Str.ofString ">") ∨ (c1 = Str.ofString ">" ∧ c2 = Str.ofString "<")) :
   Ct 2 31 [] [.str c1 t1, .str c2 t2] (fun _ _ r => ∃ t, r = .int 2 t) := by
  unfold Ct
  k_fill
  rcases hc with ⟨rfl, rfl⟩ | ⟨rfl, rfl⟩
  all_goals (
   intro w mean mg mb dp un gd cn cs a ccd cl outer A₀ base h₀ L m s Q E B F X N T hk hd hu hret
   k_dflt (first
    | (refine' enterP ?k1 ?k2 ?k3 ?k4 ?k5 ?kA ?kF ?kK ?k6 ?k7 ?k8 ?k9 ?kB ?_ ?c2 ?c3 ?c4 ?c5; (case kA => exact rfl); (case kF => exact rfl); (case kK => assumption); (case k1 => k_asm); (case k2 => k_asm); (case k3 => k_asm); (case k4 => k_asm); (case k5 => k_asm); (case k6 => k_is); (case k7 => k_is); (case k8 => ktr_room); (case k9 => exact BindsTo.of_eq rfl); (case c5 => decide); (case kB => exact locs rfl); (case c2 => exact rfl); (case c3 => exact rfl); (case c4 => exact rfl); k_whole; intro g' L' h' tk' G' F' N' B' X' T' l1; (try k_lt l1); (try dsimp only); (try k_lift B'); (try k_fold))
    | (refine' enterPC ?k1 ?k2 ?k3 ?k4 ?k5 ?kA ?kF ?kK ?k6 ?k7 ?k8 ?k9 ?kB ?kD ?_ ?c2 ?c3 ?c4; (case kA => exact rfl); (case kF => exact rfl); (case kK => assumption); (case k1 => k_asm); (case k2 => k_asm); (case k3 => k_asm); (case k4 => k_asm); (case k5 => k_asm); (case k6 => k_is); (case k7 => k_is); (case k8 => ktr_room); (case k9 => exact BindsTo.of_eq rfl); (case kB => exact rfl); (case kD => decide +kernel); (case c2 => exact rfl); (case c3 => exact rfl); (case c4 => exact rfl); k_whole; intro g' L' h' tk' cells' G' F' N' Y' B' X' T' l1; (try k_lt l1); k_cells Y'; (try simp only [List.cons_append, List.nil_append] at N'); (try dsimp only); (try k_lift B'); (try k_fold)))
   k_steps)
  all_goals (
   dsimp only
   refine leaveP_ (by assumption) (by k_asm) (by k_asm) (by intro p hp; cases hp) ?_
   intro hK _
   exact hret _ _ _ hK ⟨_, rfl⟩)
end Mine
open Mine
namespace Mine
theorem words9 : True := by
  k_with "call ref" => (k_here; (with_reducible show wpAny _ _ (call (Value.ref 31) _) _ _ _); k_dflt (refine' use_ct (c_subst _ _ _ _ ?kc) ?k1 ?k2 ?k3 ?k4 ?k5 ?kK ?kS ?kd ?ku ?_; (case kc => assumption); (case k1 => k_asm); (case k2 => k_asm); (case k3 => k_asm); (case k4 => k_asm); (case k5 => k_asm); (case kK => first | exact rfl | assumption); (case kS => intro p hp; cases hp); (case kd => ktr_room); (case ku => ktr_units); k_whole); intro r' h' tk' hK' F' N' ho'; (refine Exists.elim ho' ?_); clear ho' hK'; intro t9 e9; subst e9; (try dsimp only); (try k_sweep))
  trivial
end Mine
namespace Mine
theorem ints_of_get {f : Nat → Int} : ∀ {vs : List Value} {n : Nat}, vs.length = n → (∀ (j : Nat) (v : Value), vs[j]? = some v → ∃ t, v = .int (f j) t) → IntsAre vs ((List.range n).map f) := by
  intro vs
  induction vs generalizing f with
  | nil => intro n hn _; subst hn; exact .nil
  | cons v r ih =>
    intro n hn h
    subst hn
    rw [List.length_cons, List.range_succ_eq_map, List.map_cons, List.map_map]
    obtain ⟨t, rfl⟩ := h 0 v rfl
    exact .cons _ t (ih (f := f ∘ Nat.succ) rfl fun j v hj => h (j + 1) v hj)
theorem rng2_size : ∀ p : Nat, p < 15 → Builtin.Range.rangeSize 2 (2 * ((p : Int) + 1)) 2 = (p : Int) := by decide +kernel
theorem rng2_small : ∀ p : Nat, p < 15 → Builtin.Range.small 2 (2 * ((p : Int) + 1)) 2 = true := by decide +kernel
theorem rng1_size : ∀ n : Nat, n < 15 → Builtin.Range.rangeSize 0 (n : Int) 1 = (n : Int) := by decide +kernel
theorem rng1_small : ∀ n : Nat, n < 15 → Builtin.Range.small 0 (n : Int) 1 = true := by decide +kernel
def row0 (p : Nat) : List Int := (List.range p).map fun (i : Nat) => 2 * ((i : Int) + 1)
theorem row0_len (p : Nat) : (row0 p).length = p := by simp [row0]
theorem row0_get {p j : Nat} (h : j < p) : (row0 p).getD j 0 = 2 * ((j : Int) + 1) := by simp [row0, List.getD_eq_getElem?_getD, h]
section
variable {prog : Program} {w : World} {A : Around} {E : Value → Shared → Prop} {s : Shared} {h₀ : Heap} {L r : Addr} {m : Str → Option Value} {news : List (Addr × Obj)} {env : Env} {x : Str} {body : List Stmt}
theorem list_range2 {p : Nat} {b : Int} {t₀ u₀ v₀ : Tok} {Q : Value → Shared → Prop} (hh : A.handled = none) (F : Fr h₀ L s.heap m) (N : News h₀ L s.heap news) (hr : IsRange s.heap r 2 b 2 t₀ u₀ v₀) (hb : b = 2 * ((p : Int) + 1)) (hp : p ≤ 14)
    (h : ∀ D us c h' tk, Fr h₀ L h' m → News h₀ L h' ((D, listOf (List.toArray us) c) :: news) → (∀ p ∈ news, p.1 < D) → IntsAre us (row0 p) → Q (.ref D) { s with heap := h', toks := tk }) :
    wpAny (model prog w) A (call (.type "list") [.ref r]) Q E s := by
  subst hb
  have hn : Builtin.Range.rangeSize 2 (2 * ((p : Int) + 1)) 2 = (p : Int) := rng2_size p (Nat.lt_succ_of_le hp)
  have hsmall : Builtin.Range.small 2 (2 * ((p : Int) + 1)) 2 = true := rng2_small p (Nat.lt_succ_of_le hp)
  refine call_list_range hh hr hsmall hn (by omega) fun h' tk acc c hk hD hI => ?_
  have hD' : h'.get? s.heap.objs.size = some (listOf (List.toArray acc.toList) c) := by
    rw [Array.toArray_toList]
    exact hD
  refine h _ acc.toList c h' tk (F.keeps hk) (news_pushed F N hk hD' rfl) (fun p hp => Heap.lt_size (N p hp).1) (ints_of_get (vs := acc.toList) (by rw [Array.length_toList]; exact hI.1) fun j v hj => ?_)
  obtain ⟨t, ht⟩ := hI.2 j v (by rw [← hj, Array.getElem?_toList])
  exact ⟨t, ht.trans (congrArg (fun z => Value.int z t) (by omega))⟩
theorem range_inv {n : Nat} {b : Int} {t₀ u₀ v₀ : Tok} {m₀ : Str → Option Value} {Q : Flow → Shared → Prop} (J : Nat → (Str → Option Value) → List (Addr × Obj) → Prop)
    (hh : A.handled = none) (hr : IsRange s.heap r 0 b 1 t₀ u₀ v₀) (hb : b = (n : Int)) (hn : n ≤ 14) (F : Fr h₀ env.locals s.heap m₀) (N : News h₀ env.locals s.heap news) (hj : J 0 m₀ news)
    (turn : ∀ i t m₁ news₁ h tk own, i < n → OwnOff own (news.map (·.1)) → J i m₁ news₁ → Fr h₀ env.locals h (fun y => if y = x then some (.int (i : Int) t) else m₁ y) → News h₀ env.locals h (news₁ ++ own) →
      wpAny (model prog w) A (execs body env) (InvPostN h₀ env.locals (J (i + 1)) own (news.map (·.1)) { s with heap := h, toks := tk } Q) E { s with heap := h, toks := tk })
    (done : ∀ m₁ news₁ h tk, J n m₁ news₁ → Fr h₀ env.locals h m₁ → News h₀ env.locals h news₁ → Q .next { s with heap := h, toks := tk }) :
    wpAny (model prog w) A (pyIter (.ref r)) (fun it s₂ => LoopAtV prog w A h₀ env x body Q E it s₂) E s := by
  subst hb
  have hsmall : Builtin.Range.small 0 (n : Int) 1 = true := rng1_small n (Nat.lt_succ_of_le hn)
  have hz : Builtin.Range.rangeSize 0 (n : Int) 1 = (n : Int) := rng1_size n (Nat.lt_succ_of_le hn)
  refine wpAny_pyIter_range hr hsmall ?_
  have W : Walks prog w A s.heap.objs.size [s.heap.objs.size] [s.heap.objs.size] n (fun i v => i < n ∧ ∃ t, v = .int (0 + i * 1) t)
      (fun i h => IsRangeIter h s.heap.objs.size (0 + (i : Nat) * 1) ((n : Int) - (i : Nat)) 1) := (Walks.range hh _ 0 1 n).bound
  refine loop_invN J W ?_ ?_ ?_ ?_ (by show IsRangeIter _ _ _ _ _; rw [hz]; simpa using Heap.get?_push_size _ rfl) (F.push _) (fun p hp => ⟨Heap.get?_push_of_some _ (N p hp).1, (N p hp).2⟩) hj ?_ ?_
  · intro hm
    exact absurd F.ns.lt ((List.mem_singleton.mp hm) ▸ Nat.lt_irrefl _)
  · intro b hb
    rw [List.mem_singleton.mp hb]
    exact next_is_new F
  · intro p hp hI
    exact absurd (Heap.lt_size (N p hp).1) ((List.mem_singleton.mp hI) ▸ Nat.lt_irrefl _)
  · intro p hp hI
    exact absurd (Heap.lt_size (N p hp).1) ((List.mem_singleton.mp hI) ▸ Nat.lt_irrefl _)
  · rintro i v m₁ nx h tk own hi ⟨_, t, rfl⟩ _ hoff hj' F₁ N₁
    have e1 : (0 : Int) + (i : Int) * 1 = (i : Int) := by omega
    rw [e1] at F₁
    exact turn i t m₁ nx h tk own hi hoff hj' F₁ N₁
  · rintro m₁ nx h tk hj' F₁ N₁
    exact done m₁ nx h tk hj' F₁ N₁
end
section
variable {A : Around} {E : Value → Shared → Prop} {env : Env}
theorem execs_cut2 {prog : Program} {w : World} {h₀ : Heap} {L : Addr} {s : Shared} {l : List Stmt} {Q : Flow → Shared → Prop} (n : Nat) (X : (Str → Option Value) → List (Addr × Obj) → Prop)
    (h : wpAny (model prog w) A (execs (l.take n) env) (fun f s' => match f with | .next => ExitAt h₀ L s X s' | f => Q f s') E s)
    (k : ∀ m₁ news₁ h tk, Fr h₀ L h m₁ → News h₀ L h news₁ → X m₁ news₁ → wpAny (model prog w) A (execs (l.drop n) env) Q E { s with heap := h, toks := tk }) :
    wpAny (model prog w) A (execs l env) Q E s := fun Γ p hΓ => by
  rw [← List.take_append_drop n l]
  refine execs_app_wp _ p s ?_
  refine Sem.wp_mono _ Γ _ (fun f p' s' h' => ?_) (fun _ _ _ h' => h') _ _ (h Γ p hΓ)
  cases f with
  | next =>
    obtain ⟨hh, tk, m₁, news₁, rfl, F, N, x⟩ := h'
    exact k m₁ news₁ hh tk F N x Γ p' hΓ
  | cont => exact h'
  | brk => exact h'
  | ret v => exact h'
end
theorem canon3 {m : Str → Option Value} {k1 k2 k3 : Str} {v1 v2 v3 : Option Value} (h1 : m k1 = v1) (h2 : m k2 = v2) (h3 : m k3 = v3) : (fun y => if y = k1 then v1 else if y = k2 then v2 else if y = k3 then v3 else m y) = m := by
  subst h1 h2 h3; funext y; split
  · simp_all
  · split
    · simp_all
    · split <;> simp_all
theorem canon5 {m : Str → Option Value} {k1 k2 k3 k4 k5 : Str} {v1 v2 v3 v4 v5 : Option Value} (h1 : m k1 = v1) (h2 : m k2 = v2) (h3 : m k3 = v3) (h4 : m k4 = v4) (h5 : m k5 = v5) :
    (fun y => if y = k1 then v1 else if y = k2 then v2 else if y = k3 then v3 else if y = k4 then v4 else if y = k5 then v5 else m y) = m := by
  have e := canon3 (m := m) h3 h4 h5
  rw [show (fun y => if y = k1 then v1 else if y = k2 then v2 else if y = k3 then v3 else if y = k4 then v4 else if y = k5 then v5 else m y) = fun y => if y = k1 then v1 else if y = k2 then v2 else (fun y => if y = k3 then v3 else if y = k4 then v4 else if y = k5 then v5 else m y) y from rfl, e]
  subst h1 h2; funext y; split
  · simp_all
  · split <;> simp_all
theorem canon9 {m : Str → Option Value} {k1 k2 k3 k4 k5 k6 k7 k8 k9 : Str} {v1 v2 v3 v4 v5 v6 v7 v8 v9 : Option Value} (h1 : m k1 = v1) (h2 : m k2 = v2) (h3 : m k3 = v3) (h4 : m k4 = v4) (h5 : m k5 = v5) (h6 : m k6 = v6) (h7 : m k7 = v7) (h8 : m k8 = v8) (h9 : m k9 = v9) :
    (fun y => if y = k1 then v1 else if y = k2 then v2 else if y = k3 then v3 else if y = k4 then v4 else if y = k5 then v5 else if y = k6 then v6 else if y = k7 then v7 else if y = k8 then v8 else if y = k9 then v9 else m y) = m := by
  have e := canon5 (m := m) h5 h6 h7 h8 h9
  rw [show (fun y => if y = k1 then v1 else if y = k2 then v2 else if y = k3 then v3 else if y = k4 then v4 else if y = k5 then v5 else if y = k6 then v6 else if y = k7 then v7 else if y = k8 then v8 else if y = k9 then v9 else m y) = fun y => if y = k1 then v1 else if y = k2 then v2 else if y = k3 then v3 else if y = k4 then v4 else (fun y => if y = k5 then v5 else if y = k6 then v6 else if y = k7 then v7 else if y = k8 then v8 else if y = k9 then v9 else m y) y from rfl, e]
  have e2 := canon3 (m := m) h2 h3 h4
  rw [show (fun y => if y = k1 then v1 else if y = k2 then v2 else if y = k3 then v3 else if y = k4 then v4 else m y) = fun y => if y = k1 then v1 else (fun y => if y = k2 then v2 else if y = k3 then v3 else if y = k4 then v4 else m y) y from rfl, e2]
  subst h1; funext y; split <;> simp_all
section
variable {h₀ h : Heap} {L : Addr} {m : Str → Option Value} {k1 k2 k3 k4 k5 k6 k7 k8 k9 : Str} {v1 v2 v3 v4 v5 v6 v7 v8 v9 : Option Value}
theorem fr_canon3 (F : Fr h₀ L h m) (h1 : m k1 = v1) (h2 : m k2 = v2) (h3 : m k3 = v3) : Fr h₀ L h (fun y => if y = k1 then v1 else if y = k2 then v2 else if y = k3 then v3 else m y) := by
  rw [canon3 h1 h2 h3]; exact F
theorem fr_canon5 (F : Fr h₀ L h m) (h1 : m k1 = v1) (h2 : m k2 = v2) (h3 : m k3 = v3) (h4 : m k4 = v4) (h5 : m k5 = v5) : Fr h₀ L h (fun y => if y = k1 then v1 else if y = k2 then v2 else if y = k3 then v3 else if y = k4 then v4 else if y = k5 then v5 else m y) := by
  rw [canon5 h1 h2 h3 h4 h5]; exact F
theorem fr_canon9 (F : Fr h₀ L h m) (h1 : m k1 = v1) (h2 : m k2 = v2) (h3 : m k3 = v3) (h4 : m k4 = v4) (h5 : m k5 = v5) (h6 : m k6 = v6) (h7 : m k7 = v7) (h8 : m k8 = v8) (h9 : m k9 = v9) :
    Fr h₀ L h (fun y => if y = k1 then v1 else if y = k2 then v2 else if y = k3 then v3 else if y = k4 then v4 else if y = k5 then v5 else if y = k6 then v6 else if y = k7 then v7 else if y = k8 then v8 else if y = k9 then v9 else m y) := by
  rw [canon9 h1 h2 h3 h4 h5 h6 h7 h8 h9]; exact F
end
theorem allNe_app {l₁ l₂ : List (Addr × Obj)} {d : Addr} (h₁ : ∀ p ∈ l₁, p.1 ≠ d) (h₂ : ∀ p ∈ l₂, p.1 ≠ d) : ∀ p ∈ l₁ ++ l₂, p.1 ≠ d := fun p hp => (List.mem_append.mp hp).elim (h₁ p) (h₂ p)
end Mine
namespace Mine
theorem txt_mul_lt {k : Int} (h0 : 0 ≤ k) (h1 : k ≤ 7) : Txt.mul (Str.ofString "<") k = Wd k.toNat 0 := by
  have : ∀ n : Nat, n < 8 → Txt.mul (Str.ofString "<") (n : Int) = Wd n 0 := by decide +kernel
  obtain ⟨n, rfl⟩ := Int.eq_ofNat_of_zero_le h0
  exact this n (by omega)
theorem txt_mul_gt {k : Int} (h0 : 0 ≤ k) (h1 : k ≤ 7) : Txt.mul (Str.ofString ">") k = Wd 0 k.toNat := by
  have : ∀ n : Nat, n < 8 → Txt.mul (Str.ofString ">") (n : Int) = Wd 0 n := by decide +kernel
  obtain ⟨n, rfl⟩ := Int.eq_ofNat_of_zero_le h0
  exact this n (by omega)
theorem wd_add (i j : Nat) : Wd i 0 ++ Wd 0 j = Wd i j := by
  apply Str.ext'
  show (Wd i 0).cps ++ (Wd 0 j).cps = (Wd i j).cps
  simp [Wd]
section
variable {prog : Program} {w : World} {A : Around} {E : Value → Shared → Prop} {s : Shared} {t u : Tok} {Q : Value → Shared → Prop}
theorem mul_lt {k : Int} (h0 : 0 ≤ k) (h1 : k ≤ 7) (h : ∀ t' n, Q (.str (Wd k.toNat 0) t') { s with toks := n }) : wpAny (model prog w) A (binaryOp .Mult (.str (Str.ofString "<") t) (.int k u)) Q E s :=
  SB.mul (mulOk_of 16 1048576 (by decide +kernel) (by omega) (by omega) (by decide) (by decide)) fun t' n => by rw [txt_mul_lt h0 h1]; exact h t' n
theorem mul_gt {k : Int} (h0 : 0 ≤ k) (h1 : k ≤ 7) (h : ∀ t' n, Q (.str (Wd 0 k.toNat) t') { s with toks := n }) : wpAny (model prog w) A (binaryOp .Mult (.str (Str.ofString ">") t) (.int k u)) Q E s :=
  SB.mul (mulOk_of 16 1048576 (by decide +kernel) (by omega) (by omega) (by decide) (by decide)) fun t' n => by rw [txt_mul_gt h0 h1]; exact h t' n
theorem add_wd {i j : Nat} (hi : i ≤ 7) (hj : j ≤ 7) (h : ∀ t' n, Q (.str (Wd i j) t') { s with toks := n }) : wpAny (model prog w) A (binaryOp .Add (.str (Wd i 0) t) (.str (Wd 0 j) u)) Q E s :=
  SB.add (fun t' n => by rw [wd_add]; exact h t' n) (by rw [wd_len, wd_len, sizeLine_eq]; omega)
end
section
variable {prog : Program} {w : World} {A : Around} {E : Value → Shared → Prop} {s : Shared} {h₀ : Heap} {L D : Addr} {m : Str → Option Value} {news : List (Addr × Obj)} {Q : Value → Shared → Prop}
theorem sub_lit {value slice : Expr} {its : Array Value} {n : Nat} {k : Int} {u : Tok} {v : Value} (N : News h₀ L s.heap news) (hm : (D, listOf its n) ∈ news) (h0 : 0 ≤ k) (hhi : k < 2 ^ 63) (hx : its[k.toNat]? = some v) (h : Q v s)
    (hs : subscripted slice false (.ref D) (.int k u) = operate [.ref D, .int k u] (getItem (.ref D) (.int k u)) := by with_unfolding_all rfl) :
    wpAny (model prog w) A (subscriptTail value slice (.ref D) (.int k u)) Q E s :=
  have hL : s.heap.IsList D its := News.isList N hm
  tail_any hL.typeIs slot_list_getitem.lookup (wpAny_getItem_list hL h0 hhi hx h) hs
theorem sub3_0 {value slice : Expr} {n : Nat} {u : Tok} {v0 v1 v2 : Value} (N : News h₀ L s.heap news) (hm : (D, listOf #[v0, v1, v2] n) ∈ news) (h : Q v0 s)
    (hs : subscripted slice false (.ref D) (.int 0 u) = operate [.ref D, .int 0 u] (getItem (.ref D) (.int 0 u)) := by with_unfolding_all rfl) :
    wpAny (model prog w) A (subscriptTail value slice (.ref D) (.int 0 u)) Q E s := sub_lit N hm (by decide) (by decide) rfl h hs
theorem sub3_1 {value slice : Expr} {n : Nat} {u : Tok} {v0 v1 v2 : Value} (N : News h₀ L s.heap news) (hm : (D, listOf #[v0, v1, v2] n) ∈ news) (h : Q v1 s)
    (hs : subscripted slice false (.ref D) (.int 1 u) = operate [.ref D, .int 1 u] (getItem (.ref D) (.int 1 u)) := by with_unfolding_all rfl) :
    wpAny (model prog w) A (subscriptTail value slice (.ref D) (.int 1 u)) Q E s := sub_lit N hm (by decide) (by decide) rfl h hs
theorem sub3_2 {value slice : Expr} {n : Nat} {u : Tok} {v0 v1 v2 : Value} (N : News h₀ L s.heap news) (hm : (D, listOf #[v0, v1, v2] n) ∈ news) (h : Q v2 s)
    (hs : subscripted slice false (.ref D) (.int 2 u) = operate [.ref D, .int 2 u] (getItem (.ref D) (.int 2 u)) := by with_unfolding_all rfl) :
    wpAny (model prog w) A (subscriptTail value slice (.ref D) (.int 2 u)) Q E s := sub_lit N hm (by decide) (by decide) rfl h hs
end
end Mine
open Mine
namespace Mine
theorem words10 : True := by
  k_with "binaryOp Mult str int" => (k_here; (with_reducible show wpAny _ _ (binaryOp Operator.Mult (Value.str _ _) (Value.int _ _)) _ _ _); (first | refine mul_lt (by first | omega | (dsimp only [List.getD_cons_zero, List.getD_cons_succ, Int.toNat]; omega)) (by omega) ?_ | refine mul_gt (by omega) (by omega) ?_); intro t' n')
  trivial
end Mine
namespace Mine
theorem words11 : True := by
  k_with "binaryOp Add str str" => (k_here; (with_reducible show wpAny _ _ (binaryOp Operator.Add (Value.str (Wd _ _) _) (Value.str (Wd _ _) _)) _ _ _); (refine add_wd (by omega) (by omega) ?_); intro t' n')
  trivial
end Mine
namespace Mine
theorem words12 : True := by
  k_with "subscriptTail Name Constant ref int" => (k_here; (with_reducible show wpAny _ _ (subscriptTail _ (Expr.Constant _ _ _) (Value.ref _) (Value.int _ _)) _ _ _); k_dflt (first | ((with_reducible show wpAny _ _ (subscriptTail _ _ (Value.ref _) (Value.int 0 _)) _ _ _); refine' sub3_0 ?k1 ?k2 ?_ ?k7; (case k1 => k_asm); (case k2 => k_mem); (case k7 => with_unfolding_all rfl); k_whole) | ((with_reducible show wpAny _ _ (subscriptTail _ _ (Value.ref _) (Value.int 1 _)) _ _ _); refine' sub3_1 ?k1 ?k2 ?_ ?k7; (case k1 => k_asm); (case k2 => k_mem); (case k7 => with_unfolding_all rfl); k_whole) | ((with_reducible show wpAny _ _ (subscriptTail _ _ (Value.ref _) (Value.int 2 _)) _ _ _); refine' sub3_2 ?k1 ?k2 ?_ ?k7; (case k1 => k_asm); (case k2 => k_mem); (case k7 => with_unfolding_all rfl); k_whole)))
  trivial
end Mine
namespace Mine
set_option pp.deepTerms false
set_option pp.deepTerms.threshold 10
set_option maxHeartbeats 2000000 in
theorem c_word (x : Addr) (c0 c1 c2 : Int) (tc0 tc1 tc2 : Tok) (nc : Nat) (h1 : 1 ≤ 4 + c0 - c1 ∧ 4 + c0 - c1 ≤ 7) (h2 : 1 ≤ 4 + c1 - c2 ∧ 4 + c1 - c2 ≤ 7) :
   Ct 2 45 [(x, listOf #[.int c0 tc0, .int c1 tc1, .int c2 tc2] nc)] [.ref x] (fun _ _ r => ∃ t, r = .str (Wd (4 + c0 - c1).toNat (4 + c1 - c2).toNat) t) := by
  unfold Ct
  k_fill
  intro w mean mg mb dp un gd cn cs a ccd cl outer A₀ base h₀ L m s Q E B F X N T hk hd hu hret
  k_dflt (first
   | (refine' enterP ?k1 ?k2 ?k3 ?k4 ?k5 ?kA ?kF ?kK ?k6 ?k7 ?k8 ?k9 ?kB ?_ ?c2 ?c3 ?c4 ?c5; (case kA => exact rfl); (case kF => exact rfl); (case kK => assumption); (case k1 => k_asm); (case k2 => k_asm); (case k3 => k_asm); (case k4 => k_asm); (case k5 => k_asm); (case k6 => k_is); (case k7 => k_is); (case k8 => ktr_room); (case k9 => exact BindsTo.of_eq rfl); (case c5 => decide); (case kB => exact locs rfl); (case c2 => exact rfl); (case c3 => exact rfl); (case c4 => exact rfl); k_whole; intro g' L' h' tk' G' F' N' B' X' T' l1; (try k_lt l1); (try dsimp only); (try k_lift B'); (try k_fold))
   | (refine' enterPC ?k1 ?k2 ?k3 ?k4 ?k5 ?kA ?kF ?kK ?k6 ?k7 ?k8 ?k9 ?kB ?kD ?_ ?c2 ?c3 ?c4; (case kA => exact rfl); (case kF => exact rfl); (case kK => assumption); (case k1 => k_asm); (case k2 => k_asm); (case k3 => k_asm); (case k4 => k_asm); (case k5 => k_asm); (case k6 => k_is); (case k7 => k_is); (case k8 => ktr_room); (case k9 => exact BindsTo.of_eq rfl); (case kB => exact rfl); (case kD => decide +kernel); (case c2 => exact rfl); (case c3 => exact rfl); (case c4 => exact rfl); k_whole; intro g' L' h' tk' cells' G' F' N' Y' B' X' T' l1; (try k_lt l1); k_cells Y'; (try simp only [List.cons_append, List.nil_append] at N'); (try dsimp only); (try k_lift B'); (try k_fold)))
  k_steps
  all_goals (
   dsimp only
   refine leaveP_ (by assumption) (by k_asm) (by k_asm) (fun p hp => hp) ?_
   intro hK _
   exact hret _ _ _ hK ⟨_, rfl⟩)
/-- AllNe, as AllLt -/
def AllNe (d : Nat) : List (Addr × Obj) → Prop
  | [] => True
  | p :: r => @Ne Nat p.1 d ∧ AllNe d r
theorem allNe_of {d : Addr} : ∀ {l : List (Addr × Obj)}, (∀ p ∈ l, p.1 ≠ d) → AllNe d l
  | [], _ => trivial
  | p :: _, h => ⟨h p (.head _), allNe_of fun q hq => h q (.tail _ hq)⟩
theorem use_obj {k : Nat} {f : Addr} {as : List (Addr × Obj)} {vs : List Value} {P : Obj → Prop} (C : Ct k f as vs (fun hs h' r => ∃ D o, r = .ref D ∧ hs.get? D = none ∧ h'.get? D = some o ∧ P o))
    {w : World} {mean : ExcName → Option Value} {mg mb : Str → Option Value} {dp un : Nat} {gd : Option (List Code)} {cn : Str} {cs : Scope} {a : Addr} {ccd : Value} {cl : List (Str × Addr)} {outer : List Env} {A₀ : Around} {base h₀ : Heap} {L : Addr} {m : Str → Option Value} {s : Shared} {Q E : Value → Shared → Prop} {news : List (Addr × Obj)}
    (B : Below A₀ base outer h₀) (F : Fr h₀ L s.heap m) (X : (Mine.fkh.heap_1_1 w.params).In h₀) (N : News h₀ L s.heap news) (T : Top Mine.fkh.view_1_2 (looseW Mine.fkh.view_1_2 [Str.ofString "EXACT_TOKEN_TYPES"]) mean mg mb h₀) (hk : cs.kind = .function)
    (hsub : ∀ p ∈ as, p ∈ news) (hd : dp + k < recursionLimit) (hu : un + 16 * k < cLine)
    (h : ∀ D o h' tk', Fr h₀ L h' m → News h₀ L h' ((D, o) :: news) → AllNe D news → P o → Q (.ref D) { s with heap := h', toks := tk' }) :
    wpAny (model PySem.Challenge.rw_rl0069_01.row.prog w) (ktrTop dp un gd cn cs L a ccd cl outer) (call (.ref f) vs) Q E s := by
  refine use_ct C B F X N T hk hsub hd hu fun r h' tk' hK F' N' ho => ?_
  obtain ⟨D, o, rfl, hn, hg, hp⟩ := ho
  refine h D o h' tk' F' (fun p hp => ?_) (allNe_of fun p hp e => ?_) hp
  · rcases List.mem_cons.mp hp with rfl | hp
    · refine ⟨hg, fun e => ?_, ?_⟩
      · obtain ⟨oL, _, _, hL, _⟩ := F.ns
        rw [← e, hn] at hL; cases hL
      · cases q : h₀.get? D with
        | none => rfl
        | some o' => have := F.keep _ _ q; rw [hn] at this; cases this
    · exact N' p hp
  · have := (N p hp).1
    rw [e, hn] at this; cases this
theorem leaveP_obj {hs g : Heap} {as news' : List (Addr × Obj)} {R : Value → Shared → Prop} {v : Value} {s' : Shared} {L' D : Addr} {m' : Str → Option Value} {o : Obj}
    (G : Gd hs as g) (F : Fr g L' s'.heap m') (N : News g L' s'.heap news') (hsub : ∀ p ∈ as, p ∈ news') (hm : (D, o) ∈ news') (hD : D ∉ as.map (·.1))
    (k : Keeps hs s'.heap → hs.get? D = none → s'.heap.get? D = some o → R v s') : LeaveP hs as R v s' :=
  leaveP_ G F N hsub fun hK hf => k hK (hf _ hm hD) (N _ hm).1
end Mine
open Mine
namespace Mine
theorem words13 : True := by
  k_with "call ref" => (k_here; (with_reducible show wpAny _ _ (call (Value.ref 45) _) _ _ _); k_dflt (refine' use_ct (c_word _ _ _ _ _ _ _ _ ?kc ?ke) ?k1 ?k2 ?k3 ?k4 ?k5 ?kK ?kS ?kd ?ku ?_; (case k1 => k_asm); (case k2 => k_asm); (case k3 => k_asm); (case k4 => k_asm); (case k5 => k_asm); (case kK => first | exact rfl | assumption); (case kS => intro p hp; rw [List.mem_singleton.mp hp]; k_mem); (case kd => ktr_room); (case ku => ktr_units); (case kc => omega); (case ke => omega); k_whole); intro r' h' tk' hK' F' N' ho'; (refine Exists.elim ho' ?_); clear ho' hK'; intro t9 e9; subst e9; (try dsimp only); (try k_sweep))
  trivial
end Mine
namespace Mine
set_option genInjectivity false
set_option genSizeOf false
/-- a colour: the list of three ints at `a` -/
structure Col where
  a : Addr
  r : Int
  g : Int
  b : Int
  t0 : Tok
  t1 : Tok
  t2 : Tok
  k : Nat
abbrev Col.e (c : Col) : Addr × Obj := (c.a, listOf #[.int c.r c.t0, .int c.g c.t1, .int c.b c.t2] c.k)
abbrev Col.v (c : Col) : Value := .ref c.a
/-- what a def's entry lays -/
structure Ent where
  g : Heap
  L : Addr
  h : Heap
  tk : Nat
  cells : List (Addr × Obj)
/-- all that a contract speaks of -/
structure Z where
  i : Nat → Int
  n : Nat → Nat
  o : Nat → Obj
  c : Nat → Col
  w : World
  mean : ExcName → Option Value
  mg : Str → Option Value
  mb : Str → Option Value
  dp : Nat
  un : Nat
  gd : Option (List Code)
  cn : Str
  cs : Scope
  a : Addr
  ccd : Value
  cl : List (Str × Addr)
  outer : List Env
  A₀ : Around
  base : Heap
  h₀ : Heap
  L : Addr
  m : Str → Option Value
  s : Shared
  Q : Value → Shared → Prop
  E : Value → Shared → Prop
  R : Flow → Shared → Prop
  e : Ent
noncomputable def z0 : Z := ⟨fun _ => 0, fun _ => 0, fun _ => default, fun _ => ⟨0, 0, 0, 0, 0, 0, 0, 0⟩, aWorld 0, fun _ => .none, fun _ => .none, fun _ => .none, 0, 0, .none, default, default, 0, .none, [], [], callerA, default, default, 0, fun _ => .none, {}, fun _ _ => True, fun _ _ => True, fun _ _ => True, ⟨default, 0, default, 0, []⟩⟩
/-- one for which P fails, if there is any -/
noncomputable def eps (P : Z → Prop) : Z := @Classical.epsilon Z ⟨z0⟩ fun a => ¬ P a
theorem eps_all {P : Z → Prop} {c : Z} (hc : c = eps P) (h : P c) (z : Z) : P z :=
  Classical.byContradiction fun n => (hc ▸ @Classical.epsilon_spec Z (fun a => ¬ P a) ⟨z, n⟩ : ¬ P c) h
/-- what a contract is given -/
structure Hyp (z : Z) (k : Nat) (as : List (Addr × Obj)) (Out : Heap → Heap → Value → Prop) : Prop where
  B : Below z.A₀ z.base z.outer z.h₀
  F : Fr z.h₀ z.L z.s.heap z.m
  X : (Mine.fkh.heap_1_1 z.w.params).In z.h₀
  N : News z.h₀ z.L z.s.heap as
  T : Top Mine.fkh.view_1_2 (looseW Mine.fkh.view_1_2 [Str.ofString "EXACT_TOKEN_TYPES"]) z.mean z.mg z.mb z.h₀
  hk : z.cs.kind = .function
  hd : z.dp + k < recursionLimit
  hu : z.un + 16 * k < cLine
  hret : ∀ r h' tk', Keeps z.s.heap h' → Out z.s.heap h' r → z.Q r { z.s with heap := h', toks := tk' }
/-- the same with another entry -/
abbrev Z.at (z : Z) (e : Ent) : Z := { z with e := e }
theorem Hyp.at {z : Z} {k : Nat} {as : List (Addr × Obj)} {Out : Heap → Heap → Value → Prop} (H : Hyp z k as Out) (e : Ent) : Hyp (z.at e) k as Out := ⟨H.B, H.F, H.X, H.N, H.T, H.hk, H.hd, H.hu, H.hret⟩
def CtZ (z : Z) (f : Addr) (vs : List Value) : Prop := wpAny (model PySem.Challenge.rw_rl0069_01.row.prog z.w) (ktrTop z.dp z.un z.gd z.cn z.cs z.L z.a z.ccd z.cl z.outer) (call (.ref f) vs) z.Q z.E z.s
/-- what a def's entry leaves to show, of all that it may lay; the program's text is found, not typed -/
abbrev Cap (z : Z) (k : Nat) (as : List (Addr × Obj)) (Out : Heap → Heap → Value → Prop) (f : Addr) (vs : List Value) : Type := { R : Ent → Prop // Hyp z k as Out → (∀ e, R e) → CtZ z f vs }
section
variable {prog : Program} {w : World} {A A₀ : Around} {E : Value → Shared → Prop} {s : Shared} {K : Frag} {L : Addr} {h₀ base : Heap} {m mg mb : Str → Option Value} {as : List (Addr × Obj)} {p : Program} {loose : List Str} {mean : ExcName → Option Value} {Q : Value → Shared → Prop}
 {env : Env} {outer : List Env} {name qual : Str} {params : Arguments} {body : List Stmt} {scope : Scope} {dV kV doc pm cdv ct oc : Value} {an od : Option Addr} {osl : Array (Option Value)} {f : Addr} {vs : List Value} {binds : List (Str × Value)}
theorem enterE (B : Below A₀ base outer h₀) (F : Fr h₀ L s.heap m) (X₀ : K.In h₀) (N : News h₀ L s.heap as) (T : Top p loose mean mg mb h₀) (hA : A.frames = some (env :: outer)) (hf : env.frame = some L) (hke : env.scope.kind = .function)
    (ho : K.lookup f = some ⟨oc, od, .func (fnOf name qual params body scope dV kV doc pm an cdv ct), osl⟩) (hcd : codeIn K cdv qual = true) (hroom : A.depth < recursionLimit)
    (hbind : BindsTo s (fnOf name qual params body scope dV kV doc pm an cdv ct) ⟨vs, []⟩ binds) (hloc : ∀ y ∈ binds, scope.names.lookup y.1 = some .local)
    (h : ∀ e : Ent, Gd s.heap as e.g → Fr e.g e.L e.h (fun y => binds.reverse.lookup y) → News e.g e.L e.h as → Below A base (env :: outer) e.g → K.In e.g → Top p loose mean mg mb e.g → (∀ p ∈ as, p.1 < e.L) →
      wpAny (model prog w) (A.deeper (envOf qual scope e.L f cdv)) (execs body (envOf qual scope e.L f cdv))
        (fun fl s' => LeaveP s.heap as Q (match fl with | .ret v => v | _ => .none) s')
        (fun x s' => wpAny (model prog w) (A.deeper (envOf qual scope e.L f cdv)) (leaving (envOf qual scope e.L f cdv) x) (fun _ s'' => E x s'') (fun e' s'' => E e' s'') s')
        { s with heap := e.h, toks := e.tk })
    (hco : scope.isCoroutine = false) (hgen : scope.isGenerator = false) (hk : scope.kind = .function)
    (hcell : ∀ x ∈ scope.names, x.2 ≠ .cell) : wpAny (model prog w) A (call (.ref f) vs) Q E s :=
  enterP B F X₀ N T hA hf hke ho hcd hroom hbind hloc (fun g L' h₁ tk => h ⟨g, L', h₁, tk, []⟩) hco hgen hk hcell
theorem enterEC (B : Below A₀ base outer h₀) (F : Fr h₀ L s.heap m) (X₀ : K.In h₀) (N : News h₀ L s.heap as) (T : Top p loose mean mg mb h₀) (hA : A.frames = some (env :: outer)) (hf : env.frame = some L) (hke : env.scope.kind = .function)
    (ho : K.lookup f = some ⟨oc, od, .func (fnOf name qual params body scope dV kV doc pm an cdv ct), osl⟩) (hcd : codeIn K cdv qual = true) (hroom : A.depth < recursionLimit)
    (hbind : BindsTo s (fnOf name qual params body scope dV kV doc pm an cdv ct) ⟨vs, []⟩ binds) (hkind : (binds.all fun y => scope.names.lookup y.1 == some .local || scope.names.lookup y.1 == some .cell) = true)
    (hnd : ((cellsFrom 0 scope.names []).map (·.1)).Nodup)
    (h : ∀ e : Ent, Gd s.heap as e.g → Fr e.g e.L e.h (bindL (envOfC qual scope e.L f cdv).kindOf binds fun _ => none) → News e.g e.L e.h (e.cells ++ as) →
      CellsAre (bindC (envOfC qual scope e.L f cdv).kindOf binds fun _ => none) (cellsFrom (e.L + 1) scope.names []) e.cells → Below A base (env :: outer) e.g → K.In e.g → Top p loose mean mg mb e.g → (∀ p ∈ as, p.1 < e.L) →
      wpAny (model prog w) (A.deeper (envOfC qual scope e.L f cdv)) (execs body (envOfC qual scope e.L f cdv))
        (fun fl s' => LeaveP s.heap as Q (match fl with | .ret v => v | _ => .none) s')
        (fun x s' => wpAny (model prog w) (A.deeper (envOfC qual scope e.L f cdv)) (leaving (envOfC qual scope e.L f cdv) x) (fun _ s'' => E x s'') (fun e' s'' => E e' s'') s')
        { s with heap := e.h, toks := e.tk })
    (hco : scope.isCoroutine = false) (hgen : scope.isGenerator = false) (hk : scope.kind = .function) : wpAny (model prog w) A (call (.ref f) vs) Q E s :=
  enterPC B F X₀ N T hA hf hke ho hcd hroom hbind hkind hnd (fun g L' h₁ tk cells => h ⟨g, L', h₁, tk, cells⟩) hco hgen hk
end
theorem ct_of {k : Nat} {f : Addr} {as : List (Addr × Obj)} {vs : List Value} {Out : Heap → Heap → Value → Prop} (i : Nat → Int) (n : Nat → Nat) (c : Nat → Col)
    (h : ∀ z : Z, z.i = i → z.n = n → z.c = c → Hyp z k as Out → CtZ z f vs) : Ct k f as vs Out :=
  fun w mean mg mb dp un gd cn cs a ccd cl outer A₀ base h₀ L m s Q E B F X N T hk hd hu hret => h ⟨i, n, fun _ => default, c, w, mean, mg, mb, dp, un, gd, cn, cs, a, ccd, cl, outer, A₀, base, h₀, L, m, s, Q, E, fun _ _ => True, ⟨h₀, 0, h₀, 0, []⟩⟩ rfl rfl rfl ⟨B, F, X, N, T, hk, hd, hu, hret⟩
end Mine
namespace Mine
set_option pp.deepTerms false
set_option pp.deepTerms.threshold 10
def LCP (a1 b1 a2 b2 : Nat) : Nat := if a1 = a2 then a1 + min b1 b2 else min a1 a2
def levV (a1 b1 a2 b2 : Nat) : Int := max ((a1 : Int) - a2 + (b1 - b2)) (max ((b1 : Int) - b2) 0) - min ((a1 : Int) - a2 + (b1 - b2)) (min ((b1 : Int) - b2) 0)
/-- what is left of the first word, of the second: its < and its > -/
abbrev lX (a1 b1 a2 b2 : Nat) : Nat := a1 - LCP a1 b1 a2 b2
abbrev lY (a1 b1 a2 b2 : Nat) : Nat := b1 - (LCP a1 b1 a2 b2 - a1)
abbrev lX' (a1 b1 a2 b2 : Nat) : Nat := a2 - LCP a1 b1 a2 b2
abbrev lY' (a1 b1 a2 b2 : Nat) : Nat := b2 - (LCP a1 b1 a2 b2 - a2)
abbrev lQ (a1 b1 a2 b2 : Nat) : Nat := min (lY a1 b1 a2 b2) (lY' a1 b1 a2 b2)
abbrev lN (a1 b1 a2 b2 : Nat) : Nat := lX a1 b1 a2 b2 + (lY a1 b1 a2 b2 - lQ a1 b1 a2 b2)
abbrev lN' (a1 b1 a2 b2 : Nat) : Nat := lX' a1 b1 a2 b2 + (lY' a1 b1 a2 b2 - lQ a1 b1 a2 b2)
def levB (a1 b1 a2 b2 : Nat) : Bool :=
  (decide (lN a1 b1 a2 b2 ≠ 0 ∧ lN' a1 b1 a2 b2 ≠ 0) || decide (((lN a1 b1 a2 b2 : Nat) : Int) + ((lN' a1 b1 a2 b2 : Nat) : Int) = levV a1 b1 a2 b2)) &&
  (decide (lN a1 b1 a2 b2 = 0 ∨ lN' a1 b1 a2 b2 = 0) || (decide (((max (lN a1 b1 a2 b2) (lN' a1 b1 a2 b2) : Nat) : Int) = levV a1 b1 a2 b2) && decide ((lX a1 b1 a2 b2 = 0 ∧ lY' a1 b1 a2 b2 - lQ a1 b1 a2 b2 = 0) ∨ (lY a1 b1 a2 b2 - lQ a1 b1 a2 b2 = 0 ∧ lX' a1 b1 a2 b2 = 0))))
theorem lev_tab : ∀ a1 : Nat, a1 < 8 → ∀ b1 : Nat, b1 < 8 → ∀ a2 : Nat, a2 < 8 → ∀ b2 : Nat, b2 < 8 → levB a1 b1 a2 b2 = true := by decide +kernel
theorem k_is {a1 b1 a2 b2 k : Nat} (h2 : (a1 = a2 ∧ k = a1 + min b1 b2) ∨ (a1 ≠ a2 ∧ k = min a1 a2)) : k = LCP a1 b1 a2 b2 := by
  unfold LCP
  rcases h2 with ⟨h, rfl⟩ | ⟨h, rfl⟩
  · rw [if_pos h]
  · rw [if_neg h]
section
variable {a1 b1 a2 b2 k x1 y1 x2 y2 q : Nat} (ha1 : 1 ≤ a1 ∧ a1 ≤ 7) (hb1 : 1 ≤ b1 ∧ b1 ≤ 7) (ha2 : 1 ≤ a2 ∧ a2 ≤ 7) (hb2 : 1 ≤ b2 ∧ b2 ≤ 7)
theorem lev_bd (ha1 : 1 ≤ a1 ∧ a1 ≤ 7) (hb1 : 1 ≤ b1 ∧ b1 ≤ 7) (ha2 : 1 ≤ a2 ∧ a2 ≤ 7) (hb2 : 1 ≤ b2 ∧ b2 ≤ 7) : levB a1 b1 a2 b2 = true :=
  lev_tab a1 (Nat.lt_succ_of_le ha1.2) b1 (Nat.lt_succ_of_le hb1.2) a2 (Nat.lt_succ_of_le ha2.2) b2 (Nat.lt_succ_of_le hb2.2)
theorem lev_sum (ha1 : 1 ≤ a1 ∧ a1 ≤ 7) (hb1 : 1 ≤ b1 ∧ b1 ≤ 7) (ha2 : 1 ≤ a2 ∧ a2 ≤ 7) (hb2 : 1 ≤ b2 ∧ b2 ≤ 7) (h2 : (a1 = a2 ∧ k = a1 + min b1 b2) ∨ (a1 ≠ a2 ∧ k = min a1 a2))
   (e1 : x1 = a1 - k) (e2 : y1 = b1 - (k - a1)) (e3 : x2 = a2 - k) (e4 : y2 = b2 - (k - a2)) (hq : q = min y1 y2) (hz : x1 + (y1 - q) = 0 ∨ x2 + (y2 - q) = 0) : ((x1 + (y1 - q) : Nat) : Int) + ((x2 + (y2 - q) : Nat) : Int) = levV a1 b1 a2 b2 := by
  obtain rfl := k_is h2
  subst e1 e2 e3 e4 hq
  have t := lev_bd ha1 hb1 ha2 hb2
  unfold levB at t
  rw [Bool.and_eq_true, Bool.or_eq_true] at t
  rcases t.1 with t | t
  · have t := of_decide_eq_true t
    rcases hz with hz | hz
    · exact absurd hz t.1
    · exact absurd hz t.2
  · exact of_decide_eq_true t
theorem lev_two (ha1 : 1 ≤ a1 ∧ a1 ≤ 7) (hb1 : 1 ≤ b1 ∧ b1 ≤ 7) (ha2 : 1 ≤ a2 ∧ a2 ≤ 7) (hb2 : 1 ≤ b2 ∧ b2 ≤ 7) (h2 : (a1 = a2 ∧ k = a1 + min b1 b2) ∨ (a1 ≠ a2 ∧ k = min a1 a2))
   (e1 : x1 = a1 - k) (e2 : y1 = b1 - (k - a1)) (e3 : x2 = a2 - k) (e4 : y2 = b2 - (k - a2)) (hq : q = min y1 y2) (hz : x1 + (y1 - q) ≠ 0) (hz2 : x2 + (y2 - q) ≠ 0) :
   ((max (x1 + (y1 - q)) (x2 + (y2 - q)) : Nat) : Int) = levV a1 b1 a2 b2 ∧ ((x1 = 0 ∧ y2 - q = 0) ∨ (y1 - q = 0 ∧ x2 = 0)) := by
  obtain rfl := k_is h2
  subst e1 e2 e3 e4 hq
  have t := lev_bd ha1 hb1 ha2 hb2
  unfold levB at t
  rw [Bool.and_eq_true, Bool.or_eq_true, Bool.or_eq_true, Bool.and_eq_true] at t
  rcases t.2 with t | t
  · have t := of_decide_eq_true t
    rcases t with t | t
    · exact absurd t hz
    · exact absurd t hz2
  · exact ⟨of_decide_eq_true t.1, of_decide_eq_true t.2⟩
end
theorem lcp_is (a1 b1 a2 b2 : Nat) : (a1 = a2 ∧ LCP a1 b1 a2 b2 = a1 + min b1 b2) ∨ (a1 ≠ a2 ∧ LCP a1 b1 a2 b2 = min a1 a2) := by
  unfold LCP
  by_cases h : a1 = a2
  · exact .inl ⟨h, if_pos h⟩
  · exact .inr ⟨h, if_neg h⟩
theorem lcp_bd {a1 b1 a2 b2 : Nat} (h1 : a1 ≤ 7) (h2 : b1 ≤ 7) : LCP a1 b1 a2 b2 ≤ 14 := by
  unfold LCP
  by_cases h : a1 = a2
  · rw [if_pos h]; exact Nat.add_le_add h1 (Nat.le_trans (Nat.min_le_left ..) h2)
  · rw [if_neg h]; exact Nat.le_trans (Nat.min_le_left ..) (Nat.le_trans h1 (by decide))
theorem lcp_step {a1 b1 a2 b2 k : Nat} (hk : k ≤ LCP a1 b1 a2 b2) (h1 : k < a1 + b1) (h2 : k < a2 + b2) (e : k < a1 ↔ k < a2) : k + 1 ≤ LCP a1 b1 a2 b2 := by
  unfold LCP at hk ⊢
  by_cases h : a1 = a2
  · rw [if_pos h]
    subst h
    rcases Nat.le_total b1 b2 with g | g
    · rw [Nat.min_eq_left g]; exact h1
    · rw [Nat.min_eq_right g]; exact h2
  · rw [if_neg h] at hk ⊢
    by_cases c : k < a1
    · exact Nat.lt_min.mpr ⟨c, e.mp c⟩
    · have m := Nat.le_min.mp hk
      exact absurd ((Nat.le_antisymm m.1 (Nat.not_lt.mp c)).symm.trans (Nat.le_antisymm m.2 (Nat.not_lt.mp fun x => c (e.mpr x)))) h
theorem lcp_lt {a1 b1 a2 b2 k : Nat} (h : k < LCP a1 b1 a2 b2) : k < a1 + b1 ∧ k < a2 + b2 ∧ (k < a1 ↔ k < a2) := by
  unfold LCP at h
  by_cases c : a1 = a2
  · rw [if_pos c] at h
    subst c
    exact ⟨Nat.lt_of_lt_of_le h (Nat.add_le_add_left (Nat.min_le_left ..) _), Nat.lt_of_lt_of_le h (Nat.add_le_add_left (Nat.min_le_right ..) _), Iff.rfl⟩
  · rw [if_neg c] at h
    have m := Nat.lt_min.mp h
    exact ⟨Nat.lt_of_lt_of_le m.1 (Nat.le_add_right ..), Nat.lt_of_lt_of_le m.2 (Nat.le_add_right ..), iff_of_true m.1 m.2⟩
theorem len_pos {a b k : Nat} : (((a - k + (b - (k - a)) : Nat) : Int) = 0) ↔ ¬ k < a + b := by omega
theorem items_eq {a1 b1 a2 b2 k : Nat} (h1 : a1 ≤ 7) (h2 : b1 ≤ 7) (h3 : a2 ≤ 7) (h4 : b2 ≤ 7) (p : k < a1 + b1) (q : k < a2 + b2) : (Txt.item (Wd a1 b1) (k : Int) == Txt.item (Wd a2 b2) (k : Int)) = decide (k < a1 ↔ k < a2) := by
  rw [wd_item h1 h2 p, wd_item h3 h4 q]
  by_cases c1 : k < a1 <;> by_cases c2 : k < a2
  · rw [if_pos c1, if_pos c2, decide_eq_true (iff_of_true c1 c2)]; decide +kernel
  · rw [if_pos c1, if_neg c2, decide_eq_false (fun x => c2 (x.mp c1))]; decide +kernel
  · rw [if_neg c1, if_pos c2, decide_eq_false (fun x => c1 (x.mpr c2))]; decide +kernel
  · rw [if_neg c1, if_neg c2, decide_eq_true (iff_of_false c1 c2)]; decide +kernel
theorem lcp_go {a1 b1 a2 b2 k : Nat} (h1 : 1 ≤ a1 ∧ a1 ≤ 7) (h2 : 1 ≤ b1 ∧ b1 ≤ 7) (h3 : 1 ≤ a2 ∧ a2 ≤ 7) (h4 : 1 ≤ b2 ∧ b2 ≤ 7) (hk : k ≤ LCP a1 b1 a2 b2)
    (p : ((Txt.slice (Wd a1 b1) (some (k : Int)) none).length : Int) ≠ 0) (q : ((Txt.slice (Wd a2 b2) (some (k : Int)) none).length : Int) ≠ 0) (e : (Txt.item (Wd a1 b1) (k : Int) == Txt.item (Wd a2 b2) (k : Int)) = true) : k + 1 ≤ LCP a1 b1 a2 b2 := by
  have b := Nat.le_trans hk (lcp_bd h1.2 h2.2)
  rw [wd_from h1.2 h2.2 b, wd_len] at p
  rw [wd_from h3.2 h4.2 b, wd_len] at q
  have p' := Decidable.not_not.mp (mt len_pos.mpr p)
  have q' := Decidable.not_not.mp (mt len_pos.mpr q)
  rw [items_eq h1.2 h2.2 h3.2 h4.2 p' q'] at e
  exact lcp_step hk p' q' (of_decide_eq_true e)
theorem lcp_stop {a1 b1 a2 b2 k : Nat} (h1 : 1 ≤ a1 ∧ a1 ≤ 7) (h2 : 1 ≤ b1 ∧ b1 ≤ 7) (h3 : 1 ≤ a2 ∧ a2 ≤ 7) (h4 : 1 ≤ b2 ∧ b2 ≤ 7) (hk : k ≤ LCP a1 b1 a2 b2)
    (p : ((Txt.slice (Wd a1 b1) (some (k : Int)) none).length : Int) = 0 ∨ ((Txt.slice (Wd a2 b2) (some (k : Int)) none).length : Int) = 0 ∨ (Txt.item (Wd a1 b1) (k : Int) == Txt.item (Wd a2 b2) (k : Int)) = false) : k = LCP a1 b1 a2 b2 := by
  have b := Nat.le_trans hk (lcp_bd h1.2 h2.2)
  rw [wd_from h1.2 h2.2 b, wd_from h3.2 h4.2 b, wd_len, wd_len] at p
  refine Nat.le_antisymm hk (Nat.not_lt.mp fun hlt => ?_)
  obtain ⟨g1, g2, g3⟩ := lcp_lt hlt
  rcases p with p | p | p
  · exact len_pos.mp p g1
  · exact len_pos.mp p g2
  · rw [items_eq h1.2 h2.2 h3.2 h4.2 g1 g2, decide_eq_true g3] at p; cases p
theorem sfx_len {x y q : Nat} (hx : x ≤ 7) (hy : y ≤ 7) (hq : q ≤ y) (h1 : 1 ≤ q) : ((Txt.slice (Wd x y) none (some (-(q : Int)))).length : Int) = (x : Int) + y - q := by
  rw [wd_to_neg hx hy (by omega) h1, wd_len]; omega
theorem sfx_item {x y q : Nat} (hx : x ≤ 7) (hy : y ≤ 7) (hq : q < x + y) : Txt.item (Wd x y) (-(q : Int) - 1) = if q + 1 ≤ y then Str.ofString ">" else Str.ofString "<" := by
  have e : (-(q : Int) - 1) = -((q + 1 : Nat) : Int) := by omega
  rw [e, wd_item_neg hx hy (by omega) (by omega)]
theorem sfx_go {x1 y1 x2 y2 q : Nat} (hb : x1 ≤ 7 ∧ y1 ≤ 7 ∧ x2 ≤ 7 ∧ y2 ≤ 7 ∧ (x1 = 0 ∨ x2 = 0)) (hq : q ≤ min y1 y2) (h1 : q < x1 + y1) (h2 : q < x2 + y2)
    (e : (Txt.item (Wd x1 y1) (-(q : Int) - 1) == Txt.item (Wd x2 y2) (-(q : Int) - 1)) = true) : q + 1 ≤ min y1 y2 := by
  rw [sfx_item (by omega) (by omega) (by omega), sfx_item (by omega) (by omega) (by omega)] at e
  by_cases c1 : q + 1 ≤ y1 <;> by_cases c2 : q + 1 ≤ y2
  · omega
  · rw [if_pos c1, if_neg c2] at e; exact absurd e (by decide +kernel)
  · rw [if_neg c1, if_pos c2] at e; exact absurd e (by decide +kernel)
  · omega
theorem sfx_stop {x1 y1 x2 y2 q : Nat} (hb : x1 ≤ 7 ∧ y1 ≤ 7 ∧ x2 ≤ 7 ∧ y2 ≤ 7 ∧ (x1 = 0 ∨ x2 = 0)) (hq : q ≤ min y1 y2)
    (e : (Txt.item (Wd x1 y1) (-(q : Int) - 1) == Txt.item (Wd x2 y2) (-(q : Int) - 1)) = false) : q = min y1 y2 := by
  refine Nat.le_antisymm hq (Nat.not_lt.mp fun hlt => ?_)
  rw [sfx_item (by omega) (by omega) (by omega), sfx_item (by omega) (by omega) (by omega), if_pos (by omega), if_pos (by omega)] at e
  exact absurd e (by decide +kernel)
theorem dp_tab : ∀ i : Nat, i < 15 → ∀ j : Nat, j < 15 → (if 2 * max (j : Int) (i : Int) + 2 < (if 2 * max ((j : Int) + 1) (i : Int) < (if j = 0 then 2 * (i : Int) else 2 * max (j : Int) ((i : Int) + 1)) then 2 * max ((j : Int) + 1) (i : Int) else (if j = 0 then 2 * (i : Int) else 2 * max (j : Int) ((i : Int) + 1))) + 2 then 2 * max (j : Int) (i : Int) + 2
    else (if 2 * max ((j : Int) + 1) (i : Int) < (if j = 0 then 2 * (i : Int) else 2 * max (j : Int) ((i : Int) + 1)) then 2 * max ((j : Int) + 1) (i : Int) else (if j = 0 then 2 * (i : Int) else 2 * max (j : Int) ((i : Int) + 1))) + 2) = 2 * max ((j : Int) + 1) ((i : Int) + 1) := by decide +kernel
theorem dp_val {i j : Nat} {rs ds G : Int} (hi : i ≤ 14) (hj : j ≤ 14) (h1 : rs = if j = 0 then 2 * (i : Int) else 2 * max (j : Int) ((i : Int) + 1)) (h3 : ds = 2 * max (j : Int) (i : Int)) (h4 : G = 2 * max ((j : Int) + 1) (i : Int)) :
    (if ds + 2 < (if G < rs then G else rs) + 2 then ds + 2 else (if G < rs then G else rs) + 2) = 2 * max ((j : Int) + 1) ((i : Int) + 1) := by
  subst h1 h3 h4
  exact dp_tab i (Nat.lt_succ_of_le hi) j (Nat.lt_succ_of_le hj)
theorem mn_tab1 : ∀ i : Nat, i < 15 → ∀ j : Nat, j < 15 → 2 * max ((j : Int) + 1) ((i : Int) + 1) < (if j = 0 then 9223372036854775807 else 2 * ((i : Int) + 1)) → 2 * max ((j : Int) + 1) ((i : Int) + 1) = (if j + 1 = 0 then 9223372036854775807 else 2 * ((i : Int) + 1)) := by decide +kernel
theorem mn_tab2 : ∀ i : Nat, i < 15 → ∀ j : Nat, j < 15 → ¬ 2 * max ((j : Int) + 1) ((i : Int) + 1) < (if j = 0 then 9223372036854775807 else 2 * ((i : Int) + 1)) → (if j = 0 then 9223372036854775807 else 2 * ((i : Int) + 1)) = (if j + 1 = 0 then (9223372036854775807 : Int) else 2 * ((i : Int) + 1)) := by decide +kernel
theorem dp_mn1 {i j : Nat} {R mn : Int} (hi : i ≤ 14) (hj : j ≤ 14) (hR : R = 2 * max ((j : Int) + 1) ((i : Int) + 1)) (h2 : mn = if j = 0 then 9223372036854775807 else 2 * ((i : Int) + 1)) (h : R < mn) : R = if j + 1 = 0 then 9223372036854775807 else 2 * ((i : Int) + 1) := by
  subst hR h2
  exact mn_tab1 i (Nat.lt_succ_of_le hi) j (Nat.lt_succ_of_le hj) h
theorem dp_mn2 {i j : Nat} {R mn : Int} (hi : i ≤ 14) (hj : j ≤ 14) (hR : R = 2 * max ((j : Int) + 1) ((i : Int) + 1)) (h2 : mn = if j = 0 then 9223372036854775807 else 2 * ((i : Int) + 1)) (h : ¬ R < mn) : mn = if j + 1 = 0 then 9223372036854775807 else 2 * ((i : Int) + 1) := by
  subst hR h2
  exact mn_tab2 i (Nat.lt_succ_of_le hi) j (Nat.lt_succ_of_le hj) h
theorem led_in {D : Addr} {o : Obj} {own own2 : List (Addr × Obj)} : ∀ p ∈ (D, o) :: own, p ∈ (D, o) :: (own ++ own2) := fun p hp => (List.mem_cons.mp hp).elim (fun h => h ▸ .head _) fun h => .tail _ (List.mem_append.mpr (.inl h))
theorem led_in2 {D : Addr} {o : Obj} {own own2 : List (Addr × Obj)} : ∀ p ∈ own2, p ∈ (D, o) :: (own ++ own2) := fun p hp => .tail _ (List.mem_append.mpr (.inr hp))
theorem name_led {h₀ h : Heap} {L a : Addr} {o : Obj} {l : List (Addr × Obj)} (_ : News h₀ L h ((a, o) :: l)) : ∃ x, x = a := ⟨a, rfl⟩
theorem news_none {h₀ h : Heap} {L : Addr} {l : List (Addr × Obj)} (_ : News h₀ L h l) : News h₀ L h [] := News.nil
theorem dp_char {u1 v1 u2 v2 i j : Nat} (hu : u1 ≤ 7 ∧ v1 ≤ 7 ∧ u2 ≤ 7 ∧ v2 ≤ 7) (h : (u1 = 0 ∧ v2 = 0) ∨ (v1 = 0 ∧ u2 = 0)) (hi : i < u2 + v2) (hj : j < u1 + v1) :
    (Txt.item (Wd u2 v2) (i : Int) = Str.ofString "<" ∧ Txt.item (Wd u1 v1) (j : Int) = Str.ofString ">") ∨ (Txt.item (Wd u2 v2) (i : Int) = Str.ofString ">" ∧ Txt.item (Wd u1 v1) (j : Int) = Str.ofString "<") := by
  rw [wd_item (by omega) (by omega) hi, wd_item (by omega) (by omega) hj]
  rcases h with ⟨rfl, rfl⟩ | ⟨rfl, rfl⟩
  · left; exact ⟨if_pos (by omega), if_neg (by omega)⟩
  · right; exact ⟨if_neg (by omega), if_pos (by omega)⟩
theorem set_row {ns : List Int} {p i j : Nat} {r : Int} (hl : ns.length = p) (hj : j < p) (h : ∀ x < p, ns.getD x 0 = if x < j then 2 * max ((x : Int) + 1) ((i : Int) + 1) else 2 * max ((x : Int) + 1) (i : Int)) (hr : r = 2 * max ((j : Int) + 1) ((i : Int) + 1)) :
    ∀ x < p, (ns.set ((j : Int).toNat) r).getD x 0 = if x < j + 1 then 2 * max ((x : Int) + 1) ((i : Int) + 1) else 2 * max ((x : Int) + 1) (i : Int) := by
  intro x hx
  rw [Int.toNat_natCast, List.getD_eq_getElem?_getD, List.getElem?_set]
  by_cases e : j = x
  · subst e
    rw [if_pos rfl, if_pos (by omega), if_pos (by omega), hr]; rfl
  · rw [if_neg e, ← List.getD_eq_getElem?_getD, h x hx]
    by_cases c : x < j
    · rw [if_pos c, if_pos (by omega)]
    · rw [if_neg c, if_neg (by omega)]
section
theorem words14 : True := by
  k_with "pyIter ref" => ((with_reducible show wpAny _ _ (pyIter (Value.ref _)) (fun it s₂ => LoopAtV _ _ _ _ _ _ _ _ _ it s₂) _ _); refine hold_in ?_)
  trivial
theorem words15 : True := by
  k_with "call type:list" => (k_here; (with_reducible show wpAny _ _ (call (Value.type "list") [Value.ref _]) _ _ _); (with_reducible rename IsRange _ _ 2 _ 2 _ _ _ => R'); (with_reducible rename Fr _ _ _ _ => F'); (with_reducible rename News _ _ _ _ => N'); (with_unfolding_all refine list_range2 rfl F' N' R' (by first | assumption | rfl | omega) (by omega) ?_); intro D' us' c' h' tk' F' N' l1' I'; (try k_lt l1'); clear R'; (try k_sweep))
  trivial
local macro_rules | `(tactic| k_all) => `(tactic| (refine' allNe_app ?a ?b; (case a => k_all); (case b => k_all)))
theorem lev_zero {a1 b1 a2 b2 : Nat} (h : (Wd a1 b1 == Wd a2 b2) = true) : 0 = 2 * levV a1 b1 a2 b2 := by
  obtain ⟨rfl, rfl⟩ := wd_eq.mp (eq_of_beq h)
  unfold levV; rw [Int.sub_self, Int.sub_self]; rfl
abbrev levVs (z : Z) : List Value := [.str (Wd (z.n 0) (z.n 1)) (z.n 4), .str (Wd (z.n 2) (z.n 3)) (z.n 5), .int 99 (z.n 6)]
abbrev levOut (z : Z) : Heap → Heap → Value → Prop := fun _ _ r => ∃ t, r = .int (2 * levV (z.n 0) (z.n 1) (z.n 2) (z.n 3)) t
def levPre (z : Z) : Prop := (1 ≤ z.n 0 ∧ z.n 0 ≤ 7) ∧ (1 ≤ z.n 1 ∧ z.n 1 ≤ 7) ∧ (1 ≤ z.n 2 ∧ z.n 2 ≤ 7) ∧ (1 ≤ z.n 3 ∧ z.n 3 ≤ 7)
def levS (z : Z) : Cap z 4 [] (levOut z) 38 (levVs z) := by
  refine' ⟨_, ?_⟩
  rotate_left
  intro H hR
  unfold CtZ
  have X := H.X
  revert X; k_fill; intro X
  k_dflt (refine' enterE ?k1 ?k2 ?k3 ?k4 ?k5 ?kA ?kF ?kK ?k6 ?k7 ?k8 ?k9 ?kB ?kR ?c2 ?c3 ?c4 ?c5; (case kA => exact rfl); (case kF => exact rfl); (case kK => exact H.hk); (case k1 => exact H.B); (case k2 => exact H.F); (case k3 => exact H.X); (case k4 => exact H.N); (case k5 => exact H.T); (case k6 => k_is); (case k7 => k_is); (case k8 => (have hd := H.hd; ktr_room)); (case k9 => exact BindsTo.of_eq rfl); (case c5 => decide); (case kB => exact locs rfl); (case c2 => exact rfl); (case c3 => exact rfl); (case c4 => exact rfl))
  exact hR
@[irreducible] def levR (z : Z) : Prop := (levS z).1 z.e
def levP (z : Z) : Prop := levPre z → Hyp z 4 [] (levOut z) → levR z
@[irreducible] noncomputable def levC : Z := eps levP
set_option maxHeartbeats 20000000 in
theorem lev_walk : levP levC := by
  intro hp H
  obtain ⟨ha1, hb1, ha2, hb2⟩ := hp
  obtain ⟨B, F, X, N, T, hk, hd, hu, hret⟩ := H
  unfold levR levS
  (try dsimp only)
  revert X; k_fill; intro X
  intro G' F' N' B' X' T' l1
  (try k_lt l1); (try dsimp only); (try k_lift B')
  show wpAny _ _ _ _ _ _
  k_fold
  repeat' (first | (k_unfold; (try dsimp only)) | walk1 | (dsimp only; walk1) | (leave1; (try dsimp only)) | fail "no step")
  · dsimp only
    refine leaveP_ (by assumption) (by k_asm) (by k_asm) (by intro p hp; cases hp) ?_
    intro hK _
    have e := lev_zero (by assumption)
    exact hret _ _ _ hK ⟨_, congrArg (fun z => Value.int z _) e⟩
  have hne : ¬ ((levC.n 0) = (levC.n 2) ∧ (levC.n 1) = (levC.n 3)) := by
    rename (_ == _) = false => q
    intro h
    rw [wd_eq.mpr h] at q
    simp at q
  unfold Hold
  (rename Fr _ _ _ _ => F2); (rename News _ _ _ _ => N2)
  refine' While_cut (fun n m₁ nx => nx = [] ∧ ∃ (k : Nat) (t : Tok), n = LCP (levC.n 0) (levC.n 1) (levC.n 2) (levC.n 3) - k ∧ k ≤ LCP (levC.n 0) (levC.n 1) (levC.n 2) (levC.n 3) ∧ m₁ = (fun y => if y = Str.ofString "pre" then some (.int (k : Int) t) else (?M : Str → Option Value) y)) F2 N2 ⟨rfl, 0, _, rfl, Nat.zero_le _, rfl⟩ ?_ ?_ (by passes_own)
  · rintro n m₁ nx h₁ tk₁ F₁ N₁ ⟨rfl, k, t, rfl, hk, rfl⟩
    as_aux_lemma =>
    clear F2 N2
    have hlen1 : (Wd (levC.n 0) (levC.n 1)).length ≤ 14 := by rw [wd_len]; omega
    have hlen2 : (Wd (levC.n 2) (levC.n 3)).length ≤ 14 := by rw [wd_len]; omega
    try k_fold
    repeat' (first | (k_unfold; (try dsimp only)) | walk1 | (dsimp only; walk1) | (leave1; (try dsimp only)) | fail "no step")
    · (rename Fr _ _ _ _ => F3); (rename News _ _ _ _ => N3)
      have hk1 := lcp_go ha1 hb1 ha2 hb2 hk (by assumption) (by assumption) (by assumption)
      rw [upd_upd] at F3
      exact ⟨_, _, _, _, LCP (levC.n 0) (levC.n 1) (levC.n 2) (levC.n 3) - (k + 1), rfl, F3, N3, by omega, rfl, k + 1, _, rfl, hk1, rfl⟩
    all_goals (
      (rename Fr _ _ _ _ => F3); (rename News _ _ _ _ => N3)
      have hk1 := lcp_stop ha1 hb1 ha2 hb2 hk (by first | exact .inl (by assumption) | exact .inr (.inl (by assumption)) | exact .inr (.inr (by assumption)))
      exact ⟨_, _, _, _, rfl, F3, N3, rfl, k, _, by omega, hk, rfl⟩)
  rintro m₁ nx h₁ tk₁ F₁ N₁ ⟨rfl, k, t, hk0, hk, rfl⟩
  have hkl : k = LCP (levC.n 0) (levC.n 1) (levC.n 2) (levC.n 3) := by omega
  clear hk0 hk F2 N2
  have hlen1 : (Wd (levC.n 0) (levC.n 1)).length ≤ 14 := by rw [wd_len]; omega
  have hlen2 : (Wd (levC.n 2) (levC.n 3)).length ≤ 14 := by rw [wd_len]; omega
  try k_fold
  repeat' (first | (k_unfold; (try dsimp only)) | walk1 | (dsimp only; walk1) | (leave1; (try dsimp only)) | fail "no step")
  unfold Hold
  have hl := lcp_is (levC.n 0) (levC.n 1) (levC.n 2) (levC.n 3)
  (rename Fr _ _ _ _ => F2); (rename News _ _ _ _ => N2)
  rw [wd_from (by omega) (by omega) (by omega), wd_from (by omega) (by omega) (by omega)] at F2
  obtain ⟨x1, hx1⟩ : ∃ x, x = (levC.n 0) - k := ⟨_, rfl⟩
  obtain ⟨y1, hy1⟩ : ∃ x, x = (levC.n 1) - (k - (levC.n 0)) := ⟨_, rfl⟩
  obtain ⟨x2, hx2⟩ : ∃ x, x = (levC.n 2) - k := ⟨_, rfl⟩
  obtain ⟨y2, hy2⟩ : ∃ x, x = (levC.n 3) - (k - (levC.n 2)) := ⟨_, rfl⟩
  rw [← hx1, ← hx2, ← hy1, ← hy2] at F2
  have hb : x1 ≤ 7 ∧ y1 ≤ 7 ∧ x2 ≤ 7 ∧ y2 ≤ 7 ∧ (x1 = 0 ∨ x2 = 0) := by omega
  have hz1 : x1 ≤ 7 := hb.1
  have hz2 : y1 ≤ 7 := hb.2.1
  have hz3 : x2 ≤ 7 := hb.2.2.1
  have hz4 : y2 ≤ 7 := hb.2.2.2.1
  have hHid : Hold ((x1 ≤ 7 ∧ y1 ≤ 7 ∧ x2 ≤ 7 ∧ y2 ≤ 7 ∧ (x1 = 0 ∨ x2 = 0)) ∧ (((levC.n 0) = (levC.n 2) ∧ LCP (levC.n 0) (levC.n 1) (levC.n 2) (levC.n 3) = (levC.n 0) + min (levC.n 1) (levC.n 3)) ∨ ((levC.n 0) ≠ (levC.n 2) ∧ LCP (levC.n 0) (levC.n 1) (levC.n 2) (levC.n 3) = min (levC.n 0) (levC.n 2))) ∧ k = LCP (levC.n 0) (levC.n 1) (levC.n 2) (levC.n 3) ∧ ¬ ((levC.n 0) = (levC.n 2) ∧ (levC.n 1) = (levC.n 3)) ∧ x1 = (levC.n 0) - k ∧ y1 = (levC.n 1) - (k - (levC.n 0)) ∧ x2 = (levC.n 2) - k ∧ y2 = (levC.n 3) - (k - (levC.n 2))) := ⟨hb, hl, hkl, hne, hx1, hy1, hx2, hy2⟩
  clear hl hkl hne hx1 hy1 hx2 hy2 hb hlen1 hlen2
  have hlen3 : (Wd x1 y1).length = x1 + y1 := wd_len _ _
  have hlen4 : (Wd x2 y2).length = x2 + y2 := wd_len _ _
  refine' While_cut (fun n m₁ nx => nx = [] ∧ ∃ (q : Nat) (t : Tok), n = min y1 y2 - q ∧ q ≤ min y1 y2 ∧ m₁ = (fun y => if y = Str.ofString "post" then some (.int (-(q : Int)) t) else (?M2 : Str → Option Value) y)) F2 N2 ⟨rfl, 0, _, rfl, Nat.zero_le _, rfl⟩ ?_ ?_ (by passes_own)
  · rintro n m₁ nx h₁ tk₁ F₁ N₁ ⟨rfl, q, t, rfl, hq, rfl⟩
    as_aux_lemma =>
    clear F2 N2
    have hqH : Hold (q ≤ min y1 y2) := hq
    have hq1 : q ≤ y1 := by omega
    have hq2 : q ≤ y2 := by omega
    clear hq
    have hs1 : (Wd x1 (y1 - q)).length = x1 + (y1 - q) := wd_len _ _
    have hs2 : (Wd x2 (y2 - q)).length = x2 + (y2 - q) := wd_len _ _
    try k_fold
    repeat' (first | (k_unfold; (try dsimp only)) | walk1 | (dsimp only; walk1) | (leave1; (try dsimp only)) | fail "no step")
    · (rename Fr _ _ _ _ => F3); (rename News _ _ _ _ => N3)
      have hk1 := sfx_go hHid.1 hqH (by omega) (by omega) (by assumption)
      rw [upd_upd, show (-(q : Int) - 1) = -((q + 1 : Nat) : Int) by omega] at F3
      exact ⟨_, _, _, _, min y1 y2 - (q + 1), rfl, F3, N3, by omega, rfl, q + 1, _, rfl, hk1, rfl⟩
    all_goals (
      (rename Fr _ _ _ _ => F3); (rename News _ _ _ _ => N3)
      have hq : q ≤ min y1 y2 := hqH
      have hk1 : q = min y1 y2 := by first | exact sfx_stop hHid.1 hqH (by assumption) | omega
      exact ⟨_, _, _, _, rfl, F3, N3, rfl, q, _, by omega, hqH, rfl⟩)
  rintro m₁ nx h₁ tk₁ F₁ N₁ ⟨rfl, q, t, hq0, hq, rfl⟩
  clear F2 N2
  have hq1 : q ≤ y1 := by omega
  have hq2 : q ≤ y2 := by omega
  have hqH : Hold (q = min y1 y2) := by show q = min y1 y2; omega
  clear hq0 hq hlen3 hlen4
  (try k_unfold)
  (try dsimp only)
  refine' execs_cut2 (h₀ := levC.e.g) (L := levC.e.L) 6 (fun m₁ nx => nx = [] ∧ ∃ (u1 v1 u2 v2 : Nat) (t1 t2 t3 : Tok) (M : Str → Option Value), (u1 ≤ 7 ∧ v1 ≤ 7 ∧ u2 ≤ 7 ∧ v2 ≤ 7) ∧ ((u1 = 0 ∧ v2 = 0) ∨ (v1 = 0 ∧ u2 = 0)) ∧ 1 ≤ u1 + v1 ∧ u1 + v1 ≤ u2 + v2 ∧ ((u2 + v2 : Nat) : Int) = levV (levC.n 0) (levC.n 1) (levC.n 2) (levC.n 3) ∧ m₁ = (fun y => if y = Str.ofString "a" then some (.str (Wd u1 v1) t1) else if y = Str.ofString "b" then some (.str (Wd u2 v2) t2) else if y = Str.ofString "max_cost" then some (.int 99 t3) else M y)) ?_ ?_
  · show wpAny _ _ (execs (_ :: _ :: _ :: _ :: _ :: _ :: []) _) _ _ _
    have hs1 : (Wd x1 (y1 - q)).length = x1 + (y1 - q) := wd_len _ _
    have hs2 : (Wd x2 (y2 - q)).length = x2 + (y2 - q) := wd_len _ _
    try k_fold
    repeat' (first | (k_unfold; (try dsimp only)) | walk1 | (dsimp only; walk1) | (leave1; (try dsimp only)) | fail "no step")
    · as_aux_lemma =>
      (rename Fr _ _ _ _ => F3); (rename News _ _ _ _ => N3)
      have F4 : Fr levC.e.g levC.e.L _ (fun y => if y = Str.ofString "a" then some (.str (Wd x2 (y2 - q)) _) else if y = Str.ofString "b" then some (.str (Wd x1 (y1 - q)) _) else if y = Str.ofString "max_cost" then some (.int 99 _) else _) := fr_canon3 F3 rfl rfl rfl
      have z1 : x1 + (y1 - q) ≠ 0 := by omega
      have z2 : x2 + (y2 - q) ≠ 0 := by omega
      have z3 : x2 + (y2 - q) ≤ x1 + (y1 - q) := by omega
      have z0 : x2 ≤ 7 ∧ y2 - q ≤ 7 ∧ x1 ≤ 7 ∧ y1 - q ≤ 7 := by omega
      obtain ⟨_, hl, hkl, _, e1, e2, e3, e4⟩ := hHid
      rw [← hkl] at hl
      refine ⟨_, _, _, _, rfl, F4, news_none N3, rfl, x2, y2 - q, x1, y1 - q, _, _, _, _, z0, ?_, Nat.one_le_iff_ne_zero.mpr z2, z3, ?_, rfl⟩
      · exact (lev_two ha1 hb1 ha2 hb2 hl e1 e2 e3 e4 hqH z1 z2).2.symm.imp And.symm And.symm
      · exact Nat.max_eq_left z3 ▸ (lev_two ha1 hb1 ha2 hb2 hl e1 e2 e3 e4 hqH z1 z2).1
    · as_aux_lemma =>
      (rename Fr _ _ _ _ => F3); (rename News _ _ _ _ => N3)
      have F4 : Fr levC.e.g levC.e.L _ (fun y => if y = Str.ofString "a" then some (.str (Wd x1 (y1 - q)) _) else if y = Str.ofString "b" then some (.str (Wd x2 (y2 - q)) _) else if y = Str.ofString "max_cost" then some (.int 99 _) else _) := fr_canon3 F3 rfl rfl rfl
      have z1 : x1 + (y1 - q) ≠ 0 := by omega
      have z2 : x2 + (y2 - q) ≠ 0 := by omega
      have z3 : x1 + (y1 - q) ≤ x2 + (y2 - q) := by omega
      have z0 : x1 ≤ 7 ∧ y1 - q ≤ 7 ∧ x2 ≤ 7 ∧ y2 - q ≤ 7 := by omega
      obtain ⟨_, hl, hkl, _, e1, e2, e3, e4⟩ := hHid
      rw [← hkl] at hl
      exact ⟨_, _, _, _, rfl, F4, news_none N3, rfl, x1, y1 - q, x2, y2 - q, _, _, _, _, z0, (lev_two ha1 hb1 ha2 hb2 hl e1 e2 e3 e4 hqH z1 z2).2, Nat.one_le_iff_ne_zero.mpr z1, z3, Nat.max_eq_right z3 ▸ (lev_two ha1 hb1 ha2 hb2 hl e1 e2 e3 e4 hqH z1 z2).1, rfl⟩
    all_goals as_aux_lemma =>
      have z1 : x1 + (y1 - q) = 0 ∨ x2 + (y2 - q) = 0 := by omega
      obtain ⟨_, hl, hkl, _, e1, e2, e3, e4⟩ := hHid
      rw [← hkl] at hl
      refine leaveP_ (by assumption) (by k_asm) (by k_asm) (by intro p hp; cases hp) ?_
      intro hK _
      refine hret _ _ _ hK ⟨_, congrArg (fun z => Value.int z _) ?_⟩
      rw [hs1, hs2, lev_sum ha1 hb1 ha2 hb2 hl e1 e2 e3 e4 hqH z1]
  rintro m₁ nx h₂ tk₂ F₂ N₂ ⟨rfl, u1, v1, u2, v2, t1, t2, t3, M, hu, hX, hp1, hpn, hV, rfl⟩
  show wpAny _ _ (execs (_ :: _ :: _ :: _ :: []) _) _ _ _
  clear F₁ N₁ hHid hqH hq1 hq2 hz1 hz2 hz3 hz4
  have hVH : Hold (((u2 + v2 : Nat) : Int) = levV (levC.n 0) (levC.n 1) (levC.n 2) (levC.n 3)) := hV
  have hXH : Hold ((u1 = 0 ∧ v2 = 0) ∨ (v1 = 0 ∧ u2 = 0)) := hX
  clear hV hX
  have hlp : (Wd u1 v1).length = u1 + v1 := wd_len _ _
  have hln : (Wd u2 v2).length = u2 + v2 := wd_len _ _
  have hbd : u1 + v1 ≤ 14 ∧ u2 + v2 ≤ 14 := by omega
  obtain ⟨p, hpE⟩ : ∃ p, p = u1 + v1 := ⟨_, rfl⟩
  obtain ⟨n, hnE⟩ : ∃ n, n = u2 + v2 := ⟨_, rfl⟩
  rw [← hpE] at hp1 hpn hlp hbd
  rw [← hnE] at hpn hln hbd
  have hp14 : p ≤ 14 := hbd.1
  have hn14 : n ≤ 14 := hbd.2
  clear hbd
  try k_fold
  repeat' (first | (k_unfold; (try dsimp only)) | walk1 | (dsimp only; walk1) | (leave1; (try dsimp only)) | fail "no step")
  unfold Hold
  (rename Fr _ _ _ _ => F3); (rename News _ _ _ _ => N3); (rename IsRange _ _ _ _ _ _ _ _ => R3); (rename IntsAre _ _ => I3)
  rw [hlp] at I3
  obtain ⟨D, hDe⟩ := name_led N3
  subst hDe
  refine' range_inv (n := n) (fun i m₁ nx => ∃ (us : List Value) (ns : List Int) (c : Nat) (r : Int) (tr : Tok) (M₁ : Str → Option Value), nx = [(D, listOf us.toArray c)] ∧ IntsAre us ns ∧ ns.length = p ∧ (∀ x < p, ns.getD x 0 = 2 * max ((x : Int) + 1) (i : Int)) ∧ (r = if i = 0 then 0 else 2 * max (p : Int) (i : Int)) ∧ m₁ = (fun y => if y = Str.ofString "result" then some (.int r tr) else if y = Str.ofString "row" then some (.ref D) else if y = Str.ofString "a" then some (.str (Wd u1 v1) t1) else if y = Str.ofString "b" then some (.str (Wd u2 v2) t2) else if y = Str.ofString "max_cost" then some (.int 99 t3) else M₁ y)) rfl R3 (by rw [hln]) hn14 F3 N3 ⟨_, _, _, 0, _, _, rfl, I3, row0_len p, fun x hx => (row0_get hx).trans (by omega), (if_pos rfl).symm, rfl⟩ ?_ ?_
  · intro i tbi m₁ news₁ h tk own hi hoff hJ F₁ N₁
    obtain ⟨us, ns, c, r, tr, M₁, rfl, hI, hnl, hrow, hr, rfl⟩ := hJ
    clear F3 N3 R3 I3
    have F4 : Fr levC.e.g levC.e.L h _ := F₁
    have N4 : News levC.e.g levC.e.L h ((D, listOf us.toArray c) :: own) := N₁
    clear F₁ N₁
    have hrowH : Hold (∀ x < p, ns.getD x 0 = 2 * max ((x : Int) + 1) (i : Int)) := hrow
    clear hr hrow
    have hi14 : i ≤ 14 := by omega
    try k_fold
    repeat' (first | (k_unfold; (try dsimp only)) | walk1 | (dsimp only; walk1) | (leave1; (try dsimp only)) | fail "no step")
    unfold Hold
    (rename Fr _ _ _ _ => F5); (rename News _ _ _ _ => N5); (rename IsRange _ _ _ _ _ _ _ _ => R5)
    have F6 : Fr levC.e.g levC.e.L _ (fun y => if y = Str.ofString "minimum" then some (.int _ _) else if y = Str.ofString "result" then some (.int _ _) else if y = Str.ofString "distance" then some (.int _ _) else if y = Str.ofString "bchar" then some (.str (Txt.item (Wd u2 v2) (i : Int)) _) else if y = Str.ofString "bindex" then some (.int (i : Int) tbi) else if y = Str.ofString "row" then some (.ref D) else if y = Str.ofString "a" then some (.str (Wd u1 v1) t1) else if y = Str.ofString "b" then some (.str (Wd u2 v2) t2) else if y = Str.ofString "max_cost" then some (.int 99 t3) else _) := fr_canon9 F5 rfl rfl rfl rfl rfl rfl rfl rfl rfl
    have hrow : ∀ x < p, ns.getD x 0 = if x < 0 then 2 * max ((x : Int) + 1) ((i : Int) + 1) else 2 * max ((x : Int) + 1) (i : Int) := fun x hx => (hrowH x hx).trans (if_neg (Nat.not_lt_zero x)).symm
    refine' range_inv (n := p) (fun j m₂ nx => ∃ (us : List Value) (ns : List Int) (c : Nat) (mn rs ds : Int) (tmn trs tds tbc : Tok) (M₂ : Str → Option Value), nx = (D, listOf us.toArray c) :: own ∧ IntsAre us ns ∧ ns.length = p ∧ (∀ x < p, ns.getD x 0 = if x < j then 2 * max ((x : Int) + 1) ((i : Int) + 1) else 2 * max ((x : Int) + 1) (i : Int)) ∧ ds = 2 * max (j : Int) (i : Int) ∧ (rs = if j = 0 then 2 * (i : Int) else 2 * max (j : Int) ((i : Int) + 1)) ∧ (mn = if j = 0 then 9223372036854775807 else 2 * ((i : Int) + 1)) ∧ m₂ = (fun y => if y = Str.ofString "minimum" then some (.int mn tmn) else if y = Str.ofString "result" then some (.int rs trs) else if y = Str.ofString "distance" then some (.int ds tds) else if y = Str.ofString "bchar" then some (.str (Txt.item (Wd u2 v2) (i : Int)) tbc) else if y = Str.ofString "bindex" then some (.int (i : Int) tbi) else if y = Str.ofString "row" then some (.ref D) else if y = Str.ofString "a" then some (.str (Wd u1 v1) t1) else if y = Str.ofString "b" then some (.str (Wd u2 v2) t2) else if y = Str.ofString "max_cost" then some (.int 99 t3) else M₂ y)) rfl R5 (by rw [hlp]) hp14 F6 N5
      ⟨us, ns, c, 9223372036854775807, (i : Int) * 2, (i : Int) * 2, _, _, _, _, _, rfl, by assumption, hnl, hrow, by omega, by rw [if_pos rfl]; omega, (if_pos rfl).symm, rfl⟩ ?_ ?_
    · intro j tj m₂ nx h tk own2 hj hoff2 hJ F₂ N₂
      obtain ⟨us, ns, c, mn, rs, ds, tmn, trs, tds, tbc, M₂, rfl, hI, hnl, hrow, hds, hrs, hmn, rfl⟩ := hJ
      clear F5 N5 R5 F6
      have F7 : Fr levC.e.g levC.e.L h _ := F₂
      have N7 : News levC.e.g levC.e.L h ((D, listOf us.toArray c) :: (own ++ own2)) := N₂
      clear F₂ N₂
      have hrowH2 : Hold (∀ x < p, ns.getD x 0 = if x < j then 2 * max ((x : Int) + 1) ((i : Int) + 1) else 2 * max ((x : Int) + 1) (i : Int)) := hrow
      have hget : ns.getD (Int.toNat (j : Int)) 0 = 2 * max ((j : Int) + 1) (i : Int) := by
        rw [Int.toNat_natCast, hrow j hj, if_neg (Nat.lt_irrefl j)]
      have hrsH : Hold ((rs = if j = 0 then 2 * (i : Int) else 2 * max (j : Int) ((i : Int) + 1)) ∧ (mn = if j = 0 then 9223372036854775807 else 2 * ((i : Int) + 1)) ∧ ds = 2 * max (j : Int) (i : Int) ∧ ns.getD (Int.toNat (j : Int)) 0 = 2 * max ((j : Int) + 1) (i : Int)) := ⟨hrs, hmn, hds, hget⟩
      have hc := dp_char (i := i) (j := j) hu hXH (by omega) (by omega)
      clear hrow hrs hmn hds hget
      have hj14 : j ≤ 14 := by omega
      try k_fold
      repeat' (first | (k_unfold; (try dsimp only)) | walk1 | (dsimp only; walk1) | (leave1; (try dsimp only)) | fail "no step")
      all_goals (
        (rename Fr _ _ _ _ => F8); (rename News _ _ _ _ => N8)
        have hrr := hrsH
        unfold Hold at hrr
        have hv := dp_val hi14 hj14 hrr.1 hrr.2.2.1 hrr.2.2.2
        have F9 : Fr levC.e.g levC.e.L _ (fun y => if y = Str.ofString "minimum" then some (.int _ _) else if y = Str.ofString "result" then some (.int _ _) else if y = Str.ofString "distance" then some (.int _ _) else if y = Str.ofString "bchar" then some (.str (Txt.item (Wd u2 v2) (i : Int)) _) else if y = Str.ofString "bindex" then some (.int (i : Int) tbi) else if y = Str.ofString "row" then some (.ref D) else if y = Str.ofString "a" then some (.str (Wd u1 v1) t1) else if y = Str.ofString "b" then some (.str (Wd u2 v2) t2) else if y = Str.ofString "max_cost" then some (.int 99 t3) else _) := fr_canon9 F8 rfl rfl rfl rfl rfl rfl rfl rfl rfl
        refine InvEndN.intro F9 N8 ⟨_, _, c, _, _, _, _, _, _, _, _, rfl, by assumption, (List.length_set ..).trans hnl, set_row hnl hj hrowH2 hv, hrr.2.2.2.trans (by rw [Int.natCast_add, Int.natCast_one]), hv.trans ((by rw [Int.natCast_add, Int.natCast_one] : _ = 2 * max (((j + 1 : Nat) : Int)) _).trans (if_neg (Nat.succ_ne_zero j)).symm), ?_, rfl⟩ rfl led_in led_in2
        first | exact dp_mn1 hi14 hj14 hv hrr.2.1 (by assumption) | exact dp_mn2 hi14 hj14 hv hrr.2.1 (by assumption) | exact dp_mn2 hi14 hj14 hv hrr.2.1 (by omega))
    · intro m₂ nx h tk hJ F₂ N₂
      obtain ⟨us, ns, c, mn, rs, ds, tmn, trs, tds, tbc, M₂, rfl, hI, hnl, hrow, hds, hrs, hmn, rfl⟩ := hJ
      clear F5 N5 R5 F6
      have F7 : Fr levC.e.g levC.e.L h _ := F₂
      have N7 : News levC.e.g levC.e.L h ((D, listOf us.toArray c) :: own) := N₂
      clear F₂ N₂
      rw [if_neg (by omega)] at hmn hrs
      have hmn9 : mn ≤ 99 := by omega
      have hrowH2 : Hold (∀ x < p, ns.getD x 0 = if x < p then 2 * max ((x : Int) + 1) ((i : Int) + 1) else 2 * max ((x : Int) + 1) (i : Int)) := hrow
      have hrsH : Hold (rs = 2 * max (p : Int) ((i : Int) + 1)) := hrs
      clear hrow hrs hds
      try k_fold
      repeat' (first | (k_unfold; (try dsimp only)) | walk1 | (dsimp only; walk1) | (leave1; (try dsimp only)) | fail "no step")
      all_goals (
        (rename Fr _ _ _ _ => F8); (rename News _ _ _ _ => N8)
        have F9 : Fr levC.e.g levC.e.L _ (fun y => if y = Str.ofString "result" then some (.int _ _) else if y = Str.ofString "row" then some (.ref D) else if y = Str.ofString "a" then some (.str (Wd u1 v1) t1) else if y = Str.ofString "b" then some (.str (Wd u2 v2) t2) else if y = Str.ofString "max_cost" then some (.int 99 t3) else _) := fr_canon5 F8 rfl rfl rfl rfl rfl
        have hrr : rs = 2 * max (p : Int) ((i : Int) + 1) := hrsH
        refine InvEndN.intro F9 N8 ⟨_, _, c, _, _, _, rfl, by assumption, hnl, fun x hx => ((hrowH2 x hx).trans (if_pos hx)).trans (by omega), hrr.trans ((by omega : _ = _).trans (if_neg (Nat.succ_ne_zero i)).symm), rfl⟩ rfl (fun p hp => by rw [List.mem_singleton.mp hp]; exact .head _) (fun p hp => .tail _ hp))
  · intro m₁ nx h tk hJ F₂ N₂
    obtain ⟨us, ns, c, r, tr, M₁, rfl, hI, hnl, hrow, hr, rfl⟩ := hJ
    clear F3 N3 R3 I3
    have F4 : Fr levC.e.g levC.e.L h _ := F₂
    have N4 : News levC.e.g levC.e.L h [(D, listOf us.toArray c)] := N₂
    clear F₂ N₂ hrow
    rw [if_neg (by omega)] at hr
    have hvv : ((u2 + v2 : Nat) : Int) = levV (levC.n 0) (levC.n 1) (levC.n 2) (levC.n 3) := hVH
    have hr2 : r = 2 * levV (levC.n 0) (levC.n 1) (levC.n 2) (levC.n 3) := by omega
    have hrH : Hold (r = 2 * levV (levC.n 0) (levC.n 1) (levC.n 2) (levC.n 3)) := hr2
    clear hr hr2 hvv
    try k_fold
    repeat' (first | (k_unfold; (try dsimp only)) | walk1 | (dsimp only; walk1) | (leave1; (try dsimp only)) | fail "no step")
    all_goals (
      (try dsimp only)
      refine leaveP_ (by assumption) (by k_asm) (by k_asm) (by intro p hp; cases hp) ?_
      intro hK _
      exact hret _ _ _ hK ⟨_, congrArg (fun z => Value.int z _) hrH⟩)
theorem lev_is (z : Z) (e : Ent) : levR (z.at e) = (levS z).1 e := by
  unfold levR levS
  rfl
theorem lev_all (z : Z) (hp : levPre z) (H : Hyp z 4 [] (levOut z)) : CtZ z 38 (levVs z) := by
  refine (levS z).2 H ?_
  intro e
  rw [← lev_is z e]
  exact eps_all (P := levP) (by unfold levC; rfl) lev_walk (z.at e) hp (H.at e)
theorem c_lev (a1 b1 a2 b2 : Nat) (ta tb tc : Tok) (ha1 : 1 ≤ a1 ∧ a1 ≤ 7) (hb1 : 1 ≤ b1 ∧ b1 ≤ 7) (ha2 : 1 ≤ a2 ∧ a2 ≤ 7) (hb2 : 1 ≤ b2 ∧ b2 ≤ 7) :
   Ct 4 38 [] [.str (Wd a1 b1) ta, .str (Wd a2 b2) tb, .int 99 tc] (fun _ _ r => ∃ t, r = .int (2 * levV a1 b1 a2 b2) t) :=
  ct_of (fun _ => 0) (fun k => [a1, b1, a2, b2, ta, tb, tc].getD k 0) (fun _ => ⟨0, 0, 0, 0, 0, 0, 0, 0⟩) fun z _ hn _ H => by
    have h := lev_all z (by unfold levPre; rw [hn]; exact ⟨ha1, hb1, ha2, hb2⟩) (by unfold levOut; rw [hn]; exact H)
    unfold levVs at h
    rw [hn] at h
    exact h
end
theorem words16 : True := by
  k_with_none
  k_with "call builtin:max" => (k_here; (with_reducible show wpAny _ _ (call (Value.builtin "max") [Value.int _ _, Value.int _ _, Value.int _ _]) _ _ _); k_dflt (refine' max3_K ?k1 ?k2 ?k3 ?_; (case k1 => k_asm); (case k2 => k_asm); (case k3 => exact rfl); k_whole); intro h' tk' t' F' N'; (try k_sweep))
  k_with "call builtin:min" => (k_here; (with_reducible show wpAny _ _ (call (Value.builtin "min") [Value.int _ _, Value.int _ _, Value.int _ _]) _ _ _); k_dflt (refine' min3_K ?k1 ?k2 ?k3 ?_; (case k1 => k_asm); (case k2 => k_asm); (case k3 => exact rfl); k_whole); intro h' tk' t' F' N'; (try k_sweep))
  k_with "exec While BoolOp cons nil" => ((with_reducible show wpAny _ _ (exec (Stmt.While _ _ _ _) _) _ _ _); refine hold_in ?_)
  k_with "exec While Compare cons nil" => ((with_reducible show wpAny _ _ (exec (Stmt.While _ _ _ _) _) _ _ _); refine hold_in ?_)
  k_with "subscriptTail Name Slice str ref" => ((with_reducible show wpAny _ _ (subscriptTail _ (Expr.Slice none (some (Expr.BoolOp _ _ _)) none _) _ _) _ _ _); (with_reducible rename Fr _ _ _ _ => F'); (with_reducible rename News _ _ _ _ => N'); refine slice_none_K (s := ⟨_, _, _, _, _⟩) F' N' ?_; intro _ _ _ _ _)
  k_with "eval Subscript" => (k_here; (with_reducible show wpAny _ _ (eval (Expr.Subscript (Expr.Name _ _) (Expr.Slice none (some (Expr.BoolOp _ _ _)) none _) _) _) _ _ _); k_dflt (refine' cutEnd ?k1 ?k2 ?k3 ?k4 ?k5 ?k6 ?k7 ?_; (case k1 => k_asm); (case k2 => k_asm); (case k3 => exact rfl); (case k4 => exact rfl); (case k5 => omega); (case k6 => omega); (case k7 => omega); k_whole); intro h' t' k' F' N'; (try k_sweep))
  k_with "execs cons" => (k_here; (with_reducible refine any_toks ?_); intro tk'; (with_reducible refine wpAny_execs_cons ?_); (try dsimp only))
  k_with "execs nil" => (k_here; (with_reducible refine any_toks ?_); intro tk'; (with_reducible refine wpAny_execs_nil ?_); (try dsimp only))
  k_with "call ref" => (k_here; (with_reducible show wpAny _ _ (call (Value.ref 31) _) _ _ _); k_dflt (refine' use_ct (c_subst _ _ _ _ ?kc) ?k1 ?k2 ?k3 ?k4 ?k5 ?kK ?kS ?kd ?ku ?_; (case kc => assumption); (case k1 => k_asm); (case k2 => k_asm); (case k3 => k_asm); (case k4 => k_asm); (case k5 => k_asm); (case kK => first | exact rfl | assumption); (case kS => intro p hp; cases hp); (case kd => ktr_room); (case ku => ktr_units); k_whole); intro r' h' tk' hK' F' N' ho'; (refine Exists.elim ho' ?_); clear ho' hK'; intro t9 e9; subst e9; (try dsimp only); (try k_sweep))
  k_with "binaryOp Mult str int" => (k_here; (with_reducible show wpAny _ _ (binaryOp Operator.Mult (Value.str _ _) (Value.int _ _)) _ _ _); (first | refine mul_lt (by first | omega | (dsimp only [List.getD_cons_zero, List.getD_cons_succ, Int.toNat]; omega)) (by omega) ?_ | refine mul_gt (by omega) (by omega) ?_); intro t' n')
  k_with "binaryOp Add str str" => (k_here; (with_reducible show wpAny _ _ (binaryOp Operator.Add (Value.str (Wd _ _) _) (Value.str (Wd _ _) _)) _ _ _); (refine add_wd (by omega) (by omega) ?_); intro t' n')
  k_with "subscriptTail Name Constant ref int" => (k_here; (with_reducible show wpAny _ _ (subscriptTail _ (Expr.Constant _ _ _) (Value.ref _) (Value.int _ _)) _ _ _); k_dflt (first | ((with_reducible show wpAny _ _ (subscriptTail _ _ (Value.ref _) (Value.int 0 _)) _ _ _); refine' sub3_0 ?k1 ?k2 ?_ ?k7; (case k1 => k_asm); (case k2 => k_mem); (case k7 => with_unfolding_all rfl); k_whole) | ((with_reducible show wpAny _ _ (subscriptTail _ _ (Value.ref _) (Value.int 1 _)) _ _ _); refine' sub3_1 ?k1 ?k2 ?_ ?k7; (case k1 => k_asm); (case k2 => k_mem); (case k7 => with_unfolding_all rfl); k_whole) | ((with_reducible show wpAny _ _ (subscriptTail _ _ (Value.ref _) (Value.int 2 _)) _ _ _); refine' sub3_2 ?k1 ?k2 ?_ ?k7; (case k1 => k_asm); (case k2 => k_mem); (case k7 => with_unfolding_all rfl); k_whole)))
  k_with "call ref" => (k_here; (with_reducible show wpAny _ _ (call (Value.ref 45) _) _ _ _); k_dflt (refine' use_ct (c_word _ _ _ _ _ _ _ _ ?kc ?ke) ?k1 ?k2 ?k3 ?k4 ?k5 ?kK ?kS ?kd ?ku ?_; (case k1 => k_asm); (case k2 => k_asm); (case k3 => k_asm); (case k4 => k_asm); (case k5 => k_asm); (case kK => first | exact rfl | assumption); (case kS => intro p hp; rw [List.mem_singleton.mp hp]; k_mem); (case kd => ktr_room); (case ku => ktr_units); (case kc => omega); (case ke => omega); k_whole); intro r' h' tk' hK' F' N' ho'; (refine Exists.elim ho' ?_); clear ho' hK'; intro t9 e9; subst e9; (try dsimp only); (try k_sweep))
  trivial
end Mine
namespace Mine
open PyProof.V PyProof.Rows.LCg
theorem ints_at {vs : List Value} {ns : List Int} (h : IntsAre vs ns) : ∀ {i : Nat} {v : Value}, vs[i]? = some v → ∃ n t, v = .int n t ∧ ns[i]? = some n := by
  induction h with
  | nil => intro i v e; simp at e
  | cons n t _ ih =>
    intro i v e
    cases i with
    | zero => simp at e; exact ⟨n, t, e.symm, rfl⟩
    | succ i => simp at e; exact ih e
theorem ints_snoc {vs : List Value} {ns : List Int} {n : Int} {t : Tok} (h : IntsAre vs ns) : IntsAre (vs ++ [.int n t]) (ns ++ [n]) := by
  induction h with
  | nil => exact .cons n t .nil
  | cons m u _ ih => exact .cons m u ih
section
variable {prog : Program} {w : World} {A : Around} {E : Value → Shared → Prop} {s : Shared} {h₀ : Heap} {L : Addr} {m : Str → Option Value} {env : Env}
theorem comp_sub {cl : List (Str × Addr)} {scope : Scope} {a b : Str} {p1 p2 p3 : Pos} {C : Addr} {x y : Int} {t u : Tok} {m₂ : Str → Option Value} {Q : Value → Shared → Prop} (hkind : scope.kind = .function) (hns : s.heap.Ns C m₂)
    (ha : m₂ a = some (.int x t)) (hb : m₂ b = some (.int y u)) (hxa : scope.names.lookup a = some .local) (hxb : scope.names.lookup b = some .local) (hda : (a == ("__debug__" : Str)) = false) (hdb : (b == ("__debug__" : Str)) = false)
    (h : Q (.int (x - y) s.toks) { s with toks := s.toks + 1 }) : wpAny (model prog w) A (eval (.BinOp (.Name a p1) .Sub (.Name b p2) p3) (compEnvC scope cl C env)) Q E s := by
  refine wpAny_BinOp (wpAny_Name (wpAny_loadName_local (by simp [compEnvC, relabel, hkind]) (lookup_relabel_local hxa) hns ha ?_) hda)
  refine wpAny_Name (wpAny_loadName_local (by simp [compEnvC, relabel, hkind]) (lookup_relabel_local hxb) hns hb ?_) hdb
  exact PySem.P.sub_int h
def ZipSt (z TI TO i1 i2 l1 l2 : Addr) (xs ys : List Value) (i : Nat) (h : Heap) : Prop :=
  IsZip h z TI TO .none ∧ IsPair h TI (.ref i1) (.ref i2) ∧ (∃ a b, IsPair h TO a b) ∧ h.IsListIter i1 l1 i ∧ h.IsListIter i2 l2 i ∧ h.IsList l1 xs.toArray ∧ h.IsList l2 ys.toArray
theorem zip_block {iter : Expr} {a b : Str} {p1 p2 p3 pa pb tp : Pos} {kk : Nat} {scope : Scope} {cl : List (Str × Addr)} {pos : Pos} {s₂ : Shared} {z TI TO i1 i2 l1 l2 : Addr} {xs ys : List Value} {us vs : List Int} {news : List (Addr × Obj)}
    {RR : Value → Addr → Result → Shared → Prop}
    (hh : A.handled = none) (DD : ZipApart z TI TO i1 i2 l1 l2) (hx : IntsAre xs us) (hy : IntsAre ys vs) (hlen : us.length = vs.length) (hsz : us.length ≤ sizeLine)
    (hst : ZipSt z TI TO i1 i2 l1 l2 xs ys 0 s₂.heap) (hfp : ∀ b ∈ [z, TI, TO, i1, i2, l1, l2], b < s₂.heap.objs.size)
    (hcell : ∀ y ∈ scope.names, y.2 ≠ .cell) (hkind : scope.kind = .function) (hxa : scope.names.lookup a = some .local) (hxb : scope.names.lookup b = some .local) (hab : ¬ a = b) (hda : (a == ("__debug__" : Str)) = false) (hdb : (b == ("__debug__" : Str)) = false)
    (F : Fr h₀ L s₂.heap m) (N : News h₀ L s₂.heap news) (hwL : L ∉ [z, TO, i1, i2]) (hw0 : ∀ b ∈ [z, TO, i1, i2], h₀.get? b = none) (hwn : ∀ p ∈ news, p.1 ∉ [z, TO, i1, i2])
    (hRR : ∀ D C h tk m' rs, IntsAre rs (List.zipWith (· - ·) us vs) → Fr h₀ L h m → News h₀ L h ((D, lst rs) :: news) → (∀ p ∈ news, p.1 ≠ D) → h.Ns C m' → h₀.get? C = none → h₀.get? D = none → C ≠ L → D ≠ L → C ≠ D → (∀ p ∈ news, p.1 ≠ C) →
      RR (.ref D) C (.ok .next) { s₂ with heap := h, toks := tk }) :
    wpAny (model prog w) A (newList []) (fun acc s₃ => wpAny (model prog w) A (newFunctionEnv scope env.globals cl [] env.qual none .none (some env)) (fun cenv s₄ =>
      codeAny (model prog w) A (.compStart (.ListComp (.BinOp (.Name a p1) .Sub (.Name b p2) p3) [⟨.Tuple [.Name a pa, .Name b pb] kk tp, iter, [], 0⟩] scope pos) 0 (.ref z) acc { cenv with scope := relabel scope env }) (RR acc cenv.locals) s₄) E s₃) E s₂ := by
  refine wpAny_newObj_type (wpAny_newFunctionEnv hcell (by intro y hy; simp at hy) (fun h₁ hns₁ hsb₁ => ?_) hkind)
  dsimp only at hns₁ hsb₁ ⊢
  generalize hH2 : s₂.heap.push { cls := .type "list", dict := none, data := .seq ([] : List Value).toArray } = H2 at hns₁ hsb₁ ⊢
  have hC : H2.objs.size = s₂.heap.objs.size + 1 := by rw [← hH2, Heap.size_push]
  generalize hCC : H2.objs.size = C at *
  have hDC : s₂.heap.objs.size ≠ C := by rw [hC]; exact Nat.ne_of_lt (Nat.lt_succ_self _)
  have below : ∀ b, b < s₂.heap.objs.size → b ≠ C ∧ b ≠ s₂.heap.objs.size := fun b hb => ⟨by rw [hC]; exact Nat.ne_of_lt (Nat.lt_succ_of_lt hb), Nat.ne_of_lt hb⟩
  have old : ∀ b o, s₂.heap.get? b = some o → h₁.get? b = some o := fun b o e => hsb₁.extBut b o (below b (Heap.lt_size e)).1 (Heap.get?_push_of_some _ (hH2 ▸ Heap.get?_push_of_some _ e))
  have hacc : h₁.get? s₂.heap.objs.size = some (lst []) := hsb₁.extBut _ _ hDC (Heap.get?_push_of_some _ (hH2 ▸ Heap.get?_push_size _ rfl))
  have hD₀ : h₀.get? s₂.heap.objs.size = none := ktu_new F (Nat.le_refl _)
  have hC₀ : h₀.get? C = none := ktu_new F (by rw [hC]; exact Nat.le_succ _)
  have hLlt : L < s₂.heap.objs.size := F.ns.lt
  have hDL : s₂.heap.objs.size ≠ L := Ne.symm (below L hLlt).2
  have hCL : C ≠ L := Ne.symm (below L hLlt).1
  have wr_fp : ∀ c ∈ [z, TO, i1, i2], c ∈ [z, TI, TO, i1, i2, l1, l2] := fun c hc => by simp at hc ⊢; rcases hc with rfl | rfl | rfl | rfl <;> simp
  have hCw : C ∉ [z, TO, i1, i2] := fun hm => (below _ (hfp _ (wr_fp _ hm))).1 rfl
  have hDw : s₂.heap.objs.size ∉ [z, TO, i1, i2] := fun hm => (below _ (hfp _ (wr_fp _ hm))).2 rfl
  have hnD : ∀ p ∈ news, p.1 ≠ s₂.heap.objs.size := fun p hp => (below _ (Heap.lt_size (N p hp).1)).2
  have hnC : ∀ p ∈ news, p.1 ≠ C := fun p hp => (below _ (Heap.lt_size (N p hp).1)).1
  have W := KTurns.ofWalksU (elts := [.Name a pa, .Name b pb]) (k := kk) (pos := tp) (WalksT.zip2 (prog := prog) (w := w) (A := A) hh z TI TO i1 i2 l1 l2 DD xs.toArray ys.toArray).toU
  have hxl : xs.length = us.length := IntsAre.length hx
  have hyl : ys.length = vs.length := IntsAre.length hy
  have hn : min xs.toArray.size ys.toArray.size = us.length := by rw [List.size_toArray, List.size_toArray, hxl, hyl, ← hlen, Nat.min_self]
  rw [hn] at W
  have frame : ∀ i h h', ZipSt z TI TO i1 i2 l1 l2 xs ys i h → (∀ b ∈ [z, TI, TO, i1, i2, l1, l2], ∀ o, h.get? b = some o → h'.get? b = some o) → ZipSt z TI TO i1 i2 l1 l2 xs ys i h' := W.frame
  have loop : ∀ s₃ : Shared, s₃ = { s₂ with heap := h₁, toks := s₂.toks + ([] : List (Str × Value)).length } →
      codeAny (model prog w) A (.compLoop (.ListComp (.BinOp (.Name a p1) .Sub (.Name b p2) p3) [⟨.Tuple [.Name a pa, .Name b pb] kk tp, iter, [], 0⟩] scope pos) 0 (.ref z) (.ref s₂.heap.objs.size) (compEnvC scope cl C env))
        (RR (.ref s₂.heap.objs.size) C) s₃ := by
    rintro s₃ rfl
    refine kcp_loop
      (fun k s' => ∃ h' tk i rs m', s' = { s₂ with heap := h', toks := tk } ∧ i ≤ us.length ∧ k = us.length + 1 - i ∧ rs.length = i ∧ IntsAre rs ((List.zipWith (· - ·) us vs).take i) ∧ ZipSt z TI TO i1 i2 l1 l2 xs ys i h' ∧ Fr h₀ L h' m ∧ h'.Ns C m' ∧
        News h₀ L h' ((s₂.heap.objs.size, lst rs) :: news)) ?_ (us.length + 1)
      ⟨h₁, _, 0, [], _, rfl, Nat.zero_le _, rfl, rfl, .nil, frame _ _ _ hst fun b _ o e => old b o e, F.keeps old, hns₁, fun p hp => ?_⟩
    · rintro k s' ⟨h', tk, i, rs, m', rfl, hi, rfl, hrl, hri, hst', F', hn', N'⟩
      by_cases hlt : i < us.length
      · refine W.item i _ _ _ hlt hst' fun v h₂ tk₂ hMd hk₂ => ?_
        refine W.go i v _ _ _ hMd fun h₃ hP hst₃ hk₃ => ?_
        obtain ⟨T, vals, rfl, ⟨x, y, hgx, hgy, rfl⟩, hT⟩ := hP
        rw [List.getElem?_toArray] at hgx hgy
        obtain ⟨u, t, rfl, hu⟩ := ints_at hx hgx
        obtain ⟨v, t', rfl, hv⟩ := ints_at hy hgy
        have up₃ : ∀ c o, c ∉ [z, TO, i1, i2] → h'.get? c = some o → h₃.get? c = some o := fun c o hc e => hk₃ c o hc (hk₂ c o hc e)
        refine kcp_assign (env := compEnvC scope cl C env) hh hT (lookup_relabel_local hxa) (lookup_relabel_local hxb) (by simp [compEnvC, relabel, hkind]) (hn'.at' fun o e => up₃ _ o hCw e) fun h₄ tk₄ hn₄ hs₄ => ?_
        have up : ∀ c o, c ∉ [z, TO, i1, i2] → c ≠ C → h'.get? c = some o → h₄.get? c = some o := fun c o h1 h2 e => hs₄ c o h2 (up₃ c o h1 e)
        have hst₄ : ZipSt z TI TO i1 i2 l1 l2 xs ys (i + 1) h₄ := frame _ _ _ hst₃ fun c hc o e => hs₄ c o (below c (hfp c hc)).1 e
        have F₄ : Fr h₀ L h₄ m := ⟨F'.ns.at' fun o e => up _ o hwL (Ne.symm hCL) e, fun c o e => up c o (fun q => by rw [hw0 c q] at e; cases e) (fun q => by rw [q, hC₀] at e; cases e) (F'.keep c o e), F'.above⟩
        have N₄ : News h₀ L h₄ ((s₂.heap.objs.size, lst rs) :: news) := fun q hq => by
          refine ⟨up _ _ ?_ ?_ (N' q hq).1, (N' q hq).2⟩
          · rcases List.mem_cons.mp hq with rfl | hq
            · exact hDw
            · exact hwn q hq
          · rcases List.mem_cons.mp hq with rfl | hq
            · exact hDC
            · exact hnC q hq
        refine comp_sub hkind hn₄ ((if_neg hab).trans (if_pos rfl)) (if_pos rfl) hxa hxb hda hdb ?_
        have zD := (N₄ (s₂.heap.objs.size, lst rs) List.mem_cons_self).1
        refine append_at (hsz := by show rs.toArray.size ≤ sizeLine; rw [List.size_toArray, hrl]; exact Nat.le_trans hi hsz) zD fun h₆ hs₆ hD₆ => ?_
        refine ⟨us.length + 1 - (i + 1), by omega, h₆, tk₄ + 1, i + 1, rs ++ [.int (u - v) tk₄], _, rfl, hlt, rfl, by rw [List.length_append, List.length_singleton, hrl], ?_, frame _ _ _ hst₄ fun c hc o e => hs₆.extBut c o (below c (hfp c hc)).2 e, F₄.change hs₆ hDL hD₀, hn₄.sameBut hs₆ (Ne.symm hDC), fun q hq => ?_⟩
        · have e : (List.zipWith (· - ·) us vs)[i]? = some (u - v) := by rw [List.getElem?_zipWith, hu, hv]
          rw [List.take_add_one, e]
          exact ints_snoc hri
        · rcases List.mem_cons.mp hq with rfl | hq
          · exact ⟨hD₆.trans (congrArg some (lst_snoc rs _)), hDL, hD₀⟩
          · exact ⟨hs₆.extBut _ _ (hnD q hq) (N₄ q (List.mem_cons_of_mem _ hq)).1, (N₄ q (List.mem_cons_of_mem _ hq)).2⟩
      · have hin : i = us.length := Nat.le_antisymm hi (Nat.not_lt.mp hlt)
        subst hin
        refine W.done _ _ _ hst' fun h₂ tk₂ hk₂ => ?_
        have ht : (List.zipWith (· - ·) us vs).take us.length = List.zipWith (· - ·) us vs := List.take_of_length_le (by rw [List.length_zipWith]; exact Nat.min_le_left _ _)
        rw [ht] at hri
        refine hRR _ _ h₂ tk₂ _ rs hri ⟨F'.ns.at' fun o e => hk₂ _ o hwL e, fun c o e => hk₂ c o (fun q => by rw [hw0 c q] at e; cases e) (F'.keep c o e), F'.above⟩ (fun q hq => ⟨hk₂ _ _ ?_ (N' q hq).1, (N' q hq).2⟩) hnD (hn'.at' fun o e => hk₂ _ o hCw e) hC₀ hD₀ hCL hDL (Ne.symm hDC) hnC
        rcases List.mem_cons.mp hq with rfl | hq
        · exact hDw
        · exact hwn q hq
    · rcases List.mem_cons.mp hp with rfl | hp
      · exact ⟨hacc, hDL, hD₀⟩
      · exact ⟨old _ _ (N p hp).1, (N p hp).2⟩
  exact codeAny_compStart_list (loop _ rfl) (wpAny_pyIter_zip (old _ _ hst.1) (loop _ rfl))
/-- what the comprehension over zip wants behind its source -/
def ZipSrc (A : Around) (h₀ : Heap) (L : Addr) (m : Str → Option Value) (Q : Value → Shared → Prop) (xv : Value) (s₁ : Shared) : Prop :=
  ∃ (z TI TO i1 i2 l1 l2 : Addr) (xs ys : List Value) (us vs : List Int) (news : List (Addr × Obj)), xv = .ref z ∧ A.handled = none ∧ ZipApart z TI TO i1 i2 l1 l2 ∧ IntsAre xs us ∧ IntsAre ys vs ∧ us.length = vs.length ∧ us.length ≤ sizeLine ∧
    ZipSt z TI TO i1 i2 l1 l2 xs ys 0 s₁.heap ∧ (∀ b ∈ [z, TI, TO, i1, i2, l1, l2], b < s₁.heap.objs.size) ∧ Fr h₀ L s₁.heap m ∧ News h₀ L s₁.heap news ∧ L ∉ [z, TO, i1, i2] ∧ (∀ b ∈ [z, TO, i1, i2], h₀.get? b = none) ∧ (∀ p ∈ news, p.1 ∉ [z, TO, i1, i2]) ∧
    ∀ D rs h tk, IntsAre rs (List.zipWith (· - ·) us vs) → Fr h₀ L h m → News h₀ L h ((D, lst rs) :: news) → (∀ p ∈ news, p.1 ≠ D) → Q (.ref D) { s₁ with heap := h, toks := tk }
theorem ListComp_zip {iter : Expr} {a b : Str} {p1 p2 p3 pa pb tp : Pos} {kk : Nat} {scope : Scope} {cl : List (Str × Addr)} {pos : Pos} {Q : Value → Shared → Prop} (_F₀ : Fr h₀ L s.heap m)
    (hclos : closureFor scope env = pure cl) (hcell : ∀ y ∈ scope.names, y.2 ≠ .cell) (hkind : scope.kind = .function)
    (hnames : ∀ y ∈ scope.names, y.2 = .local → scope.names.lookup y.1 = some .local) (hxa : scope.names.lookup a = some .local) (hxb : scope.names.lookup b = some .local) (hab : ¬ a = b) (hda : (a == ("__debug__" : Str)) = false) (hdb : (b == ("__debug__" : Str)) = false)
    (h : wpAny (model prog w) A (eval iter env) (ZipSrc A h₀ L m Q) E s)
    (hs : ∀ x, foldedSetIterable iter env x = pure x := by intro _; rfl) :
    wpAny (model prog w) A (eval (.ListComp (.BinOp (.Name a p1) .Sub (.Name b p2) p3) [⟨.Tuple [.Name a pa, .Name b pb] kk tp, iter, [], 0⟩] scope pos) env) Q E s := by
  rw [eval_ListComp]
  refine wpAny_comprehension_free (use := none) rfl hs hclos hkind hnames (wpAny_mono h (fun xv s₁ h₁ => ?_) fun _ _ e => e)
  obtain ⟨z, TI, TO, i1, i2, l1, l2, xs, ys, us, vs, news, rfl, hh, DD, hx, hy, hlen, hsz, hst, hfp, F, N, hwL, hw0, hwn, hQ⟩ := h₁
  refine wpAny_pyIter_zip hst.1 ?_
  refine zip_block hh DD hx hy hlen hsz hst hfp hcell hkind hxa hxb hab hda hdb F N hwL hw0 hwn ?_
  intro D C h tk m' rs hr F' N' o1 hn hC₀ hD₀ hCL hDL hCD offC
  refine ⟨m', hn, fun h'' hs'' => hQ D rs h'' tk hr (F'.change hs'' hCL hC₀) (fun p hp => ?_) o1⟩
  refine ⟨hs''.extBut _ _ ?_ (N' p hp).1, (N' p hp).2⟩
  rcases List.mem_cons.mp hp with rfl | hp
  · exact Ne.symm hCD
  · exact offC p hp
theorem zip_call {x y : Addr} {c0 c1 c2 d0 d1 d2 : Int} {t0 t1 t2 u0 u1 u2 : Tok} {n1 n2 : Nat} {news : List (Addr × Obj)} {Q : Value → Shared → Prop} (hh : A.handled = none) (F : Fr h₀ L s.heap m) (N : News h₀ L s.heap news)
    (hm1 : (x, listOf #[.int c0 t0, .int c1 t1, .int c2 t2] n1) ∈ news) (hm2 : (y, listOf #[.int d0 u0, .int d1 u1, .int d2 u2] n2) ∈ news)
    (h : ∀ D t0' t1' t2' h' tk, Fr h₀ L h' m → News h₀ L h' ((D, lst [.int (c0 - d0) t0', .int (c1 - d1) t1', .int (c2 - d2) t2']) :: news) → AllNe D news → Q (.ref D) { s with heap := h', toks := tk }) :
    wpAny (model prog w) A (call (.type "zip") [.ref x, .ref y]) (ZipSrc A h₀ L m Q) E s := by
  have hl1 : s.heap.IsList x #[.int c0 t0, .int c1 t1, .int c2 t2] := News.isList N hm1
  have hl2 : s.heap.IsList y #[.int d0 u0, .int d1 u1, .int d2 u2] := News.isList N hm2
  have hlt1 : x < s.heap.objs.size := Heap.lt_size (N _ hm1).1
  have hlt2 : y < s.heap.objs.size := Heap.lt_size (N _ hm2).1
  have DD : ZipApart (s.heap.objs.size + 4) (s.heap.objs.size + 2) (s.heap.objs.size + 3) s.heap.objs.size (s.heap.objs.size + 1) x y := ktu_apart _ _ _ hlt1 hlt2
  refine call_zip_2 hl1 hl2 fun h' hz hTI hTO hi1 hi2 hsz hk => ?_
  have ge : ∀ b ∈ [s.heap.objs.size + 4, s.heap.objs.size + 3, s.heap.objs.size, s.heap.objs.size + 1], s.heap.objs.size ≤ b := by
    intro b hb
    simp only [List.mem_cons, List.not_mem_nil, or_false] at hb
    rcases hb with rfl | rfl | rfl | rfl
    · exact Nat.le_add_right _ _
    · exact Nat.le_add_right _ _
    · exact Nat.le_refl _
    · exact Nat.le_add_right _ _
  refine ⟨_, _, _, _, _, x, y, [.int c0 t0, .int c1 t1, .int c2 t2], [.int d0 u0, .int d1 u1, .int d2 u2], [c0, c1, c2], [d0, d1, d2], news, rfl, hh, DD, .cons _ _ (.cons _ _ (.cons _ _ .nil)), .cons _ _ (.cons _ _ (.cons _ _ .nil)), rfl, by size_fits,
    ⟨hz, hTI, ⟨_, _, hTO⟩, hi1, hi2, hl1.at fun o e => hk _ o e, hl2.at fun o e => hk _ o e⟩, ?_, F.keeps hk, N.grown hk, fun hm => Nat.lt_irrefl _ (Nat.lt_of_lt_of_le F.ns.lt (ge _ hm)), fun b hb => ktu_new F (ge _ hb), fun p hp hm => Nat.lt_irrefl _ (Nat.lt_of_lt_of_le (Heap.lt_size (N p hp).1) (ge _ hm)), ?_⟩
  · intro b hb
    show b < h'.objs.size
    rw [hsz]
    simp only [List.mem_cons, List.not_mem_nil, or_false] at hb
    rcases hb with rfl | rfl | rfl | rfl | rfl | rfl | rfl
    · exact Nat.lt_succ_self _
    · exact Nat.add_lt_add_left (by decide : 2 < 5) _
    · exact Nat.add_lt_add_left (by decide : 3 < 5) _
    · exact Nat.lt_add_of_pos_right (by decide)
    · exact Nat.add_lt_add_left (by decide : 1 < 5) _
    · exact Nat.lt_of_lt_of_le hlt1 (Nat.le_add_right _ _)
    · exact Nat.lt_of_lt_of_le hlt2 (Nat.le_add_right _ _)
  · intro D rs g tk hr F' N' o1
    cases hr with
    | cons _ t0' hr =>
      cases hr with
      | cons _ t1' hr =>
        cases hr with
        | cons _ t2' hr =>
          cases hr
          exact h D t0' t1' t2' g tk F' N' (allNe_of o1)
end
end Mine
open Mine
namespace Mine
theorem words17 : True := by
  k_with "exec Assign cons ListComp" => (k_here; (with_reducible show wpAny _ _ (exec (Stmt.Assign _ (Expr.ListComp _ [⟨Expr.Tuple _ _ _, Expr.Call _ [Expr.Name _ _, Expr.Name _ _] _ _, _, _⟩] _ _) _) _) _ _ _); with_unfolding_all refine wpAny_Assign_Name ?_)
  trivial
end Mine
namespace Mine
theorem words18 : True := by
  k_with "eval ListComp" => (k_here; (with_reducible show wpAny _ _ (eval (Expr.ListComp (Expr.BinOp _ _ _ _) [⟨Expr.Tuple _ _ _, Expr.Call _ [Expr.Name _ _, Expr.Name _ _] _ _, _, _⟩] _ _) _) _ _ _); k_dflt (refine ListComp_zip (by k_asm) (by rfl) (by decide) (by rfl) (by decide) (by rfl) (by rfl) (by decide) (by decide) (by decide) ?_))
  trivial
end Mine
namespace Mine
theorem words19 : True := by
  k_with "call type:zip" => (k_here; (with_reducible show wpAny _ _ (call (Value.type "zip") [Value.ref _, Value.ref _]) (ZipSrc _ _ _ _ _) _ _); k_dflt (refine' zip_call ?k1 ?k2 ?k3 ?k4 ?k5 ?_; (case k1 => exact rfl); (case k2 => k_asm); (case k3 => k_asm); (case k4 => k_mem); (case k5 => k_mem); k_whole); intro D' t0' t1' t2' h' tk' F' N' l1'; (try simp only [AllNe, and_true] at l1'); (try k_sweep))
  trivial
end Mine
namespace Mine
open PyProof.Rows.LCg
section
variable {prog : Program} {w : World} {A : Around} {E : Value → Shared → Prop} {s : Shared} {env : Env}
theorem eq_nil {a b : Addr} {ys : List Value} {Q : Value → Shared → Prop} (ha : s.heap.IsList a ys.toArray) (hb : s.heap.IsList b #[]) (hu : A.units < cLine) (h : Q (.bool (decide (ys = []))) s) : wpAny (model prog w) A (compareOp .Eq (.ref a) (.ref b)) Q E s := by
  cases ys with
  | nil => exact SeqAt.eq_listAt (e := fun _ => true) ha hb rfl hu (fun j h1 => absurd h1 (Nat.not_lt_zero _)) (by simpa using h)
  | cons y r => exact SeqAt.eq_list_lengthsAt ha hb (by simp) hu (by simpa using h)
theorem ne_nil {a b : Addr} {ys : List Value} {Q : Value → Shared → Prop} (ha : s.heap.IsList a ys.toArray) (hb : s.heap.IsList b #[]) (hu : A.units < cLine) (h : Q (.bool (decide (ys ≠ []))) s) : wpAny (model prog w) A (compareOp .NotEq (.ref a) (.ref b)) Q E s := by
  cases ys with
  | nil => exact SeqAt.RcNeAt.lists (e := fun _ => true) ha hb rfl hu (fun j h1 => absurd h1 (Nat.not_lt_zero _)) prog w E Q (by simpa using h)
  | cons y r => exact SeqAt.RcNeAt.lists_lengths ha hb (by simp) hu prog w E Q (by simpa using h)
/-- the turns so far: what is kept, and whether any -/
def Kept (f : Nat → Bool) (i : Nat) (ys : List Value) : Prop := ys.length ≤ i ∧ (ys = [] ↔ ∀ j, j < i → f j = false)
theorem Kept.zero {f : Nat → Bool} : Kept f 0 [] := ⟨Nat.le_refl _, ⟨fun _ j hj => absurd hj (Nat.not_lt_zero _), fun _ => rfl⟩⟩
theorem Kept.yes {f : Nat → Bool} {i : Nat} {ys : List Value} {v : Value} (h : Kept f i ys) (hf : f i = true) : Kept f (i + 1) (ys ++ [v]) :=
  ⟨by rw [List.length_append]; exact Nat.succ_le_succ h.1, ⟨fun e => by simp at e, fun e => by rw [e i (Nat.lt_succ_self i)] at hf; cases hf⟩⟩
theorem Kept.no {f : Nat → Bool} {i : Nat} {ys : List Value} (h : Kept f i ys) (hf : f i = false) : Kept f (i + 1) ys :=
  ⟨Nat.le_succ_of_le h.1, ⟨fun e j hj => by
    rcases Nat.lt_or_ge j i with hj' | hj'
    · exact h.2.mp e j hj'
    · rw [show j = i from Nat.le_antisymm (Nat.le_of_lt_succ hj) hj']; exact hf, fun e => h.2.mpr fun j hj => e j (Nat.lt_succ_of_lt hj)⟩⟩
theorem Keeps.rfl' {h : Heap} : Keeps h h := fun _ _ e => e
theorem Keeps.trans {h h' h'' : Heap} (a : Keeps h h') (b : Keeps h' h'') : Keeps h h'' := fun c o e => b c o (a c o e)
/-- what a comprehension that keeps some of a list's items wants behind its source; `test` the one test -/
def FiltSrc (prog : Program) (w : World) (A : Around) (ct : Expr) (envOf' : Addr → List Addr → Env) (has : Addr → List Addr → Value → Heap → Prop) (f : Nat → Bool) (Q : Value → Shared → Prop) (xv : Value) (s₁ : Shared) : Prop :=
  ∃ ax its, xv = .ref ax ∧ A.handled = none ∧ s₁.heap.IsList ax its ∧ its.size ≤ sizeLine ∧
    (∀ i v h tk C Ks (E' : Value → Shared → Prop), its[i]? = some v → Keeps s₁.heap h → s₁.heap.get? C = none → (∀ K ∈ Ks, s₁.heap.get? K = none) → has C Ks v h →
      wpAny (model prog w) A (isTrue ct (envOf' C Ks) (eval ct (envOf' C Ks))) (fun ok s' => ok = f i ∧ ∃ h' tk', s' = { s₁ with heap := h', toks := tk' } ∧ Keeps h h') E' { s₁ with heap := h, toks := tk }) ∧
    (∀ D ys h tk, Keeps s₁.heap h → s₁.heap.get? D = none → h.IsList D ys.toArray → Kept f its.size ys → Q (.ref D) { s₁ with heap := h, toks := tk })
theorem none_of_le {h : Heap} {a : Addr} (ha : h.objs.size ≤ a) : h.get? a = none := by
  cases e : h.get? a with
  | none => rfl
  | some o' => exact absurd (Heap.lt_size e) (Nat.not_lt.mpr ha)
theorem ListComp_filt {ct iter : Expr} {x : Str} {px pe : Pos} {scope : Scope} {cl : List (Str × Addr)} {pos : Pos} {Q : Value → Shared → Prop} {f : Nat → Bool}
    (hclos : closureFor scope env = pure cl) (hcell : ∀ y ∈ scope.names, y.2 ≠ .cell) (hkind : scope.kind = .function)
    (hnames : ∀ y ∈ scope.names, y.2 = .local → scope.names.lookup y.1 = some .local) (hx : scope.names.lookup x = some .local) (hdx : (x == ("__debug__" : Str)) = false)
    (h : wpAny (model prog w) A (eval iter env) (FiltSrc prog w A ct (fun C _ => compEnvC scope cl C env) (fun C _ v h => ∃ m₂, h.Ns C m₂ ∧ m₂ x = some v) f Q) E s)
    (hs : ∀ x, foldedSetIterable iter env x = pure x := by intro _; rfl) :
    wpAny (model prog w) A (eval (.ListComp (.Name x pe) [⟨.Name x px, iter, [ct], 0⟩] scope pos) env) Q E s := by
  rw [eval_ListComp]
  refine wpAny_comprehension_free (use := none) rfl hs hclos hkind hnames (wpAny_mono h (fun xv s₁ h₁ => ?_) fun _ _ e => e)
  obtain ⟨ax, its, rfl, hh, hl, hsz, test, hQ⟩ := h₁
  have hlt : ax < s₁.heap.objs.size := by obtain ⟨_, e, _⟩ := hl; exact Heap.lt_size e
  refine wpAny_pyIter_list hl ?_
  refine wpAny_newObj_type (wpAny_newFunctionEnv hcell (by intro y hy; simp at hy) (fun h₁ hns₁ hsb₁ => ?_) hkind)
  dsimp only at hns₁ hsb₁ ⊢
  have hz1 : (s₁.heap.push { cls := .type "list_iterator", data := .fields #[.ref ax, .int 0 0] }).objs.size = s₁.heap.objs.size + 1 := Heap.size_push _ _
  have itP : (s₁.heap.push { cls := .type "list_iterator", data := .fields #[.ref ax, .int 0 0] }).IsListIter s₁.heap.objs.size ax 0 := ⟨_, Heap.get?_push_size _ rfl, rfl, rfl⟩
  have oldP : Keeps s₁.heap (s₁.heap.push { cls := .type "list_iterator", data := .fields #[.ref ax, .int 0 0] }) := fun b o e => Heap.get?_push_of_some _ e
  generalize hH1 : s₁.heap.push { cls := .type "list_iterator", data := .fields #[.ref ax, .int 0 0] } = H1 at *
  generalize hH2 : H1.push { cls := .type "list", dict := none, data := .seq ([] : List Value).toArray } = H2 at *
  have hC : H2.objs.size = s₁.heap.objs.size + 2 := by rw [← hH2, Heap.size_push, hz1]
  generalize hCC : H2.objs.size = C at *
  generalize hII : s₁.heap.objs.size = I at *
  rw [hz1]
  have neI : ∀ b o, s₁.heap.get? b = some o → b ≠ I ∧ b ≠ I + 1 ∧ b ≠ C := fun b o e => by
    have := Heap.lt_size e
    rw [hII] at this
    have h' : (b : Nat) < I := this
    exact ⟨Nat.ne_of_lt h', Nat.ne_of_lt (Nat.lt_succ_of_lt h'), by rw [hC]; exact Nat.ne_of_lt (Nat.lt_succ_of_lt (Nat.lt_succ_of_lt h'))⟩
  have hDC : @Ne Nat (I + 1) C := by rw [hC]; exact Nat.ne_of_lt (Nat.lt_succ_self _)
  have hIC : @Ne Nat I C := by rw [hC]; exact Nat.ne_of_lt (Nat.lt_succ_of_lt (Nat.lt_succ_self _))
  have hID : @Ne Nat I (I + 1) := Nat.ne_of_lt (Nat.lt_succ_self _)
  have hC0 : s₁.heap.get? C = none := none_of_le (by rw [hII, hC]; exact Nat.le_add_right _ _)
  have hD0 : s₁.heap.get? (I + 1) = none := none_of_le (by rw [hII]; exact Nat.le_succ _)
  have up1 : ∀ b o, b ≠ C → H1.get? b = some o → h₁.get? b = some o := fun b o hb e => hsb₁.extBut b o hb (Heap.get?_push_of_some _ (hH2 ▸ Heap.get?_push_of_some _ e))
  have hacc : h₁.get? (I + 1) = some (lst []) := hsb₁.extBut _ _ hDC (Heap.get?_push_of_some _ (by rw [← hH2, ← hz1]; exact Heap.get?_push_size _ rfl))
  have hit₁ : h₁.IsListIter I ax 0 := by obtain ⟨o, e, r⟩ := itP; exact ⟨o, up1 _ _ hIC e, r⟩
  have old₁ : Keeps s₁.heap h₁ := fun b o e => up1 b o (neI b o e).2.2 (oldP b o e)
  have hlax : ∀ h', Keeps s₁.heap h' → h'.IsList ax its := fun h' k => by obtain ⟨o, e, r⟩ := hl; exact ⟨o, k _ _ e, r⟩
  have W := Walks.list (prog := prog) (w := w) (A := A) hh I ax (Nat.ne_of_lt hlt) its
  have loop : ∀ s₃ : Shared, s₃ = { s₁ with heap := h₁, toks := s₁.toks + ([] : List (Str × Value)).length } →
      codeAny (model prog w) A (.compLoop (.ListComp (.Name x pe) [⟨.Name x px, iter, [ct], 0⟩] scope pos) 0 (.ref I) (.ref (I + 1)) (compEnvC scope cl C env))
        (compPost (model prog w) A E none Q (.ref (I + 1)) C) s₃ := by
    rintro s₃ rfl
    refine codeAny_compLoop_tests
      (fun k s' => ∃ h' tk i ys m', s' = { s₁ with heap := h', toks := tk } ∧ i ≤ its.size ∧ k = its.size + 1 - i ∧ Kept f i ys ∧ h'.IsListIter I ax i ∧ Keeps s₁.heap h' ∧ h'.Ns C m' ∧ h'.get? (I + 1) = some (lst ys)) ?_ (its.size + 1)
      ⟨h₁, _, 0, [], _, rfl, Nat.zero_le _, rfl, Kept.zero, hit₁, old₁, hns₁, hacc⟩
    rintro k s' ⟨h', tk, i, ys, m', rfl, hi, rfl, hy, hit', hK', hn', hD'⟩
    by_cases hlt : i < its.size
    · refine W.item i _ _ _ hlt ⟨hit', hlax _ hK'⟩ fun v h₂ tk₂ hPv hst₂ hk₂ => ?_
      have hk₂' : ∀ b o, b ≠ I → h'.get? b = some o → h₂.get? b = some o := fun b o hb e => hk₂ b o (by simpa using hb) e
      refine wpAny_assign_Name (wpAny_storeName_local (lookup_relabel_local hx) (hn'.at' fun o e => hk₂' _ o (Ne.symm hIC) e) (fun h₃ hn₃ hs₃ => ?_) (by simp [compEnvC, relabel, hkind]))
      refine wpAny_tests_one ?_
      have hK₃ : Keeps s₁.heap h₃ := fun b o e => hs₃.extBut b o (neI b o e).2.2 (hk₂' b o (neI b o e).1 (hK' b o e))
      have hit₃ : h₃.IsListIter I ax (i + 1) := by obtain ⟨o, e, r⟩ := hst₂.1; exact ⟨o, hs₃.extBut _ _ hIC e, r⟩
      have hD₃ : h₃.get? (I + 1) = some (lst ys) := hs₃.extBut _ _ hDC (hk₂' _ _ (Ne.symm hID) hD')
      refine wpAny_mono (test i v h₃ _ C [] _ hPv hK₃ hC0 (fun K hK => nomatch hK) ⟨_, hn₃, if_pos rfl⟩) (fun ok s₄ h₄ => ?_) fun _ _ e => e
      obtain ⟨rfl, h₄, tk₄, rfl, hK₄⟩ := h₄
      have hn₄ : h₄.Ns C _ := hn₃.at' fun o e => hK₄ _ _ e
      have hit₄ : h₄.IsListIter I ax (i + 1) := by obtain ⟨o, e, r⟩ := hit₃; exact ⟨o, hK₄ _ _ e, r⟩
      cases hfi : f i with
      | true =>
        rw [if_pos rfl]
        refine wpAny_Name (wpAny_loadName_local (by simp [compEnvC, relabel, hkind]) (lookup_relabel_local hx) hn₄ (if_pos rfl) ?_) hdx
        refine append_at (hsz := by show ys.toArray.size ≤ sizeLine; rw [List.size_toArray]; exact Nat.le_trans (Nat.le_trans hy.1 hi) hsz) (hK₄ _ _ hD₃) fun h₅ hs₅ hD₅ => ?_
        exact ⟨its.size + 1 - (i + 1), by omega, h₅, tk₄, i + 1, ys ++ [v], _, rfl, hlt, rfl, hy.yes hfi, by obtain ⟨o, e, r⟩ := hit₄; exact ⟨o, hs₅.extBut _ _ hID e, r⟩,
          fun b o e => hs₅.extBut _ _ (neI b o e).2.1 (hK₄ _ _ (hK₃ b o e)), hn₄.sameBut hs₅ (Ne.symm hDC), hD₅.trans (congrArg some (lst_snoc ys v))⟩
      | false =>
        rw [if_neg (by decide)]
        exact ⟨its.size + 1 - (i + 1), by omega, h₄, tk₄, i + 1, ys, _, rfl, hlt, rfl, hy.no hfi, hit₄, hK₃.trans hK₄, hn₄, hK₄ _ _ hD₃⟩
    · obtain rfl : i = its.size := Nat.le_antisymm hi (Nat.not_lt.mp hlt)
      refine W.done _ _ _ ⟨hit', hlax _ hK'⟩ fun h₂ tk₂ hk₂ => ?_
      have hk₂' : ∀ b o, b ≠ I → h'.get? b = some o → h₂.get? b = some o := fun b o hb e => hk₂ b o (by simpa using hb) e
      refine ⟨m', hn'.at' fun o e => hk₂' _ o (Ne.symm hIC) e, fun h'' hs'' => hQ (I + 1) ys h'' tk₂ (fun b o e => hs''.extBut _ _ (neI b o e).2.2 (hk₂' _ _ (neI b o e).1 (hK' b o e))) hD0 ⟨_, hs''.extBut _ _ hDC (hk₂' _ _ (Ne.symm hID) hD'), rfl, _, rfl⟩ hy⟩
  exact codeAny_compStart_list (loop _ rfl) (W.self 0 _ _ _ ⟨hit₁, hlax _ old₁⟩ (loop _ rfl))
theorem ListComp_filtC {ct iter : Expr} {x : Str} {px pe : Pos} {scope : Scope} {cl : List (Str × Addr)} {pos : Pos} {Q : Value → Shared → Prop} {f : Nat → Bool}
    (hclos : closureFor scope env = pure cl) (hkind : scope.kind = .function)
    (hnames : ∀ y ∈ scope.names, y.2 = .local → scope.names.lookup y.1 = some .local) (hcf : ∀ n, cellsFrom n scope.names cl = (x, n) :: cl) (hpc : ∀ h, pushCells h scope.names = h.push { cls := .type "cell", data := .cell none })
    (hx : (relabel scope env).names.lookup x = some .cell) (hdx : (x == ("__debug__" : Str)) = false)
    (h : wpAny (model prog w) A (eval iter env) (FiltSrc prog w A ct (fun C Ks => compEnvC scope ((x, Ks.headD 0) :: cl) C env) (fun _ Ks v h => ∃ K, Ks = [K] ∧ h.IsCell K (some v)) f Q) E s)
    (hs : ∀ x, foldedSetIterable iter env x = pure x := by intro _; rfl) :
    wpAny (model prog w) A (eval (.ListComp (.Name x pe) [⟨.Name x px, iter, [ct], 0⟩] scope pos) env) Q E s := by
  rw [eval_ListComp]
  refine wpAny_comprehension_free (use := none) rfl hs hclos hkind hnames (wpAny_mono h (fun xv s₁ h₁ => ?_) fun _ _ e => e)
  obtain ⟨ax, its, rfl, hh, hl, hsz, test, hQ⟩ := h₁
  have hlt : ax < s₁.heap.objs.size := by obtain ⟨_, e, _⟩ := hl; exact Heap.lt_size e
  refine wpAny_pyIter_list hl ?_
  refine wpAny_newObj_type ?_
  dsimp only
  simp only [newFunctionEnv, Option.isSome_some, if_true]
  have hz1 : (s₁.heap.push { cls := .type "list_iterator", data := .fields #[.ref ax, .int 0 0] }).objs.size = s₁.heap.objs.size + 1 := Heap.size_push _ _
  have itP : (s₁.heap.push { cls := .type "list_iterator", data := .fields #[.ref ax, .int 0 0] }).IsListIter s₁.heap.objs.size ax 0 := ⟨_, Heap.get?_push_size _ rfl, rfl, rfl⟩
  have oldP : Keeps s₁.heap (s₁.heap.push { cls := .type "list_iterator", data := .fields #[.ref ax, .int 0 0] }) := fun b o e => Heap.get?_push_of_some _ e
  generalize hH1 : s₁.heap.push { cls := .type "list_iterator", data := .fields #[.ref ax, .int 0 0] } = H1 at *
  have accP : (H1.push { cls := .type "list", dict := none, data := .seq ([] : List Value).toArray }).get? (s₁.heap.objs.size + 1) = some (lst []) := by rw [← hz1]; exact Heap.get?_push_size _ rfl
  have up2 : Keeps H1 (H1.push { cls := .type "list", dict := none, data := .seq ([] : List Value).toArray }) := fun b o e => Heap.get?_push_of_some _ e
  generalize hH2 : H1.push { cls := .type "list", dict := none, data := .seq ([] : List Value).toArray } = H2 at *
  have hC : H2.objs.size = s₁.heap.objs.size + 2 := by rw [← hH2, Heap.size_push, hz1]
  refine wpAny_bind (wpAny_alloc ?_)
  refine wpAny_bind (wpAny_layCells _ (fun name kind cells => by cases hkc : kind == NameKind.cell <;> simp [hkc]) _ _ _ _ ?_)
  dsimp only
  rw [hcf, hpc]
  have nsP : (H2.push { cls := .type "dict", data := .dict #[] }).Ns H2.objs.size fun _ => none := Heap.Ns.new H2 (.type "dict")
  have up3 : Keeps H2 (H2.push { cls := .type "dict", data := .dict #[] }) := fun b o e => Heap.get?_push_of_some _ e
  have hz3 : (H2.push { cls := .type "dict", data := .dict #[] }).objs.size = s₁.heap.objs.size + 3 := by rw [Heap.size_push, hC]
  generalize hH3 : H2.push { cls := .type "dict", data := .dict #[] } = H3 at *
  have cellP : (H3.push { cls := .type "cell", data := .cell none }).IsCell H3.objs.size none := ⟨_, Heap.get?_push_size _ rfl, rfl⟩
  have up4 : Keeps H3 (H3.push { cls := .type "cell", data := .cell none }) := fun b o e => Heap.get?_push_of_some _ e
  generalize hH4 : H3.push { cls := .type "cell", data := .cell none } = H4 at *
  rw [hz1]
  rw [hz3] at cellP ⊢
  generalize hCC : H2.objs.size = C at *
  generalize hII : s₁.heap.objs.size = I at *
  simp only [List.forIn_nil]
  refine wpAny_bind (wpAny_pure (wpAny_pure ?_))
  have neI : ∀ b o, s₁.heap.get? b = some o → b ≠ I ∧ b ≠ I + 1 ∧ b ≠ C ∧ b ≠ I + 3 := fun b o e => by
    have := Heap.lt_size e
    rw [hII] at this
    have h' : (b : Nat) < I := this
    exact ⟨Nat.ne_of_lt h', Nat.ne_of_lt (Nat.lt_succ_of_lt h'), by rw [hC]; exact Nat.ne_of_lt (Nat.lt_succ_of_lt (Nat.lt_succ_of_lt h')), Nat.ne_of_lt (Nat.lt_add_right 3 h')⟩
  have hDC : @Ne Nat (I + 1) C := by rw [hC]; exact Nat.ne_of_lt (Nat.lt_succ_self _)
  have hIC : @Ne Nat I C := by rw [hC]; exact Nat.ne_of_lt (Nat.lt_succ_of_lt (Nat.lt_succ_self _))
  have hID : @Ne Nat I (I + 1) := Nat.ne_of_lt (Nat.lt_succ_self _)
  have hIK : @Ne Nat I (I + 3) := Nat.ne_of_lt (Nat.lt_add_of_pos_right (by decide))
  have hDK : @Ne Nat (I + 1) (I + 3) := Nat.ne_of_lt (Nat.add_lt_add_left (by decide) I)
  have hCK : @Ne Nat C (I + 3) := by rw [hC]; exact Nat.ne_of_lt (Nat.add_lt_add_left (by decide) I)
  have hC0 : s₁.heap.get? C = none := none_of_le (by rw [hII, hC]; exact Nat.le_add_right _ _)
  have hD0 : s₁.heap.get? (I + 1) = none := none_of_le (by rw [hII]; exact Nat.le_succ _)
  have hK0 : s₁.heap.get? (I + 3) = none := none_of_le (by rw [hII]; exact Nat.le_add_right _ _)
  have hacc : H4.get? (I + 1) = some (lst []) := up4 _ _ (up3 _ _ accP)
  have hns₁ : H4.Ns C fun _ => none := nsP.at' fun o e => up4 _ _ e
  have hit₁ : H4.IsListIter I ax 0 := by obtain ⟨o, e, r⟩ := itP; exact ⟨o, up4 _ _ (up3 _ _ (up2 _ _ e)), r⟩
  have old₁ : Keeps s₁.heap H4 := fun b o e => up4 _ _ (up3 _ _ (up2 _ _ (oldP b o e)))
  have hlax : ∀ h', Keeps s₁.heap h' → h'.IsList ax its := fun h' k => by obtain ⟨o, e, r⟩ := hl; exact ⟨o, k _ _ e, r⟩
  have W := Walks.list (prog := prog) (w := w) (A := A) hh I ax (Nat.ne_of_lt hlt) its
  have hke : (compEnvC scope ((x, I + 3) :: cl) C env).scope.kind = .function := by simp [compEnvC, relabel, hkind]
  have hkx : (compEnvC scope ((x, I + 3) :: cl) C env).kindOf x = some .cell := hx
  have hlk : (compEnvC scope ((x, I + 3) :: cl) C env).cells.lookup x = some (I + 3) := by simp [compEnvC]
  have loop : ∀ s₃ : Shared, s₃ = { s₁ with heap := H4 } →
      codeAny (model prog w) A (.compLoop (.ListComp (.Name x pe) [⟨.Name x px, iter, [ct], 0⟩] scope pos) 0 (.ref I) (.ref (I + 1)) (compEnvC scope ((x, I + 3) :: cl) C env))
        (compPost (model prog w) A E none Q (.ref (I + 1)) C) s₃ := by
    rintro s₃ rfl
    refine codeAny_compLoop_tests
      (fun k s' => ∃ h' tk i ys m' cv, s' = { s₁ with heap := h', toks := tk } ∧ i ≤ its.size ∧ k = its.size + 1 - i ∧ Kept f i ys ∧ h'.IsListIter I ax i ∧ Keeps s₁.heap h' ∧ h'.Ns C m' ∧ h'.IsCell (I + 3) cv ∧ h'.get? (I + 1) = some (lst ys)) ?_ (its.size + 1)
      ⟨H4, _, 0, [], _, _, rfl, Nat.zero_le _, rfl, Kept.zero, hit₁, old₁, hns₁, cellP, hacc⟩
    rintro k s' ⟨h', tk, i, ys, m', cv, rfl, hi, rfl, hy, hit', hK', hn', hc', hD'⟩
    by_cases hlt : i < its.size
    · refine W.item i _ _ _ hlt ⟨hit', hlax _ hK'⟩ fun v h₂ tk₂ hPv hst₂ hk₂ => ?_
      have hk₂' : ∀ b o, b ≠ I → h'.get? b = some o → h₂.get? b = some o := fun b o hb e => hk₂ b o (by simpa using hb) e
      have hc₂ : h₂.IsCell (I + 3) cv := by obtain ⟨o, e, r⟩ := hc'; exact ⟨o, hk₂' _ _ (Ne.symm hIK) e, r⟩
      refine wpAny_assign_Name (wpAny_storeName_cell hke hkx hlk hc₂ fun h₃ hc₃ hs₃ => ?_)
      refine wpAny_tests_one ?_
      have hK₃ : Keeps s₁.heap h₃ := fun b o e => hs₃.extBut b o (neI b o e).2.2.2 (hk₂' b o (neI b o e).1 (hK' b o e))
      have hit₃ : h₃.IsListIter I ax (i + 1) := by obtain ⟨o, e, r⟩ := hst₂.1; exact ⟨o, hs₃.extBut _ _ hIK e, r⟩
      have hD₃ : h₃.get? (I + 1) = some (lst ys) := hs₃.extBut _ _ hDK (hk₂' _ _ (Ne.symm hID) hD')
      have hn₃ : h₃.Ns C m' := (hn'.at' fun o e => hk₂' _ o (Ne.symm hIC) e).sameBut hs₃ hCK
      refine wpAny_mono (test i v h₃ _ C [I + 3] _ hPv hK₃ hC0 (fun K hK => by rw [List.mem_singleton.mp hK]; exact hK0) ⟨I + 3, rfl, hc₃⟩) (fun ok s₄ h₄ => ?_) fun _ _ e => e
      obtain ⟨rfl, h₄, tk₄, rfl, hK₄⟩ := h₄
      have hn₄ : h₄.Ns C _ := hn₃.at' fun o e => hK₄ _ _ e
      have hit₄ : h₄.IsListIter I ax (i + 1) := by obtain ⟨o, e, r⟩ := hit₃; exact ⟨o, hK₄ _ _ e, r⟩
      have hc₄ : h₄.IsCell (I + 3) (some v) := by obtain ⟨o, e, r⟩ := hc₃; exact ⟨o, hK₄ _ _ e, r⟩
      cases hfi : f i with
      | true =>
        rw [if_pos rfl]
        refine wpAny_Name (wpAny_loadName_cell hke hkx hlk hc₄ ?_) hdx
        refine append_at (hsz := by show ys.toArray.size ≤ sizeLine; rw [List.size_toArray]; exact Nat.le_trans (Nat.le_trans hy.1 hi) hsz) (hK₄ _ _ hD₃) fun h₅ hs₅ hD₅ => ?_
        exact ⟨its.size + 1 - (i + 1), by omega, h₅, tk₄, i + 1, ys ++ [v], _, _, rfl, hlt, rfl, hy.yes hfi, by obtain ⟨o, e, r⟩ := hit₄; exact ⟨o, hs₅.extBut _ _ hID e, r⟩,
          fun b o e => hs₅.extBut _ _ (neI b o e).2.1 (hK₄ _ _ (hK₃ b o e)), hn₄.sameBut hs₅ (Ne.symm hDC), by obtain ⟨o, e, r⟩ := hc₄; exact ⟨o, hs₅.extBut _ _ (Ne.symm hDK) e, r⟩, hD₅.trans (congrArg some (lst_snoc ys v))⟩
      | false =>
        rw [if_neg (by decide)]
        exact ⟨its.size + 1 - (i + 1), by omega, h₄, tk₄, i + 1, ys, _, _, rfl, hlt, rfl, hy.no hfi, hit₄, hK₃.trans hK₄, hn₄, hc₄, hK₄ _ _ hD₃⟩
    · obtain rfl : i = its.size := Nat.le_antisymm hi (Nat.not_lt.mp hlt)
      refine W.done _ _ _ ⟨hit', hlax _ hK'⟩ fun h₂ tk₂ hk₂ => ?_
      have hk₂' : ∀ b o, b ≠ I → h'.get? b = some o → h₂.get? b = some o := fun b o hb e => hk₂ b o (by simpa using hb) e
      refine ⟨m', hn'.at' fun o e => hk₂' _ o (Ne.symm hIC) e, fun h'' hs'' => hQ (I + 1) ys h'' tk₂ (fun b o e => hs''.extBut _ _ (neI b o e).2.2.1 (hk₂' _ _ (neI b o e).1 (hK' b o e))) hD0 ⟨_, hs''.extBut _ _ hDC (hk₂' _ _ (Ne.symm hID) hD'), rfl, _, rfl⟩ hy⟩
  exact codeAny_compStart_list (loop _ rfl) (W.self 0 _ _ _ ⟨hit₁, hlax _ old₁⟩ (loop _ rfl))
end
end Mine
namespace Mine
open PyProof.Rows.LCg
section
variable {prog : Program} {w : World} {A : Around} {E : Value → Shared → Prop} {s : Shared} {env : Env}
theorem comp_use {C D : Addr} {y : Str} {py : Pos} {m m' : Str → Option Value} {h : Heap} {tk : Nat} {s₁ : Shared} {its : Array Value} {Q : Flow → Shared → Prop} (hy : env.kindOf y = some .local) (hp : (env.scope.kind == .class || (env.scope.kind == .module && env.locals != env.globals)) = false)
    (hn : h.Ns env.locals m) (hC : h.Ns C m') (hCL : @Ne Nat C env.locals) (hDL : @Ne Nat D env.locals) (hDC : @Ne Nat D C) (hl : h.IsList D its)
    (k : ∀ h'' tk'', (∀ b o, b ≠ env.locals → b ≠ C → h.get? b = some o → h''.get? b = some o) → h''.Ns env.locals (fun z => if z = y then some (.ref D) else m z) → h''.IsList D its → Q .next { s₁ with heap := h'', toks := tk'' }) :
    compPost (model prog w) A E (some (assign (.Name y py) env)) (fun _ s' => Q .next s') (.ref D) C (.ok .next) { s₁ with heap := h, toks := tk } := by
  show wpAny _ A (assign (.Name y py) env (.ref D)) _ _ _
  refine wpAny_assign_Name (wpAny_storeName_local hy hn (fun h₂ hn₂ hs₂ => ?_) hp)
  refine ⟨m', hC.sameBut hs₂ hCL, fun h'' hs'' => k h'' _ (fun b o hb hb' e => hs''.extBut b o hb' (hs₂.extBut b o hb e)) (hn₂.sameBut hs'' (Ne.symm hCL)) ?_⟩
  obtain ⟨o, e, r⟩ := hl
  exact ⟨o, hs''.extBut _ _ hDC (hs₂.extBut _ _ hDL e), r⟩
def FiltSrcA (prog : Program) (w : World) (A : Around) (L : Addr) (m : Str → Option Value) (y : Str) (ct : Expr) (envOf' : Addr → List Addr → Env) (has : Addr → List Addr → Value → Heap → Prop) (f : Nat → Bool) (Q : Flow → Shared → Prop) (xv : Value) (s₁ : Shared) : Prop :=
  ∃ ax its, xv = .ref ax ∧ A.handled = none ∧ s₁.heap.IsList ax its ∧ its.size ≤ sizeLine ∧ s₁.heap.Ns L m ∧
    (∀ i v h tk C Ks (E' : Value → Shared → Prop), its[i]? = some v → Keeps s₁.heap h → s₁.heap.get? C = none → (∀ K ∈ Ks, s₁.heap.get? K = none) → has C Ks v h →
      wpAny (model prog w) A (isTrue ct (envOf' C Ks) (eval ct (envOf' C Ks))) (fun ok s' => ok = f i ∧ ∃ h' tk', s' = { s₁ with heap := h', toks := tk' } ∧ Keeps h h') E' { s₁ with heap := h, toks := tk }) ∧
    (∀ D ys h tk, (∀ b o, b ≠ L → s₁.heap.get? b = some o → h.get? b = some o) → s₁.heap.get? D = none → @Ne Nat D L → h.Ns L (fun z => if z = y then some (.ref D) else m z) → h.IsList D ys.toArray → Kept f its.size ys → Q .next { s₁ with heap := h, toks := tk })
theorem Assign_filtC {ct iter : Expr} {x y : Str} {px pe py : Pos} {scope : Scope} {cl : List (Str × Addr)} {pos spos : Pos} {Q : Flow → Shared → Prop} {f : Nat → Bool} {m : Str → Option Value}
    (_hn : s.heap.Ns env.locals m) (hsw : swapsWith (.ListComp (.Name x pe) [⟨.Name x px, iter, [ct], 0⟩] scope pos) (some (.Name y py)) spos.line env = pure true)
    (hclos : closureFor scope env = pure cl) (hkind : scope.kind = .function)
    (hnames : ∀ y ∈ scope.names, y.2 = .local → scope.names.lookup y.1 = some .local) (hcf : ∀ n, cellsFrom n scope.names cl = (x, n) :: cl) (hpc : ∀ h, pushCells h scope.names = h.push { cls := .type "cell", data := .cell none })
    (hx : (relabel scope env).names.lookup x = some .cell) (hdx : (x == ("__debug__" : Str)) = false)
    (hy : env.kindOf y = some .local) (hp : (env.scope.kind == .class || (env.scope.kind == .module && env.locals != env.globals)) = false)
    (h : wpAny (model prog w) A (eval iter env) (FiltSrcA prog w A env.locals m y ct (fun C Ks => compEnvC scope ((x, Ks.headD 0) :: cl) C env) (fun _ Ks v h => ∃ K, Ks = [K] ∧ h.IsCell K (some v)) f Q) E s)
    (hs : ∀ x, foldedSetIterable iter env x = pure x := by intro _; rfl) :
    wpAny (model prog w) A (exec (.Assign [.Name y py] (.ListComp (.Name x pe) [⟨.Name x px, iter, [ct], 0⟩] scope pos) spos) env) Q E s := by
  rw [exec_Assign_Name_used _ _ _ _ hsw]
  refine wpAny_bind (wpAny_standAt (wpAny_bind ?_))
  show wpAny _ A (do let _ ← comprehension (.ListComp (.Name x pe) [⟨.Name x px, iter, [ct], 0⟩] scope pos) scope env _ (newList []) false (eval iter env) (some (assign (.Name y py) env))) _ _ s
  refine wpAny_bind (wpAny_mono (wpAny_comprehension_free (use := some (assign (.Name y py) env)) (Q := fun _ s' => Q .next s') rfl hs hclos hkind hnames
    (wpAny_mono h (fun xv s₁ h₁ => ?_) fun _ _ e => e)) (fun _ s' hq => wpAny_pure (wpAny_pure hq)) fun _ _ e => e)
  obtain ⟨ax, its, rfl, hh, hl, hsz, hnL, test, hQ⟩ := h₁
  have hlt : ax < s₁.heap.objs.size := by obtain ⟨_, e, _⟩ := hl; exact Heap.lt_size e
  refine wpAny_pyIter_list hl ?_
  refine wpAny_newObj_type ?_
  dsimp only
  simp only [newFunctionEnv, Option.isSome_some, if_true]
  have hz1 : (s₁.heap.push { cls := .type "list_iterator", data := .fields #[.ref ax, .int 0 0] }).objs.size = s₁.heap.objs.size + 1 := Heap.size_push _ _
  have itP : (s₁.heap.push { cls := .type "list_iterator", data := .fields #[.ref ax, .int 0 0] }).IsListIter s₁.heap.objs.size ax 0 := ⟨_, Heap.get?_push_size _ rfl, rfl, rfl⟩
  have oldP : Keeps s₁.heap (s₁.heap.push { cls := .type "list_iterator", data := .fields #[.ref ax, .int 0 0] }) := fun b o e => Heap.get?_push_of_some _ e
  generalize hH1 : s₁.heap.push { cls := .type "list_iterator", data := .fields #[.ref ax, .int 0 0] } = H1 at *
  have accP : (H1.push { cls := .type "list", dict := none, data := .seq ([] : List Value).toArray }).get? (s₁.heap.objs.size + 1) = some (lst []) := by rw [← hz1]; exact Heap.get?_push_size _ rfl
  have up2 : Keeps H1 (H1.push { cls := .type "list", dict := none, data := .seq ([] : List Value).toArray }) := fun b o e => Heap.get?_push_of_some _ e
  generalize hH2 : H1.push { cls := .type "list", dict := none, data := .seq ([] : List Value).toArray } = H2 at *
  have hC : H2.objs.size = s₁.heap.objs.size + 2 := by rw [← hH2, Heap.size_push, hz1]
  refine wpAny_bind (wpAny_alloc ?_)
  refine wpAny_bind (wpAny_layCells _ (fun name kind cells => by cases hkc : kind == NameKind.cell <;> simp [hkc]) _ _ _ _ ?_)
  dsimp only
  rw [hcf, hpc]
  have nsP : (H2.push { cls := .type "dict", data := .dict #[] }).Ns H2.objs.size fun _ => none := Heap.Ns.new H2 (.type "dict")
  have up3 : Keeps H2 (H2.push { cls := .type "dict", data := .dict #[] }) := fun b o e => Heap.get?_push_of_some _ e
  have hz3 : (H2.push { cls := .type "dict", data := .dict #[] }).objs.size = s₁.heap.objs.size + 3 := by rw [Heap.size_push, hC]
  generalize hH3 : H2.push { cls := .type "dict", data := .dict #[] } = H3 at *
  have cellP : (H3.push { cls := .type "cell", data := .cell none }).IsCell H3.objs.size none := ⟨_, Heap.get?_push_size _ rfl, rfl⟩
  have up4 : Keeps H3 (H3.push { cls := .type "cell", data := .cell none }) := fun b o e => Heap.get?_push_of_some _ e
  generalize hH4 : H3.push { cls := .type "cell", data := .cell none } = H4 at *
  rw [hz1]
  rw [hz3] at cellP ⊢
  generalize hCC : H2.objs.size = C at *
  generalize hII : s₁.heap.objs.size = I at *
  simp only [List.forIn_nil]
  refine wpAny_bind (wpAny_pure (wpAny_pure ?_))
  have neI : ∀ b o, s₁.heap.get? b = some o → b ≠ I ∧ b ≠ I + 1 ∧ b ≠ C ∧ b ≠ I + 3 := fun b o e => by
    have := Heap.lt_size e
    rw [hII] at this
    have h' : (b : Nat) < I := this
    exact ⟨Nat.ne_of_lt h', Nat.ne_of_lt (Nat.lt_succ_of_lt h'), by rw [hC]; exact Nat.ne_of_lt (Nat.lt_succ_of_lt (Nat.lt_succ_of_lt h')), Nat.ne_of_lt (Nat.lt_add_right 3 h')⟩
  have hDC : @Ne Nat (I + 1) C := by rw [hC]; exact Nat.ne_of_lt (Nat.lt_succ_self _)
  have hIC : @Ne Nat I C := by rw [hC]; exact Nat.ne_of_lt (Nat.lt_succ_of_lt (Nat.lt_succ_self _))
  have hID : @Ne Nat I (I + 1) := Nat.ne_of_lt (Nat.lt_succ_self _)
  have hIK : @Ne Nat I (I + 3) := Nat.ne_of_lt (Nat.lt_add_of_pos_right (by decide))
  have hDK : @Ne Nat (I + 1) (I + 3) := Nat.ne_of_lt (Nat.add_lt_add_left (by decide) I)
  have hCK : @Ne Nat C (I + 3) := by rw [hC]; exact Nat.ne_of_lt (Nat.add_lt_add_left (by decide) I)
  have hC0 : s₁.heap.get? C = none := none_of_le (by rw [hII, hC]; exact Nat.le_add_right _ _)
  have hD0 : s₁.heap.get? (I + 1) = none := none_of_le (by rw [hII]; exact Nat.le_succ _)
  have hK0 : s₁.heap.get? (I + 3) = none := none_of_le (by rw [hII]; exact Nat.le_add_right _ _)
  have hacc : H4.get? (I + 1) = some (lst []) := up4 _ _ (up3 _ _ accP)
  have hns₁ : H4.Ns C fun _ => none := nsP.at' fun o e => up4 _ _ e
  have hit₁ : H4.IsListIter I ax 0 := by obtain ⟨o, e, r⟩ := itP; exact ⟨o, up4 _ _ (up3 _ _ (up2 _ _ e)), r⟩
  have old₁ : Keeps s₁.heap H4 := fun b o e => up4 _ _ (up3 _ _ (up2 _ _ (oldP b o e)))
  have hlax : ∀ h', Keeps s₁.heap h' → h'.IsList ax its := fun h' k => by obtain ⟨o, e, r⟩ := hl; exact ⟨o, k _ _ e, r⟩
  have W := Walks.list (prog := prog) (w := w) (A := A) hh I ax (Nat.ne_of_lt hlt) its
  have hke : (compEnvC scope ((x, I + 3) :: cl) C env).scope.kind = .function := by simp [compEnvC, relabel, hkind]
  have hkx : (compEnvC scope ((x, I + 3) :: cl) C env).kindOf x = some .cell := hx
  have hlk : (compEnvC scope ((x, I + 3) :: cl) C env).cells.lookup x = some (I + 3) := by simp [compEnvC]
  have loop : ∀ s₃ : Shared, s₃ = { s₁ with heap := H4 } →
      codeAny (model prog w) A (.compLoop (.ListComp (.Name x pe) [⟨.Name x px, iter, [ct], 0⟩] scope pos) 0 (.ref I) (.ref (I + 1)) (compEnvC scope ((x, I + 3) :: cl) C env))
        (compPost (model prog w) A E (some (assign (.Name y py) env)) (fun _ s' => Q .next s') (.ref (I + 1)) C) s₃ := by
    rintro s₃ rfl
    refine codeAny_compLoop_tests
      (fun k s' => ∃ h' tk i ys m' cv, s' = { s₁ with heap := h', toks := tk } ∧ i ≤ its.size ∧ k = its.size + 1 - i ∧ Kept f i ys ∧ h'.IsListIter I ax i ∧ Keeps s₁.heap h' ∧ h'.Ns C m' ∧ h'.IsCell (I + 3) cv ∧ h'.get? (I + 1) = some (lst ys)) ?_ (its.size + 1)
      ⟨H4, _, 0, [], _, _, rfl, Nat.zero_le _, rfl, Kept.zero, hit₁, old₁, hns₁, cellP, hacc⟩
    rintro k s' ⟨h', tk, i, ys, m', cv, rfl, hi, rfl, hy', hit', hK', hn', hc', hD'⟩
    by_cases hlt : i < its.size
    · refine W.item i _ _ _ hlt ⟨hit', hlax _ hK'⟩ fun v h₂ tk₂ hPv hst₂ hk₂ => ?_
      have hk₂' : ∀ b o, b ≠ I → h'.get? b = some o → h₂.get? b = some o := fun b o hb e => hk₂ b o (by simpa using hb) e
      have hc₂ : h₂.IsCell (I + 3) cv := by obtain ⟨o, e, r⟩ := hc'; exact ⟨o, hk₂' _ _ (Ne.symm hIK) e, r⟩
      refine wpAny_assign_Name (wpAny_storeName_cell hke hkx hlk hc₂ fun h₃ hc₃ hs₃ => ?_)
      refine wpAny_tests_one ?_
      have hK₃ : Keeps s₁.heap h₃ := fun b o e => hs₃.extBut b o (neI b o e).2.2.2 (hk₂' b o (neI b o e).1 (hK' b o e))
      have hit₃ : h₃.IsListIter I ax (i + 1) := by obtain ⟨o, e, r⟩ := hst₂.1; exact ⟨o, hs₃.extBut _ _ hIK e, r⟩
      have hD₃ : h₃.get? (I + 1) = some (lst ys) := hs₃.extBut _ _ hDK (hk₂' _ _ (Ne.symm hID) hD')
      have hn₃ : h₃.Ns C m' := (hn'.at' fun o e => hk₂' _ o (Ne.symm hIC) e).sameBut hs₃ hCK
      refine wpAny_mono (test i v h₃ _ C [I + 3] _ hPv hK₃ hC0 (fun K hK => by rw [List.mem_singleton.mp hK]; exact hK0) ⟨I + 3, rfl, hc₃⟩) (fun ok s₄ h₄ => ?_) fun _ _ e => e
      obtain ⟨rfl, h₄, tk₄, rfl, hK₄⟩ := h₄
      have hn₄ : h₄.Ns C _ := hn₃.at' fun o e => hK₄ _ _ e
      have hit₄ : h₄.IsListIter I ax (i + 1) := by obtain ⟨o, e, r⟩ := hit₃; exact ⟨o, hK₄ _ _ e, r⟩
      have hc₄ : h₄.IsCell (I + 3) (some v) := by obtain ⟨o, e, r⟩ := hc₃; exact ⟨o, hK₄ _ _ e, r⟩
      cases hfi : f i with
      | true =>
        rw [if_pos rfl]
        refine wpAny_Name (wpAny_loadName_cell hke hkx hlk hc₄ ?_) hdx
        refine append_at (hsz := by show ys.toArray.size ≤ sizeLine; rw [List.size_toArray]; exact Nat.le_trans (Nat.le_trans hy'.1 hi) hsz) (hK₄ _ _ hD₃) fun h₅ hs₅ hD₅ => ?_
        exact ⟨its.size + 1 - (i + 1), by omega, h₅, tk₄, i + 1, ys ++ [v], _, _, rfl, hlt, rfl, hy'.yes hfi, by obtain ⟨o, e, r⟩ := hit₄; exact ⟨o, hs₅.extBut _ _ hID e, r⟩,
          fun b o e => hs₅.extBut _ _ (neI b o e).2.1 (hK₄ _ _ (hK₃ b o e)), hn₄.sameBut hs₅ (Ne.symm hDC), by obtain ⟨o, e, r⟩ := hc₄; exact ⟨o, hs₅.extBut _ _ (Ne.symm hDK) e, r⟩, hD₅.trans (congrArg some (lst_snoc ys v))⟩
      | false =>
        rw [if_neg (by decide)]
        exact ⟨its.size + 1 - (i + 1), by omega, h₄, tk₄, i + 1, ys, _, _, rfl, hlt, rfl, hy'.no hfi, hit₄, hK₃.trans hK₄, hn₄, hc₄, hK₄ _ _ hD₃⟩
    · obtain rfl : i = its.size := Nat.le_antisymm hi (Nat.not_lt.mp hlt)
      refine W.done _ _ _ ⟨hit', hlax _ hK'⟩ fun h₂ tk₂ hk₂ => ?_
      have hk₂' : ∀ b o, b ≠ I → h'.get? b = some o → h₂.get? b = some o := fun b o hb e => hk₂ b o (by simpa using hb) e
      have hLlt : env.locals < s₁.heap.objs.size := hnL.lt
      rw [hII] at hLlt
      have hLlt' : (env.locals : Nat) < I := hLlt
      have hCL : @Ne Nat C env.locals := by rw [hC]; exact Nat.ne_of_gt (Nat.lt_succ_of_lt (Nat.lt_succ_of_lt hLlt'))
      have hDL : @Ne Nat (I + 1) env.locals := Nat.ne_of_gt (Nat.lt_succ_of_lt hLlt')
      have kp : Keeps s₁.heap h₂ := fun b o e => hk₂' _ _ (neI b o e).1 (hK' b o e)
      refine comp_use hy hp (hnL.at' fun o e => kp _ _ e) (hn'.at' fun o e => hk₂' _ o (Ne.symm hIC) e) hCL hDL hDC ⟨_, hk₂' _ _ (Ne.symm hID) hD', rfl, _, rfl⟩ fun h'' tk'' hk'' hn'' hD'' => ?_
      exact hQ (I + 1) ys h'' tk'' (fun b o hb e => hk'' b o hb (neI b o e).2.2.1 (kp b o e)) hD0 hDL hn'' hD'' hy'
  exact codeAny_compStart_list (loop _ rfl) (W.self 0 _ _ _ ⟨hit₁, hlax _ old₁⟩ (loop _ rfl))
/-- what a comprehension whose elements are ints wants behind its source -/
def MapSrcA (prog : Program) (w : World) (A : Around) (L : Addr) (m : Str → Option Value) (y : Str) (target elt : Expr) (envOf' : Addr → Env) (val : Nat → Int) (Q : Flow → Shared → Prop) (xv : Value) (s₁ : Shared) : Prop :=
  ∃ ax its, xv = .ref ax ∧ A.handled = none ∧ s₁.heap.IsList ax its ∧ its.size ≤ sizeLine ∧ s₁.heap.Ns L m ∧
    (∀ i v h tk C m₂ (E' : Value → Shared → Prop), its[i]? = some v → Keeps s₁.heap h → s₁.heap.get? C = none → h.Ns C m₂ →
      wpAny (model prog w) A (assign target (envOf' C) v) (fun _ s₂ => wpAny (model prog w) A (eval elt (envOf' C)) (fun r s₃ => ∃ h' tk' m₃ t, r = .int (val i) t ∧ s₃ = { s₁ with heap := h', toks := tk' } ∧ (∀ b o, b ≠ C → h.get? b = some o → h'.get? b = some o) ∧ h'.Ns C m₃) E' s₂) E' { s₁ with heap := h, toks := tk }) ∧
    (∀ D ys h tk, (∀ b o, b ≠ L → s₁.heap.get? b = some o → h.get? b = some o) → s₁.heap.get? D = none → @Ne Nat D L → h.Ns L (fun z => if z = y then some (.ref D) else m z) → h.get? D = some (lst ys) → IntsAre ys ((List.range its.size).map val) → Q .next { s₁ with heap := h, toks := tk })
theorem Assign_map {elt target iter : Expr} {y : Str} {py : Pos} {scope : Scope} {cl : List (Str × Addr)} {pos spos : Pos} {Q : Flow → Shared → Prop} {val : Nat → Int} {m : Str → Option Value}
    (_hn : s.heap.Ns env.locals m) (hsw : swapsWith (.ListComp elt [⟨target, iter, [], 0⟩] scope pos) (some (.Name y py)) spos.line env = pure true)
    (hclos : closureFor scope env = pure cl) (hcell : ∀ y ∈ scope.names, y.2 ≠ .cell) (hkind : scope.kind = .function)
    (hnames : ∀ y ∈ scope.names, y.2 = .local → scope.names.lookup y.1 = some .local)
    (hy : env.kindOf y = some .local) (hp : (env.scope.kind == .class || (env.scope.kind == .module && env.locals != env.globals)) = false)
    (h : wpAny (model prog w) A (eval iter env) (MapSrcA prog w A env.locals m y target elt (fun C => compEnvC scope cl C env) val Q) E s)
    (hs : ∀ x, foldedSetIterable iter env x = pure x := by intro _; rfl) :
    wpAny (model prog w) A (exec (.Assign [.Name y py] (.ListComp elt [⟨target, iter, [], 0⟩] scope pos) spos) env) Q E s := by
  rw [exec_Assign_Name_used _ _ _ _ hsw]
  refine wpAny_bind (wpAny_standAt (wpAny_bind ?_))
  show wpAny _ A (do let _ ← comprehension (.ListComp elt [⟨target, iter, [], 0⟩] scope pos) scope env _ (newList []) false (eval iter env) (some (assign (.Name y py) env))) _ _ s
  refine wpAny_bind (wpAny_mono (wpAny_comprehension_free (use := some (assign (.Name y py) env)) (Q := fun _ s' => Q .next s') rfl hs hclos hkind hnames
    (wpAny_mono h (fun xv s₁ h₁ => ?_) fun _ _ e => e)) (fun _ s' hq => wpAny_pure (wpAny_pure hq)) fun _ _ e => e)
  obtain ⟨ax, its, rfl, hh, hl, hsz, hnL, turn, hQ⟩ := h₁
  have hlt : ax < s₁.heap.objs.size := by obtain ⟨_, e, _⟩ := hl; exact Heap.lt_size e
  refine wpAny_pyIter_list hl ?_
  refine wpAny_newObj_type (wpAny_newFunctionEnv hcell (by intro y hy; simp at hy) (fun h₁ hns₁ hsb₁ => ?_) hkind)
  dsimp only at hns₁ hsb₁ ⊢
  have hz1 : (s₁.heap.push { cls := .type "list_iterator", data := .fields #[.ref ax, .int 0 0] }).objs.size = s₁.heap.objs.size + 1 := Heap.size_push _ _
  have itP : (s₁.heap.push { cls := .type "list_iterator", data := .fields #[.ref ax, .int 0 0] }).IsListIter s₁.heap.objs.size ax 0 := ⟨_, Heap.get?_push_size _ rfl, rfl, rfl⟩
  have oldP : Keeps s₁.heap (s₁.heap.push { cls := .type "list_iterator", data := .fields #[.ref ax, .int 0 0] }) := fun b o e => Heap.get?_push_of_some _ e
  generalize hH1 : s₁.heap.push { cls := .type "list_iterator", data := .fields #[.ref ax, .int 0 0] } = H1 at *
  generalize hH2 : H1.push { cls := .type "list", dict := none, data := .seq ([] : List Value).toArray } = H2 at *
  have hC : H2.objs.size = s₁.heap.objs.size + 2 := by rw [← hH2, Heap.size_push, hz1]
  generalize hCC : H2.objs.size = C at *
  generalize hII : s₁.heap.objs.size = I at *
  rw [hz1]
  have neI : ∀ b o, s₁.heap.get? b = some o → b ≠ I ∧ b ≠ I + 1 ∧ b ≠ C := fun b o e => by
    have := Heap.lt_size e
    rw [hII] at this
    have h' : (b : Nat) < I := this
    exact ⟨Nat.ne_of_lt h', Nat.ne_of_lt (Nat.lt_succ_of_lt h'), by rw [hC]; exact Nat.ne_of_lt (Nat.lt_succ_of_lt (Nat.lt_succ_of_lt h'))⟩
  have hDC : @Ne Nat (I + 1) C := by rw [hC]; exact Nat.ne_of_lt (Nat.lt_succ_self _)
  have hIC : @Ne Nat I C := by rw [hC]; exact Nat.ne_of_lt (Nat.lt_succ_of_lt (Nat.lt_succ_self _))
  have hID : @Ne Nat I (I + 1) := Nat.ne_of_lt (Nat.lt_succ_self _)
  have hC0 : s₁.heap.get? C = none := none_of_le (by rw [hII, hC]; exact Nat.le_add_right _ _)
  have hD0 : s₁.heap.get? (I + 1) = none := none_of_le (by rw [hII]; exact Nat.le_succ _)
  have up1 : ∀ b o, b ≠ C → H1.get? b = some o → h₁.get? b = some o := fun b o hb e => hsb₁.extBut b o hb (Heap.get?_push_of_some _ (hH2 ▸ Heap.get?_push_of_some _ e))
  have hacc : h₁.get? (I + 1) = some (lst []) := hsb₁.extBut _ _ hDC (Heap.get?_push_of_some _ (by rw [← hH2, ← hz1]; exact Heap.get?_push_size _ rfl))
  have hit₁ : h₁.IsListIter I ax 0 := by obtain ⟨o, e, r⟩ := itP; exact ⟨o, up1 _ _ hIC e, r⟩
  have old₁ : Keeps s₁.heap h₁ := fun b o e => up1 b o (neI b o e).2.2 (oldP b o e)
  have hlax : ∀ h', Keeps s₁.heap h' → h'.IsList ax its := fun h' k => by obtain ⟨o, e, r⟩ := hl; exact ⟨o, k _ _ e, r⟩
  have W := Walks.list (prog := prog) (w := w) (A := A) hh I ax (Nat.ne_of_lt hlt) its
  have hLlt : env.locals < s₁.heap.objs.size := hnL.lt
  rw [hII] at hLlt
  have hLlt' : (env.locals : Nat) < I := hLlt
  have hCL : @Ne Nat C env.locals := by rw [hC]; exact Nat.ne_of_gt (Nat.lt_succ_of_lt (Nat.lt_succ_of_lt hLlt'))
  have hDL : @Ne Nat (I + 1) env.locals := Nat.ne_of_gt (Nat.lt_succ_of_lt hLlt')
  have loop : ∀ s₃ : Shared, s₃ = { s₁ with heap := h₁, toks := s₁.toks + ([] : List (Str × Value)).length } →
      codeAny (model prog w) A (.compLoop (.ListComp elt [⟨target, iter, [], 0⟩] scope pos) 0 (.ref I) (.ref (I + 1)) (compEnvC scope cl C env))
        (compPost (model prog w) A E (some (assign (.Name y py) env)) (fun _ s' => Q .next s') (.ref (I + 1)) C) s₃ := by
    rintro s₃ rfl
    refine kcp_loop
      (fun k s' => ∃ h' tk i ys m', s' = { s₁ with heap := h', toks := tk } ∧ i ≤ its.size ∧ k = its.size + 1 - i ∧ ys.length = i ∧ IntsAre ys ((List.range i).map val) ∧ h'.IsListIter I ax i ∧ Keeps s₁.heap h' ∧ h'.Ns C m' ∧ h'.get? (I + 1) = some (lst ys)) ?_ (its.size + 1)
      ⟨h₁, _, 0, [], _, rfl, Nat.zero_le _, rfl, rfl, .nil, hit₁, old₁, hns₁, hacc⟩
    rintro k s' ⟨h', tk, i, ys, m', rfl, hi, rfl, hyl, hyi, hit', hK', hn', hD'⟩
    by_cases hlt : i < its.size
    · refine W.item i _ _ _ hlt ⟨hit', hlax _ hK'⟩ fun v h₂ tk₂ hPv hst₂ hk₂ => ?_
      have hk₂' : ∀ b o, b ≠ I → h'.get? b = some o → h₂.get? b = some o := fun b o hb e => hk₂ b o (by simpa using hb) e
      refine letGo_listiter hst₂.1 ?_
      have hK₂ : Keeps s₁.heap h₂ := fun b o e => hk₂' b o (neI b o e).1 (hK' b o e)
      have hn₂ : h₂.Ns C m' := hn'.at' fun o e => hk₂' _ o (Ne.symm hIC) e
      have hD₂ : h₂.get? (I + 1) = some (lst ys) := hk₂' _ _ (Ne.symm hID) hD'
      refine wpAny_mono (turn i v h₂ _ C m' _ hPv hK₂ hC0 hn₂) (fun _ s₂ h₃ => wpAny_mono h₃ (fun r s₃ h₄ => ?_) fun _ _ e => e) fun _ _ e => e
      obtain ⟨h₄, tk₄, m₃, t, rfl, rfl, hk₄, hn₄⟩ := h₄
      refine append_at (hsz := by show ys.toArray.size ≤ sizeLine; rw [List.size_toArray, hyl]; exact Nat.le_trans hi hsz) (hk₄ _ _ hDC hD₂) fun h₅ hs₅ hD₅ => ?_
      refine ⟨its.size + 1 - (i + 1), by omega, h₅, tk₄, i + 1, ys ++ [.int (val i) t], _, rfl, hlt, rfl, by rw [List.length_append, List.length_singleton, hyl], ?_, ?_,
          fun b o e => hs₅.extBut _ _ (neI b o e).2.1 (hk₄ _ _ (neI b o e).2.2 (hK₂ b o e)), hn₄.sameBut hs₅ (Ne.symm hDC), hD₅.trans (congrArg some (lst_snoc ys _))⟩
      · rw [List.range_succ, List.map_append]
        exact ints_snoc hyi
      · obtain ⟨o, e, r⟩ := hst₂.1
        exact ⟨o, hs₅.extBut _ _ hID (hk₄ _ _ hIC e), r⟩
    · obtain rfl : i = its.size := Nat.le_antisymm hi (Nat.not_lt.mp hlt)
      refine W.done _ _ _ ⟨hit', hlax _ hK'⟩ fun h₂ tk₂ hk₂ => ?_
      have hk₂' : ∀ b o, b ≠ I → h'.get? b = some o → h₂.get? b = some o := fun b o hb e => hk₂ b o (by simpa using hb) e
      have kp : Keeps s₁.heap h₂ := fun b o e => hk₂' _ _ (neI b o e).1 (hK' b o e)
      have hDD : h₂.get? (I + 1) = some (lst ys) := hk₂' _ _ (Ne.symm hID) hD'
      show wpAny _ A (assign (.Name y py) env (.ref (I + 1))) _ _ _
      refine wpAny_assign_Name (wpAny_storeName_local hy (hnL.at' fun o e => kp _ _ e) (fun h₃ hn₃ hs₃ => ?_) hp)
      refine ⟨m', (hn'.at' fun o e => hk₂' _ o (Ne.symm hIC) e).sameBut hs₃ hCL, fun h'' hs'' => hQ (I + 1) ys h'' _ (fun b o hb e => hs''.extBut _ _ (neI b o e).2.2 (hs₃.extBut _ _ hb (kp b o e))) hD0 hDL (hn₃.sameBut hs'' (Ne.symm hCL)) (hs''.extBut _ _ hDC (hs₃.extBut _ _ hDL hDD)) hyi⟩
  exact codeAny_compStart_list (loop _ rfl) (W.self 0 _ _ _ ⟨hit₁, hlax _ old₁⟩ (loop _ rfl))
/-- what a comprehension whose elements are ints wants behind its source -/
def MapSrc (prog : Program) (w : World) (A : Around) (target elt : Expr) (envOf' : Addr → Env) (val : Nat → Int) (Q : Value → Shared → Prop) (xv : Value) (s₁ : Shared) : Prop :=
  ∃ ax its, xv = .ref ax ∧ A.handled = none ∧ s₁.heap.IsList ax its ∧ its.size ≤ sizeLine ∧
    (∀ i v h tk C m₂ (E' : Value → Shared → Prop), its[i]? = some v → Keeps s₁.heap h → s₁.heap.get? C = none → h.Ns C m₂ →
      wpAny (model prog w) A (assign target (envOf' C) v) (fun _ s₂ => wpAny (model prog w) A (eval elt (envOf' C)) (fun r s₃ => ∃ h' tk' m₃ t, r = .int (val i) t ∧ s₃ = { s₁ with heap := h', toks := tk' } ∧ (∀ b o, b ≠ C → h.get? b = some o → h'.get? b = some o) ∧ h'.Ns C m₃) E' s₂) E' { s₁ with heap := h, toks := tk }) ∧
    (∀ D ys h tk, Keeps s₁.heap h → s₁.heap.get? D = none → h.get? D = some (lst ys) → IntsAre ys ((List.range its.size).map val) → Q (.ref D) { s₁ with heap := h, toks := tk })
theorem ListComp_map {elt target iter : Expr} {scope : Scope} {cl : List (Str × Addr)} {pos : Pos} {Q : Value → Shared → Prop} {val : Nat → Int}
    (hclos : closureFor scope env = pure cl) (hcell : ∀ y ∈ scope.names, y.2 ≠ .cell) (hkind : scope.kind = .function)
    (hnames : ∀ y ∈ scope.names, y.2 = .local → scope.names.lookup y.1 = some .local)
    (h : wpAny (model prog w) A (eval iter env) (MapSrc prog w A target elt (fun C => compEnvC scope cl C env) val Q) E s)
    (hs : ∀ x, foldedSetIterable iter env x = pure x := by intro _; rfl) :
    wpAny (model prog w) A (eval (.ListComp elt [⟨target, iter, [], 0⟩] scope pos) env) Q E s := by
  rw [eval_ListComp]
  refine wpAny_comprehension_free (use := none) rfl hs hclos hkind hnames (wpAny_mono h (fun xv s₁ h₁ => ?_) fun _ _ e => e)
  obtain ⟨ax, its, rfl, hh, hl, hsz, turn, hQ⟩ := h₁
  have hlt : ax < s₁.heap.objs.size := by obtain ⟨_, e, _⟩ := hl; exact Heap.lt_size e
  refine wpAny_pyIter_list hl ?_
  refine wpAny_newObj_type (wpAny_newFunctionEnv hcell (by intro y hy; simp at hy) (fun h₁ hns₁ hsb₁ => ?_) hkind)
  dsimp only at hns₁ hsb₁ ⊢
  have hz1 : (s₁.heap.push { cls := .type "list_iterator", data := .fields #[.ref ax, .int 0 0] }).objs.size = s₁.heap.objs.size + 1 := Heap.size_push _ _
  have itP : (s₁.heap.push { cls := .type "list_iterator", data := .fields #[.ref ax, .int 0 0] }).IsListIter s₁.heap.objs.size ax 0 := ⟨_, Heap.get?_push_size _ rfl, rfl, rfl⟩
  have oldP : Keeps s₁.heap (s₁.heap.push { cls := .type "list_iterator", data := .fields #[.ref ax, .int 0 0] }) := fun b o e => Heap.get?_push_of_some _ e
  generalize hH1 : s₁.heap.push { cls := .type "list_iterator", data := .fields #[.ref ax, .int 0 0] } = H1 at *
  generalize hH2 : H1.push { cls := .type "list", dict := none, data := .seq ([] : List Value).toArray } = H2 at *
  have hC : H2.objs.size = s₁.heap.objs.size + 2 := by rw [← hH2, Heap.size_push, hz1]
  generalize hCC : H2.objs.size = C at *
  generalize hII : s₁.heap.objs.size = I at *
  rw [hz1]
  have neI : ∀ b o, s₁.heap.get? b = some o → b ≠ I ∧ b ≠ I + 1 ∧ b ≠ C := fun b o e => by
    have := Heap.lt_size e
    rw [hII] at this
    have h' : (b : Nat) < I := this
    exact ⟨Nat.ne_of_lt h', Nat.ne_of_lt (Nat.lt_succ_of_lt h'), by rw [hC]; exact Nat.ne_of_lt (Nat.lt_succ_of_lt (Nat.lt_succ_of_lt h'))⟩
  have hDC : @Ne Nat (I + 1) C := by rw [hC]; exact Nat.ne_of_lt (Nat.lt_succ_self _)
  have hIC : @Ne Nat I C := by rw [hC]; exact Nat.ne_of_lt (Nat.lt_succ_of_lt (Nat.lt_succ_self _))
  have hID : @Ne Nat I (I + 1) := Nat.ne_of_lt (Nat.lt_succ_self _)
  have hC0 : s₁.heap.get? C = none := none_of_le (by rw [hII, hC]; exact Nat.le_add_right _ _)
  have hD0 : s₁.heap.get? (I + 1) = none := none_of_le (by rw [hII]; exact Nat.le_succ _)
  have up1 : ∀ b o, b ≠ C → H1.get? b = some o → h₁.get? b = some o := fun b o hb e => hsb₁.extBut b o hb (Heap.get?_push_of_some _ (hH2 ▸ Heap.get?_push_of_some _ e))
  have hacc : h₁.get? (I + 1) = some (lst []) := hsb₁.extBut _ _ hDC (Heap.get?_push_of_some _ (by rw [← hH2, ← hz1]; exact Heap.get?_push_size _ rfl))
  have hit₁ : h₁.IsListIter I ax 0 := by obtain ⟨o, e, r⟩ := itP; exact ⟨o, up1 _ _ hIC e, r⟩
  have old₁ : Keeps s₁.heap h₁ := fun b o e => up1 b o (neI b o e).2.2 (oldP b o e)
  have hlax : ∀ h', Keeps s₁.heap h' → h'.IsList ax its := fun h' k => by obtain ⟨o, e, r⟩ := hl; exact ⟨o, k _ _ e, r⟩
  have W := Walks.list (prog := prog) (w := w) (A := A) hh I ax (Nat.ne_of_lt hlt) its
  have loop : ∀ s₃ : Shared, s₃ = { s₁ with heap := h₁, toks := s₁.toks + ([] : List (Str × Value)).length } →
      codeAny (model prog w) A (.compLoop (.ListComp elt [⟨target, iter, [], 0⟩] scope pos) 0 (.ref I) (.ref (I + 1)) (compEnvC scope cl C env))
        (compPost (model prog w) A E none Q (.ref (I + 1)) C) s₃ := by
    rintro s₃ rfl
    refine kcp_loop
      (fun k s' => ∃ h' tk i ys m', s' = { s₁ with heap := h', toks := tk } ∧ i ≤ its.size ∧ k = its.size + 1 - i ∧ ys.length = i ∧ IntsAre ys ((List.range i).map val) ∧ h'.IsListIter I ax i ∧ Keeps s₁.heap h' ∧ h'.Ns C m' ∧ h'.get? (I + 1) = some (lst ys)) ?_ (its.size + 1)
      ⟨h₁, _, 0, [], _, rfl, Nat.zero_le _, rfl, rfl, .nil, hit₁, old₁, hns₁, hacc⟩
    rintro k s' ⟨h', tk, i, ys, m', rfl, hi, rfl, hyl, hyi, hit', hK', hn', hD'⟩
    by_cases hlt : i < its.size
    · refine W.item i _ _ _ hlt ⟨hit', hlax _ hK'⟩ fun v h₂ tk₂ hPv hst₂ hk₂ => ?_
      have hk₂' : ∀ b o, b ≠ I → h'.get? b = some o → h₂.get? b = some o := fun b o hb e => hk₂ b o (by simpa using hb) e
      refine letGo_listiter hst₂.1 ?_
      have hK₂ : Keeps s₁.heap h₂ := fun b o e => hk₂' b o (neI b o e).1 (hK' b o e)
      have hn₂ : h₂.Ns C m' := hn'.at' fun o e => hk₂' _ o (Ne.symm hIC) e
      have hD₂ : h₂.get? (I + 1) = some (lst ys) := hk₂' _ _ (Ne.symm hID) hD'
      refine wpAny_mono (turn i v h₂ _ C m' _ hPv hK₂ hC0 hn₂) (fun _ s₂ h₃ => wpAny_mono h₃ (fun r s₃ h₄ => ?_) fun _ _ e => e) fun _ _ e => e
      obtain ⟨h₄, tk₄, m₃, t, rfl, rfl, hk₄, hn₄⟩ := h₄
      refine append_at (hsz := by show ys.toArray.size ≤ sizeLine; rw [List.size_toArray, hyl]; exact Nat.le_trans hi hsz) (hk₄ _ _ hDC hD₂) fun h₅ hs₅ hD₅ => ?_
      refine ⟨its.size + 1 - (i + 1), by omega, h₅, tk₄, i + 1, ys ++ [.int (val i) t], _, rfl, hlt, rfl, by rw [List.length_append, List.length_singleton, hyl], ?_, ?_,
          fun b o e => hs₅.extBut _ _ (neI b o e).2.1 (hk₄ _ _ (neI b o e).2.2 (hK₂ b o e)), hn₄.sameBut hs₅ (Ne.symm hDC), hD₅.trans (congrArg some (lst_snoc ys _))⟩
      · rw [List.range_succ, List.map_append]
        exact ints_snoc hyi
      · obtain ⟨o, e, r⟩ := hst₂.1
        exact ⟨o, hs₅.extBut _ _ hID (hk₄ _ _ hIC e), r⟩
    · obtain rfl : i = its.size := Nat.le_antisymm hi (Nat.not_lt.mp hlt)
      refine W.done _ _ _ ⟨hit', hlax _ hK'⟩ fun h₂ tk₂ hk₂ => ?_
      have hk₂' : ∀ b o, b ≠ I → h'.get? b = some o → h₂.get? b = some o := fun b o hb e => hk₂ b o (by simpa using hb) e
      have kp : Keeps s₁.heap h₂ := fun b o e => hk₂' _ _ (neI b o e).1 (hK' b o e)
      have hDD : h₂.get? (I + 1) = some (lst ys) := hk₂' _ _ (Ne.symm hID) hD'
      exact ⟨m', hn'.at' fun o e => hk₂' _ o (Ne.symm hIC) e, fun h'' hs'' => hQ (I + 1) ys h'' tk₂ (fun b o e => hs''.extBut _ _ (neI b o e).2.2 (kp b o e)) hD0 (hs''.extBut _ _ hDC hDD) hyi⟩
  exact codeAny_compStart_list (loop _ rfl) (W.self 0 _ _ _ ⟨hit₁, hlax _ old₁⟩ (loop _ rfl))
/-- table[i][c] in a block: the table a cell of the def's, i a name of the block's -/
theorem pick {d i : Str} {p1 p2 p3 p4 p5 : Pos} {kk : Nat} {c : Int} {K Dr a : Addr} {cenv : Env} {m₂ : Str → Option Value} {refs its : Array Value} {k : Int} {t : Tok} {v : Value} {Q : Value → Shared → Prop}
    (hk : cenv.scope.kind = .function) (hd : cenv.kindOf d = some .cell) (hdd : (d == ("__debug__" : Str)) = false) (hcell : cenv.cells.lookup d = some K) (hK : s.heap.IsCell K (some (.ref Dr))) (hDr : s.heap.IsList Dr refs)
    (hi : cenv.kindOf i = some .local) (hdi : (i == ("__debug__" : Str)) = false) (hn : s.heap.Ns cenv.locals m₂) (hm : m₂ i = some (.int k t)) (h0 : 0 ≤ k) (hf : k < 2 ^ 63) (hk1 : refs[k.toNat]? = some (.ref a)) (ha : s.heap.IsList a its) (c0 : 0 ≤ c) (cf : c < 2 ^ 63) (hx : its[c.toNat]? = some v)
    (h : ∀ tk, Q v { s with toks := tk }) (hs1 : ∀ (u : Tok) (value slice : Expr), slice = .Name i p2 → subscripted slice false (.ref Dr) (.int k u) = operate [.ref Dr, .int k u] (getItem (.ref Dr) (.int k u)) := by intro _ _ _ e; subst e; with_unfolding_all rfl)
    (hs2 : ∀ (u : Tok) (slice : Expr), slice = .Constant (.int c) kk p4 → subscripted slice false (.ref a) (.int c u) = operate [.ref a, .int c u] (getItem (.ref a) (.int c u)) := by intro _ _ e; subst e; with_unfolding_all rfl) :
    wpAny (model prog w) A (eval (.Subscript (.Subscript (.Name d p1) (.Name i p2) p3) (.Constant (.int c) kk p4) p5) cenv) Q E s := by
  refine Subscript_ (Subscript_ (wpAny_Name (wpAny_loadName_cell hk hd hcell hK ?_) hdd))
  refine wpAny_Name (wpAny_loadName_local hk hi hn hm ?_) hdi
  refine tail_any hDr.typeIs slot_list_getitem.lookup (wpAny_getItem_list hDr h0 hf hk1 ?_) (hs1 t (.Name d p1) _ rfl)
  refine wpAny_Constant_int ?_
  exact tail_any (s := { s with toks := s.toks + 1 }) (show Heap.IsList _ _ _ from ha).typeIs slot_list_getitem.lookup (wpAny_getItem_list (s := { s with toks := s.toks + 1 }) ha c0 cf hx (h _)) (hs2 _ _ rfl)
theorem sum_turn {s₁ : Shared} {h : Heap} {tk : Nat} {cenv : Env} {K Dr T x y z : Addr} {d a b c : Str} {pa pb pc tp p1 p2 p3 p4 p5 q1 q2 q3 q4 q5 r1 r2 r3 r4 r5 o1 o2 : Pos} {kk k1 k2 k3 : Nat} {m₂ : Str → Option Value} {E' : Value → Shared → Prop} {ka kb kc vx vy vz val : Int} {ta tb tc tx ty tz : Tok} {refs X Y Z : Array Value}
    (hh : A.handled = none) (hk : cenv.scope.kind = .function) (hd : cenv.kindOf d = some .cell) (hdd : (d == ("__debug__" : Str)) = false) (hcl : cenv.cells.lookup d = some K) (ha : cenv.kindOf a = some .local) (hb : cenv.kindOf b = some .local) (hc : cenv.kindOf c = some .local)
    (hp : (cenv.scope.kind == .class || (cenv.scope.kind == .module && cenv.locals != cenv.globals)) = false) (hab : ¬ a = b) (hac : ¬ a = c) (hbc : ¬ b = c) (da : (a == ("__debug__" : Str)) = false) (db : (b == ("__debug__" : Str)) = false) (dc : (c == ("__debug__" : Str)) = false)
    (hKs : Keeps s₁.heap h) (hC0 : s₁.heap.get? cenv.locals = none) (hn : h.Ns cenv.locals m₂)
    (gK : s₁.heap.IsCell K (some (.ref Dr))) (gD : s₁.heap.IsList Dr refs) (gT : s₁.heap.IsTuple T #[.int ka ta, .int kb tb, .int kc tc])
    (a0 : 0 ≤ ka ∧ ka < 2 ^ 63) (b0 : 0 ≤ kb ∧ kb < 2 ^ 63) (c0 : 0 ≤ kc ∧ kc < 2 ^ 63) (rx : refs[ka.toNat]? = some (.ref x)) (ry : refs[kb.toNat]? = some (.ref y)) (rz : refs[kc.toNat]? = some (.ref z))
    (gx : s₁.heap.IsList x X) (gy : s₁.heap.IsList y Y) (gz : s₁.heap.IsList z Z) (ex : X[(0 : Int).toNat]? = some (.int vx tx)) (ey : Y[(1 : Int).toNat]? = some (.int vy ty)) (ez : Z[(2 : Int).toNat]? = some (.int vz tz)) (e : vx + vy + vz = val) :
    wpAny (model prog w) A (assign (.Tuple [.Name a pa, .Name b pb, .Name c pc] kk tp) cenv (.ref T)) (fun _ s₂ => wpAny (model prog w) A (eval (.BinOp (.BinOp (.Subscript (.Subscript (.Name d p1) (.Name a p2) p3) (.Constant (.int 0) k1 p4) p5) .Add (.Subscript (.Subscript (.Name d q1) (.Name b q2) q3) (.Constant (.int 1) k2 q4) q5) o1) .Add (.Subscript (.Subscript (.Name d r1) (.Name c r2) r3) (.Constant (.int 2) k3 r4) r5) o2) cenv)
      (fun r s₃ => ∃ h' tk' m₃ t, r = .int val t ∧ s₃ = { s₁ with heap := h', toks := tk' } ∧ (∀ b o, b ≠ cenv.locals → h.get? b = some o → h'.get? b = some o) ∧ h'.Ns cenv.locals m₃) E' s₂) E' { s₁ with heap := h, toks := tk } := by
  subst e
  have neC : ∀ b o, s₁.heap.get? b = some o → b ≠ cenv.locals := fun b o e q => by rw [q, hC0] at e; cases e
  obtain ⟨oT, eT, rT⟩ := gT
  refine wpAny_assign_Tuple hh ⟨oT, hKs _ _ eT, rT⟩ rfl rfl fun h₁ he₁ => ?_
  have hL : cenv.locals ≠ h.objs.size := Nat.ne_of_lt hn.lt
  have hn₁ : h₁.Ns cenv.locals m₂ := hn.at' fun o e => he₁ _ o hL e
  have up₁ : ∀ c o, h.get? c = some o → h₁.get? c = some o := fun c o e => he₁ c o (Nat.ne_of_lt (Heap.lt_size e)) e
  show wpAny _ _ (assignInOrder [assign (.Name a pa) cenv, assign (.Name b pb) cenv, assign (.Name c pc) cenv] [_, _, _]) _ _ _
  refine assignInOrder_cons (wpAny_assign_Name (wpAny_storeName_local ha hn₁ (fun h₂ hn₂ hs₂ => ?_) hp))
  refine assignInOrder_cons (wpAny_assign_Name (wpAny_storeName_local hb hn₂ (fun h₃ hn₃ hs₃ => ?_) hp))
  refine assignInOrder_cons (wpAny_assign_Name (wpAny_storeName_local hc hn₃ (fun h₄ hn₄ hs₄ => ?_) hp))
  refine assignInOrder_nil ?_
  have up : ∀ b o, b ≠ cenv.locals → h.get? b = some o → h₄.get? b = some o := fun b o hb e => hs₄.extBut b o hb (hs₃.extBut b o hb (hs₂.extBut b o hb (up₁ b o e)))
  have up' : ∀ b o, s₁.heap.get? b = some o → h₄.get? b = some o := fun b o e => up b o (neC b o e) (hKs b o e)
  have gK' : h₄.IsCell K (some (.ref Dr)) := by obtain ⟨o, e, r⟩ := gK; exact ⟨o, up' _ _ e, r⟩
  have lst' : ∀ {l : Addr} {its : Array Value}, s₁.heap.IsList l its → h₄.IsList l its := fun {l its} g => by obtain ⟨o, e, r⟩ := g; exact ⟨o, up' _ _ e, r⟩
  have ma : (fun z => if z = c then some (Value.int kc tc) else if z = b then some (Value.int kb tb) else if z = a then some (Value.int ka ta) else m₂ z) a = some (.int ka ta) := by simp [hab, hac]
  have mb : (fun z => if z = c then some (Value.int kc tc) else if z = b then some (Value.int kb tb) else if z = a then some (Value.int ka ta) else m₂ z) b = some (.int kb tb) := by simp [hbc]
  have mc : (fun z => if z = c then some (Value.int kc tc) else if z = b then some (Value.int kb tb) else if z = a then some (Value.int ka ta) else m₂ z) c = some (.int kc tc) := by simp
  refine wpAny_BinOp (wpAny_BinOp (pick hk hd hdd hcl gK' (lst' gD) ha da hn₄ ma a0.1 a0.2 rx (lst' gx) (by decide) (by decide) ex fun tk1 => ?_))
  refine pick hk hd hdd hcl gK' (lst' gD) hb db hn₄ mb b0.1 b0.2 ry (lst' gy) (by decide) (by decide) ey fun tk2 => ?_
  refine PySem.P.add_int ?_
  refine pick hk hd hdd hcl gK' (lst' gD) hc dc hn₄ mc c0.1 c0.2 rz (lst' gz) (by decide) (by decide) ez fun tk3 => ?_
  refine PySem.P.add_int ?_
  exact ⟨h₄, _, _, _, rfl, rfl, up, hn₄⟩
end
end Mine
namespace Mine
open PyProof.Rows.LCg
theorem map_fr {h₀ h h' : Heap} {L : Addr} {m m' : Str → Option Value} (F : Fr h₀ L h m) (hk : ∀ b o, b ≠ L → h.get? b = some o → h'.get? b = some o) (hn : h'.Ns L m') : Fr h₀ L h' m' :=
  ⟨hn, fun b o e => hk b o (fun q => by rw [q, Heap.get?_none_of_le F.above] at e; cases e) (F.keep b o e), F.above⟩
theorem map_news {h₀ h h' : Heap} {L D : Addr} {m : Str → Option Value} {o : Obj} {news : List (Addr × Obj)} (F : Fr h₀ L h m) (N : News h₀ L h news) (hk : ∀ b o, b ≠ L → h.get? b = some o → h'.get? b = some o) (hD : h.get? D = none) (hDL : @Ne Nat D L) (hl : h'.get? D = some o) : News h₀ L h' ((D, o) :: news) := fun p hp => by
  rcases List.mem_cons.mp hp with rfl | hp
  · refine ⟨hl, hDL, ?_⟩
    cases q : h₀.get? D with
    | none => rfl
    | some o' => have := F.keep _ _ q; rw [hD] at this; cases this
  · exact ⟨hk _ _ (N p hp).2.1 (N p hp).1, (N p hp).2⟩
theorem ints6 {ys : List Value} {a b c d e f : Int} (h : IntsAre ys [a, b, c, d, e, f]) : ∃ w0 w1 w2 w3 w4 w5, ys = [.int a w0, .int b w1, .int c w2, .int d w3, .int e w4, .int f w5] := by
  cases h with
  | cons _ w0 h => cases h with
    | cons _ w1 h => cases h with
      | cons _ w2 h => cases h with
        | cons _ w3 h => cases h with
          | cons _ w4 h => cases h with
            | cons _ w5 h => cases h; exact ⟨w0, w1, w2, w3, w4, w5, rfl⟩
end Mine
namespace Mine
open PyProof.Rows.LCg
theorem List_nil' {prog : Program} {w : World} {A : Around} {E : Value → Shared → Prop} {s : Shared} {env : Env} {pos : Pos} {Q : Value → Shared → Prop} (h : Q (.ref s.heap.objs.size) { s with heap := s.heap.push { cls := .type "list", data := .seq #[] } }) :
    wpAny (model prog w) A (eval (.List [] pos) env) Q E s := wpAny_List (show wpAny _ _ (spliced []) _ _ _ from spliced_nil ⟨Nat.zero_le _, h⟩)
end Mine
namespace Mine
open PyProof.Rows.LCg
theorem tup_of {h₀ h : Heap} {L T : Addr} {its : Array Value} {n : Nat} {news : List (Addr × Obj)} (N : News h₀ L h news) (hm : (T, ({ cls := .type "tuple", data := .seq its n } : Obj)) ∈ news) : h.IsTuple T its := ⟨_, (N _ hm).1, rfl, _, rfl⟩
theorem cell_of {h₀ h : Heap} {L K : Addr} {o : Obj} {v : Option Value} {news : List (Addr × Obj)} (hd : o.data = .cell v) (N : News h₀ L h news) (hm : (K, o) ∈ news) : h.IsCell K v := ⟨_, (N _ hm).1, hd⟩
end Mine
namespace Mine
open PyProof.Rows.LCg
theorem news_pick10 {h₀ h : Heap} {L : Addr} {d6 o t1 t2 t3 t4 t5 t6 S b2 b1 b0 a2 a1 a0 d k : Addr × Obj} (N : News h₀ L h [d6, o, t1, t2, t3, t4, t5, t6, S, b2, b1, b0, a2, a1, a0, d, k]) : News h₀ L h [d6, S, b2, b1, b0, a2, a1, a0, d, k] := fun p hp => N p (by
  simp only [List.mem_cons, List.not_mem_nil, or_false] at hp ⊢
  rcases hp with h | h | h | h | h | h | h | h | h | h <;> simp [h])
theorem cell_up {h h' : Heap} {K : Addr} {v : Option Value} (g : h.IsCell K v) (k : Keeps h h') : h'.IsCell K v := by obtain ⟨o, e, r⟩ := g; exact ⟨o, k _ _ e, r⟩
theorem list_up {h h' : Heap} {l : Addr} {its : Array Value} (g : h.IsList l its) (k : Keeps h h') : h'.IsList l its := by obtain ⟨o, e, r⟩ := g; exact ⟨o, k _ _ e, r⟩
theorem news_new {h₀ h h2 : Heap} {L C : Addr} {m : Str → Option Value} {o : Obj} (F : Fr h₀ L h m) (hC : h.get? C = none) (e : h2.get? C = some o) : h2.get? C = some o ∧ C ≠ L ∧ h₀.get? C = none := by
  refine ⟨e, fun q => ?_, ?_⟩
  · obtain ⟨oL, _, _, hL, _⟩ := F.ns
    rw [← q, hC] at hL; cases hL
  · cases q : h₀.get? C with
    | none => rfl
    | some o' => have := F.keep _ _ q; rw [hC] at this; cases this
theorem news4 {h₀ h h2 : Heap} {L C K a st : Addr} {m : Str → Option Value} {oC oK oa os : Obj} {news : List (Addr × Obj)} (F : Fr h₀ L h m) (N : News h₀ L h news) (k : Keeps h h2) (hC : h.get? C = none) (eC : h2.get? C = some oC) (hK : h.get? K = none) (eK : h2.get? K = some oK) (ha : (a, oa) ∈ news) (hs : (st, os) ∈ news) :
    News h₀ L h2 [(C, oC), (K, oK), (a, oa), (st, os)] := fun p hp => by
  simp only [List.mem_cons, List.not_mem_nil, or_false] at hp
  rcases hp with rfl | rfl | rfl | rfl
  · exact news_new F hC eC
  · exact news_new F hK eK
  · exact ⟨k _ _ (N _ ha).1, (N _ ha).2⟩
  · exact ⟨k _ _ (N _ hs).1, (N _ hs).2⟩
theorem kept3 {b0 b1 b2 : Bool} {ys : List Value} (h : Kept (fun j => [!b0, !b1, !b2].getD j false) 3 ys) : decide (ys = []) = (b0 && b1 && b2) := by
  have k := h.2
  have q : (∀ j, j < 3 → [!b0, !b1, !b2].getD j false = false) ↔ (b0 && b1 && b2) = true := by
    constructor
    · intro q
      have q0 : (!b0) = false := q 0 (by decide)
      have q1 : (!b1) = false := q 1 (by decide)
      have q2 : (!b2) = false := q 2 (by decide)
      clear q k h
      revert q0 q1 q2
      cases b0 <;> cases b1 <;> cases b2 <;> decide
    · intro q j hj
      have q' : b0 = true ∧ b1 = true ∧ b2 = true := by clear k h; revert q; cases b0 <;> cases b1 <;> cases b2 <;> decide
      obtain ⟨rfl, rfl, rfl⟩ := q'
      rcases (show j = 0 ∨ j = 1 ∨ j = 2 by omega) with rfl | rfl | rfl <;> rfl
  have e : (ys = []) ↔ (b0 && b1 && b2) = true := k.trans q
  cases hb : (b0 && b1 && b2)
  · exact decide_eq_false fun x => by rw [e.mp x] at hb; cases hb
  · exact decide_eq_true (e.mpr hb)
end Mine
namespace Mine
open PyProof.Rows.LCg
theorem mem_of_news {h₀ h : Heap} {L : Addr} {news : List (Addr × Obj)} {p : Addr × Obj} (_N : News h₀ L h news) (hm : p ∈ news) : p ∈ news := hm
end Mine
namespace Mine
open PyProof.Rows.LCg
theorem name_news {h₀ h : Heap} {L : Addr} {news : List (Addr × Obj)} (N : News h₀ L h news) : ∃ nw, nw = news ∧ News h₀ L h nw := ⟨_, rfl, N⟩
theorem mem_eq {nw news : List (Addr × Obj)} {p : Addr × Obj} (h : nw = news) (hm : p ∈ news) : p ∈ nw := h ▸ hm
end Mine
namespace Mine
open PyProof.Rows.LCg
theorem ne_nilN {prog : Program} {w : World} {A : Around} {E : Value → Shared → Prop} {s : Shared} {h₀ : Heap} {L a b : Addr} {ys : List Value} {o : Obj} {n c : Nat} {news : List (Addr × Obj)} {Q : Value → Shared → Prop} (N : News h₀ L s.heap news) (hm : (a, o) ∈ news) (hc : o.cls = .type "list") (hd : o.data = .seq ys.toArray n) (hm2 : (b, listOf #[] c) ∈ news) (hu : A.units < cLine)
    (h : Q (.bool (decide (ys ≠ []))) s) : wpAny (model prog w) A (compareOp .NotEq (.ref a) (.ref b)) Q E s :=
  ne_nil ⟨_, (N _ hm).1, hc, _, hd⟩ (News.isList N hm2) hu h
theorem news_pick2 {h₀ h : Heap} {L : Addr} {a b : Addr × Obj} {r : List (Addr × Obj)} (N : News h₀ L h (a :: b :: r)) : News h₀ L h [a, b] := fun p hp => N p (by
  simp only [List.mem_cons, List.not_mem_nil, or_false] at hp ⊢
  rcases hp with h | h <;> simp [h])
end Mine
namespace Mine
open PyProof.Rows.LCg
theorem news_seg1 {h₀ h : Heap} {L : Addr} {d t1 t2 t3 : Addr × Obj} {nw : List (Addr × Obj)} (N : News h₀ L h (d :: t1 :: t2 :: t3 :: nw)) : News h₀ L h (d :: nw) := fun p hp => by
  rcases List.mem_cons.mp hp with rfl | q
  · exact N _ (.head _)
  · exact N p (.tail _ (.tail _ (.tail _ (.tail _ q))))
end Mine
namespace Mine
open PyProof.Rows.LCg
section
variable {prog : Program} {w : World} {A : Around} {E : Value → Shared → Prop} {s : Shared}
/-- list[i] in a block: the list in a cell of the def's, i a name of the block's -/
theorem pick1 {d i : Str} {p1 p2 p3 : Pos} {K Dr : Addr} {cenv : Env} {m₂ : Str → Option Value} {its : Array Value} {k : Int} {t : Tok} {v : Value} {Q : Value → Shared → Prop}
    (hk : cenv.scope.kind = .function) (hd : cenv.kindOf d = some .cell) (hdd : (d == ("__debug__" : Str)) = false) (hcell : cenv.cells.lookup d = some K) (hK : s.heap.IsCell K (some (.ref Dr))) (hDr : s.heap.IsList Dr its)
    (hi : cenv.kindOf i = some .local) (hdi : (i == ("__debug__" : Str)) = false) (hn : s.heap.Ns cenv.locals m₂) (hm : m₂ i = some (.int k t)) (h0 : 0 ≤ k) (hf : k < 2 ^ 63) (hx : its[k.toNat]? = some v)
    (h : Q v s) (hs1 : ∀ (u : Tok) (slice : Expr), slice = .Name i p2 → subscripted slice false (.ref Dr) (.int k u) = operate [.ref Dr, .int k u] (getItem (.ref Dr) (.int k u)) := by intro _ _ e; subst e; with_unfolding_all rfl) :
    wpAny (model prog w) A (eval (.Subscript (.Name d p1) (.Name i p2) p3) cenv) Q E s := by
  refine Subscript_ (wpAny_Name (wpAny_loadName_cell hk hd hcell hK ?_) hdd)
  refine wpAny_Name (wpAny_loadName_local hk hi hn hm ?_) hdi
  exact tail_any hDr.typeIs slot_list_getitem.lookup (wpAny_getItem_list hDr h0 hf hx h) (hs1 t _ rfl)
theorem third_turn {s₁ : Shared} {h : Heap} {tk : Nat} {cenv : Env} {Ka Kb x y T : Addr} {d d' a b mx : Str} {pa pb tp p1 p2 p3 q1 q2 q3 r1 r2 r3 t1 t2 t3 o1 o2 o3 o4 o5 : Pos} {kk : Nat} {m₂ : Str → Option Value} {E' : Value → Shared → Prop} {ka kb c0 c1 e0 e1 val : Int} {ta tb u0 u1 u2 u3 : Tok} {X Y : Array Value}
    (hh : A.handled = none) (hk : cenv.scope.kind = .function) (hd : cenv.kindOf d = some .cell) (hdd : (d == ("__debug__" : Str)) = false) (hcl : cenv.cells.lookup d = some Ka) (hd' : cenv.kindOf d' = some .cell) (hdd' : (d' == ("__debug__" : Str)) = false) (hcl' : cenv.cells.lookup d' = some Kb)
    (ha : cenv.kindOf a = some .local) (hb : cenv.kindOf b = some .local) (hp : (cenv.scope.kind == .class || (cenv.scope.kind == .module && cenv.locals != cenv.globals)) = false) (hab : ¬ a = b) (da : (a == ("__debug__" : Str)) = false) (db : (b == ("__debug__" : Str)) = false)
    (hmx : ∀ (s' : Shared) (Q : Value → Shared → Prop), Keeps s₁.heap s'.heap → Q (.builtin "max") s' → wpAny (model prog w) A (eval (.Name mx o1) cenv) Q E' s')
    (hKs : Keeps s₁.heap h) (hC0 : s₁.heap.get? cenv.locals = none) (hn : h.Ns cenv.locals m₂)
    (gA : s₁.heap.IsCell Ka (some (.ref x))) (gB : s₁.heap.IsCell Kb (some (.ref y))) (gX : s₁.heap.IsList x X) (gY : s₁.heap.IsList y Y) (gT : s₁.heap.IsTuple T #[.int ka ta, .int kb tb])
    (a0 : 0 ≤ ka ∧ ka < 2 ^ 63) (b0 : 0 ≤ kb ∧ kb < 2 ^ 63) (x0 : X[ka.toNat]? = some (.int c0 u0)) (x1 : X[kb.toNat]? = some (.int c1 u1)) (y0 : Y[ka.toNat]? = some (.int e0 u2)) (y1 : Y[kb.toNat]? = some (.int e1 u3)) (e : -max (c0 + e1) (c1 + e0) = val)
    (hst : starEach [.BinOp (.Subscript (.Name d p1) (.Name a p2) p3) .Add (.Subscript (.Name d' q1) (.Name b q2) q3) o2, .BinOp (.Subscript (.Name d r1) (.Name b r2) r3) .Add (.Subscript (.Name d' t1) (.Name a t2) t3) o3] cenv =
      [(false, eval (.BinOp (.Subscript (.Name d p1) (.Name a p2) p3) .Add (.Subscript (.Name d' q1) (.Name b q2) q3) o2) cenv), (false, eval (.BinOp (.Subscript (.Name d r1) (.Name b r2) r3) .Add (.Subscript (.Name d' t1) (.Name a t2) t3) o3) cenv)]) :
    wpAny (model prog w) A (assign (.Tuple [.Name a pa, .Name b pb] kk tp) cenv (.ref T)) (fun _ s₂ => wpAny (model prog w) A (eval (.UnaryOp .USub (.Call (.Name mx o1) [.BinOp (.Subscript (.Name d p1) (.Name a p2) p3) .Add (.Subscript (.Name d' q1) (.Name b q2) q3) o2, .BinOp (.Subscript (.Name d r1) (.Name b r2) r3) .Add (.Subscript (.Name d' t1) (.Name a t2) t3) o3] [] o4) o5) cenv)
      (fun r s₃ => ∃ h' tk' m₃ t, r = .int val t ∧ s₃ = { s₁ with heap := h', toks := tk' } ∧ (∀ b o, b ≠ cenv.locals → h.get? b = some o → h'.get? b = some o) ∧ h'.Ns cenv.locals m₃) E' s₂) E' { s₁ with heap := h, toks := tk } := by
  subst e
  have neC : ∀ b o, s₁.heap.get? b = some o → b ≠ cenv.locals := fun b o e q => by rw [q, hC0] at e; cases e
  obtain ⟨oT, eT, rT⟩ := gT
  refine wpAny_assign_Tuple hh ⟨oT, hKs _ _ eT, rT⟩ rfl rfl fun h₁ he₁ => ?_
  have hL : cenv.locals ≠ h.objs.size := Nat.ne_of_lt hn.lt
  have hn₁ : h₁.Ns cenv.locals m₂ := hn.at' fun o e => he₁ _ o hL e
  have up₁ : ∀ c o, h.get? c = some o → h₁.get? c = some o := fun c o e => he₁ c o (Nat.ne_of_lt (Heap.lt_size e)) e
  show wpAny _ _ (assignInOrder [assign (.Name a pa) cenv, assign (.Name b pb) cenv] [_, _]) _ _ _
  refine assignInOrder_cons (wpAny_assign_Name (wpAny_storeName_local ha hn₁ (fun h₂ hn₂ hs₂ => ?_) hp))
  refine assignInOrder_cons (wpAny_assign_Name (wpAny_storeName_local hb hn₂ (fun h₃ hn₃ hs₃ => ?_) hp))
  refine assignInOrder_nil ?_
  have up : ∀ b o, b ≠ cenv.locals → h.get? b = some o → h₃.get? b = some o := fun b o hb e => hs₃.extBut b o hb (hs₂.extBut b o hb (up₁ b o e))
  have up' : Keeps s₁.heap h₃ := fun b o e => up b o (neC b o e) (hKs b o e)
  have ma : (fun z => if z = b then some (Value.int kb tb) else if z = a then some (Value.int ka ta) else m₂ z) a = some (.int ka ta) := by simp [hab]
  have mb : (fun z => if z = b then some (Value.int kb tb) else if z = a then some (Value.int ka ta) else m₂ z) b = some (.int kb tb) := by simp
  have gA' := cell_up gA up'
  have gB' := cell_up gB up'
  have gX' := list_up gX up'
  have gY' := list_up gY up'
  refine UnaryOp_ (Call_Name2 (hmx _ _ up' ?_) hst)
  refine callWith_builtin1 (rest := [_]) ?_ (by rw [hst]; rfl) (by rfl)
  rw [hst]
  refine spliced_cons ?_
  refine wpAny_BinOp (pick1 hk hd hdd hcl gA' gX' ha da hn₃ ma a0.1 a0.2 x0 ?_)
  refine pick1 hk hd' hdd' hcl' gB' gY' hb db hn₃ mb b0.1 b0.2 y1 ?_
  refine PySem.P.add_int ?_
  refine spliced_cons ?_
  refine wpAny_BinOp (pick1 hk hd hdd hcl gA' gX' hb db hn₃ mb b0.1 b0.2 x1 ?_)
  refine pick1 hk hd' hdd' hcl' gB' gY' ha da hn₃ ma a0.1 a0.2 y0 ?_
  refine PySem.P.add_int ?_
  refine spliced_nil ?_
  refine max_two_ints hh fun h4 tk4 hk4 => ?_
  have ek : ∀ (b : Addr) o, b ≠ cenv.locals → h.get? b = some o → h4.get? b = some o := fun b o hb e => hk4 _ _ (up b o hb e)
  have n4 := hn₃.at' fun o e => hk4 _ _ e
  split
  · refine PySem.P.neg_int ?_
    exact ⟨h4, _, _, _, congrArg (fun z => Value.int z _) (by omega), rfl, ek, n4⟩
  · refine PySem.P.neg_int ?_
    exact ⟨h4, _, _, _, congrArg (fun z => Value.int z _) (by omega), rfl, ek, n4⟩
end
end Mine
namespace Mine
open PyProof.Rows.LCg
theorem cell_of' {h₀ h : Heap} {L K : Addr} {o : Obj} {v : Option Value} {news : List (Addr × Obj)} (N : News h₀ L h news) (hm : (K, o) ∈ news) (hd : o.data = .cell v) : h.IsCell K v := ⟨_, (N _ hm).1, hd⟩
theorem keep_news {h₀ h h' : Heap} {L D : Addr} {m : Str → Option Value} {o : Obj} {news : List (Addr × Obj)} (F : Fr h₀ L h m) (N : News h₀ L h news) (hk : Keeps h h') (hD : h.get? D = none) (hl : h'.get? D = some o) : News h₀ L h' ((D, o) :: news) := fun p hp => by
  rcases List.mem_cons.mp hp with rfl | hp
  · exact news_new F hD hl
  · exact ⟨hk _ _ (N p hp).1, (N p hp).2⟩
theorem ints3 {ys : List Value} {a b c : Int} (h : IntsAre ys [a, b, c]) : ∃ w0 w1 w2, ys = [.int a w0, .int b w1, .int c w2] := by
  cases h with
  | cons _ w0 h => cases h with
    | cons _ w1 h => cases h with
      | cons _ w2 h => cases h; exact ⟨w0, w1, w2, rfl⟩
end Mine
namespace Mine
open PyProof.Rows.LCg
section
variable {prog : Program} {w : World} {A : Around} {E : Value → Shared → Prop} {s : Shared}
theorem min3_k {l : Addr} {a b c : Int} {ta tb tc : Tok} {Q : Value → Shared → Prop} (hh : A.handled = none) (hl : s.heap.IsList l #[.int a ta, .int b tb, .int c tc])
    (h : ∀ h' tk t, Keeps s.heap h' → Q (.int (min a (min b c)) t) { s with heap := h', toks := tk }) : wpAny (model prog w) A (call (.builtin "min") [.ref l]) Q E s := by
  have hl' : s.heap.IsList l (intItems #[(a, ta), (b, tb), (c, tc)]) := by simpa [intItems] using hl
  refine min_intList hh hl' (show 0 < 3 by decide) fun v h' tk hv hk => ?_
  obtain ⟨t, rfl⟩ := intItems_at hv
  have q := argBest_lt (numAt #[(a, ta), (b, tb), (c, tc)]) 2
  have n0 : numAt #[(a, ta), (b, tb), (c, tc)] 0 = a := rfl
  have n1 : numAt #[(a, ta), (b, tb), (c, tc)] 1 = b := rfl
  have n2 : numAt #[(a, ta), (b, tb), (c, tc)] 2 = c := rfl
  have e : numAt #[(a, ta), (b, tb), (c, tc)] (argBest (fun i j => decide (numAt #[(a, ta), (b, tb), (c, tc)] i < numAt #[(a, ta), (b, tb), (c, tc)] j)) 2) = min a (min b c) := by
    have q0 := q.2 0 (by decide); have q1 := q.2 1 (by decide); have q2 := q.2 2 (by decide)
    rw [n0] at q0; rw [n1] at q1; rw [n2] at q2
    have q3 := q.1
    generalize hi : argBest (fun i j => decide (numAt #[(a, ta), (b, tb), (c, tc)] i < numAt #[(a, ta), (b, tb), (c, tc)] j)) 2 = i at *
    rcases (show i = 0 ∨ i = 1 ∨ i = 2 by omega) with rfl | rfl | rfl
    · rw [n0] at *; omega
    · rw [n1] at *; omega
    · rw [n2] at *; omega
  have k := h h' tk t hk
  rw [← e] at k
  exact k
theorem less_turn {s₁ : Shared} {h : Heap} {tk : Nat} {cenv : Env} {K D : Addr} {x d mn : Str} {p1 p2 p3 p4 p5 p6 : Pos} {m₂ : Str → Option Value} {E' : Value → Shared → Prop} {a b c k val : Int} {ta tb tc t : Tok}
    (hh : A.handled = none) (hk : cenv.scope.kind = .function) (hx : cenv.kindOf x = some .local) (dx : (x == ("__debug__" : Str)) = false) (hd : cenv.kindOf d = some .cell) (dd : (d == ("__debug__" : Str)) = false) (hcl : cenv.cells.lookup d = some K)
    (hp : (cenv.scope.kind == .class || (cenv.scope.kind == .module && cenv.locals != cenv.globals)) = false)
    (hmn : ∀ (s' : Shared) (Q : Value → Shared → Prop), Keeps s₁.heap s'.heap → Q (.builtin "min") s' → wpAny (model prog w) A (eval (.Name mn p3) cenv) Q E' s')
    (hKs : Keeps s₁.heap h) (hC0 : s₁.heap.get? cenv.locals = none) (hn : h.Ns cenv.locals m₂) (gK : s₁.heap.IsCell K (some (.ref D))) (gD : s₁.heap.IsList D #[.int a ta, .int b tb, .int c tc]) (e : k - min a (min b c) = val)
    (hst : starEach [.Name d p4] cenv = [(false, eval (.Name d p4) cenv)]) :
    wpAny (model prog w) A (assign (.Name x p1) cenv (.int k t)) (fun _ s₂ => wpAny (model prog w) A (eval (.BinOp (.Name x p2) .Sub (.Call (.Name mn p3) [.Name d p4] [] p5) p6) cenv)
      (fun r s₃ => ∃ h' tk' m₃ t, r = .int val t ∧ s₃ = { s₁ with heap := h', toks := tk' } ∧ (∀ b o, b ≠ cenv.locals → h.get? b = some o → h'.get? b = some o) ∧ h'.Ns cenv.locals m₃) E' s₂) E' { s₁ with heap := h, toks := tk } := by
  subst e
  have neC : ∀ b o, s₁.heap.get? b = some o → b ≠ cenv.locals := fun b o e q => by rw [q, hC0] at e; cases e
  refine wpAny_assign_Name (wpAny_storeName_local hx hn (fun h₂ hn₂ hs₂ => ?_) hp)
  have up : ∀ b o, b ≠ cenv.locals → h.get? b = some o → h₂.get? b = some o := fun b o hb e => hs₂.extBut b o hb e
  have up' : Keeps s₁.heap h₂ := fun b o e => up b o (neC b o e) (hKs b o e)
  refine wpAny_BinOp (wpAny_Name (wpAny_loadName_local hk hx hn₂ (if_pos rfl) ?_) dx)
  refine Call_Name1 (hmn _ _ up' ?_) hst
  refine callWith_builtin1 (rest := []) ?_ (by rw [hst]; rfl) (by rfl)
  rw [hst]
  refine spliced_cons (wpAny_Name (wpAny_loadName_cell hk hd hcl (cell_up gK up') ?_) dd)
  refine spliced_nil ?_
  refine min3_k hh (list_up gD up') fun h4 tk4 t4 hk4 => ?_
  refine PySem.P.sub_int ?_
  exact ⟨h4, _, _, _, rfl, rfl, fun b o hb e => hk4 _ _ (up b o hb e), hn₂.at' fun o e => hk4 _ _ e⟩
end
end Mine
namespace Mine
/-- the first one, two, three signs of a word -/
abbrev P3 (u : Str) (a b c : Str) : Prop := Txt.slice u none (some 1) = a ∧ Txt.slice u none (some 2) = b ∧ Txt.slice u none (some 3) = c
abbrev RdCase (k l : Nat) : Prop := (k = 0 ∧ l = 0) ∨
  (2 ≤ k ∧ (P3 (Wd k l) (Str.ofString "<") (Str.ofString "<<") (Str.ofString "<<<") ∨ P3 (Wd k l) (Str.ofString "<") (Str.ofString "<<") (Str.ofString "<<>"))) ∨
  (k = 1 ∧ (P3 (Wd k l) (Str.ofString "<") (Str.ofString "<>") (Str.ofString "<>>") ∨ P3 (Wd k l) (Str.ofString "<") (Str.ofString "<>") (Str.ofString "<>"))) ∨
  (k = 0 ∧ 2 ≤ l ∧ (P3 (Wd k l) (Str.ofString ">") (Str.ofString ">>") (Str.ofString ">>>") ∨ P3 (Wd k l) (Str.ofString ">") (Str.ofString ">>") (Str.ofString ">>"))) ∨
  (k = 0 ∧ l = 1 ∧ P3 (Wd k l) (Str.ofString ">") (Str.ofString ">") (Str.ofString ">"))
set_option synthInstance.maxSize 100000 in
set_option synthInstance.maxHeartbeats 2000000 in
theorem rd_case {k l : Nat} (hk : k ≤ 7) (hl : l ≤ 7) (h : k = 0 ∨ 1 ≤ l) : RdCase k l := by
  have : ∀ k : Nat, k < 8 → ∀ l : Nat, l < 8 → (k = 0 ∨ 1 ≤ l) → RdCase k l := by decide +kernel
  exact this k (by omega) l (by omega) h
theorem wd_nil {k l : Nat} (h : (Wd k l != Str.ofString "") = false) : k + l = 0 := by
  have e : Wd k l = Str.ofString "" := by simpa using h
  have e2 := congrArg Str.length e
  rw [wd_len] at e2
  rw [e2]; decide +kernel
theorem wd00 (h : (Wd 0 0 != Str.ofString "") = true) : False := by revert h; decide +kernel
section
variable {prog : Program} {w : World} {A : Around} {E : Value → Shared → Prop} {s : Shared} {value slice : Expr} {t : Tok} {h₀ : Heap} {L : Addr} {m : Str → Option Value} {news : List (Addr × Obj)} {Q : Value → Shared → Prop}
theorem slice_to_K {u p : Str} {n : Int} {tn : Tok} (e : Txt.slice u none (some n) = p) (hF : Fr h₀ L s.heap m) (hN : News h₀ L s.heap news) (h : ∀ h' t' k, Fr h₀ L h' m → News h₀ L h' news → Q (.str p t') { s with heap := h', toks := k })
    (hs : subscripted slice false (.str u t) (.ref s.heap.objs.size) = operate [.ref s.heap.objs.size, .str u t] (getItem (.str u t) (.ref s.heap.objs.size)) := by with_unfolding_all rfl)
    (ht : ∀ r, letTemporaryGo value (.str u t) r = pure () := by intro _; with_unfolding_all rfl) (hsz : u.length ≤ sizeLine := by size_fits) :
    wpAny (model prog w) A (subscriptTail value slice (.str u t) (.ref s.heap.objs.size)) Q E { s with heap := s.heap.push { cls := .type "slice", data := .fields #[.none, .int n tn, .none] } } :=
  slice_strN_ns hF hN (fun h' t' k a b => by rw [e]; exact h h' t' k a b) hs ht hsz
theorem slice_from_K {u p : Str} {n : Int} {tn : Tok} (e : Txt.slice u (some n) none = p) (hF : Fr h₀ L s.heap m) (hN : News h₀ L s.heap news) (h : ∀ h' t' k, Fr h₀ L h' m → News h₀ L h' news → Q (.str p t') { s with heap := h', toks := k })
    (hs : subscripted slice false (.str u t) (.ref s.heap.objs.size) = operate [.ref s.heap.objs.size, .str u t] (getItem (.str u t) (.ref s.heap.objs.size)) := by with_unfolding_all rfl)
    (ht : ∀ r, letTemporaryGo value (.str u t) r = pure () := by intro _; with_unfolding_all rfl) (hsz : u.length ≤ sizeLine := by size_fits) :
    wpAny (model prog w) A (subscriptTail value slice (.str u t) (.ref s.heap.objs.size)) Q E { s with heap := s.heap.push { cls := .type "slice", data := .fields #[.int n tn, .none, .none] } } :=
  slice_strN_sn hF hN (fun h' t' k a b => by rw [e]; exact h h' t' k a b) hs ht hsz
end
end Mine
namespace Mine
/-- what is read so far: k of the one sign and l of the other are left -/
def RdInv (i j k l : Nat) (ns : List Int) : Prop := 2 * ns.count 33 + ns.count 20 + k = i ∧ 2 * ns.count 34 + ns.count 21 + l = j ∧ ns.length + (k + 1) / 2 + (l + 1) / 2 = (i + 1) / 2 + (j + 1) / 2
theorem rd_start (i j : Nat) : RdInv i j i j [] := ⟨by simp, by simp, by simp⟩
theorem rd_33 {i j k l : Nat} {ns : List Int} (h : RdInv i j k l ns) (hk : 2 ≤ k) : RdInv i j (k - 2) l (ns ++ [33]) := by
  obtain ⟨a, b, c⟩ := h
  refine ⟨?_, ?_, ?_⟩ <;> simp [List.count_append, List.count_cons] <;> omega
theorem rd_20 {i j k l : Nat} {ns : List Int} (h : RdInv i j k l ns) (hk : k = 1) : RdInv i j 0 l (ns ++ [20]) := by
  obtain ⟨a, b, c⟩ := h
  refine ⟨?_, ?_, ?_⟩ <;> simp [List.count_append, List.count_cons] <;> omega
theorem rd_34 {i j k l : Nat} {ns : List Int} (h : RdInv i j k l ns) (hl : 2 ≤ l) : RdInv i j k (l - 2) (ns ++ [34]) := by
  obtain ⟨a, b, c⟩ := h
  refine ⟨?_, ?_, ?_⟩ <;> simp [List.count_append, List.count_cons] <;> omega
theorem rd_21 {i j k l : Nat} {ns : List Int} (h : RdInv i j k l ns) (hl : l = 1) : RdInv i j k 0 (ns ++ [21]) := by
  obtain ⟨a, b, c⟩ := h
  refine ⟨?_, ?_, ?_⟩ <;> simp [List.count_append, List.count_cons] <;> omega
theorem rd_33' {i j k l : Nat} {ns : List Int} (h : RdInv i j k l ns) (hk : 2 ≤ k) : RdInv i j (k - 2) (l - (2 - k)) (ns ++ [33]) := by
  rw [show l - (2 - k) = l by omega]; exact rd_33 h hk
theorem rd_20' {i j k l : Nat} {ns : List Int} (h : RdInv i j k l ns) (hk : k = 1) : RdInv i j (k - 1) (l - (1 - k)) (ns ++ [20]) := by
  rw [show l - (1 - k) = l by omega, show k - 1 = 0 by omega]; exact rd_20 h hk
theorem rd_34' {i j k l : Nat} {ns : List Int} (h : RdInv i j k l ns) (hk : k = 0) (hl : 2 ≤ l) : RdInv i j (k - 2) (l - (2 - k)) (ns ++ [34]) := by
  rw [show k - 2 = k by omega, show l - (2 - k) = l - 2 by omega]; exact rd_34 h hl
theorem rd_21' {i j k l : Nat} {ns : List Int} (h : RdInv i j k l ns) (hk : k = 0) (hl : l = 1) : RdInv i j (k - 1) (l - (1 - k)) (ns ++ [21]) := by
  rw [show k - 1 = k by omega, show l - (1 - k) = 0 by omega]; exact rd_21 h hl
theorem canon1 {m : Str → Option Value} {k1 : Str} : (fun y => if y = k1 then m k1 else m y) = m := by
  funext y; split
  · simp_all
  · rfl
theorem fr_canon1 {h₀ h : Heap} {L : Addr} {m : Str → Option Value} (k1 : Str) (F : Fr h₀ L h m) : Fr h₀ L h (fun y => if y = k1 then m k1 else m y) := by
  rw [canon1]; exact F
end Mine
open Mine
namespace Mine
theorem words20 : True := by
  k_with "subscriptTail Name Slice str ref" => ((with_reducible show wpAny _ _ (subscriptTail _ (Expr.Slice none (some _) none _) (Value.str (Wd _ _) _) _) _ _ _); (with_reducible rename Fr _ _ _ _ => F'); (with_reducible rename News _ _ _ _ => N'); refine slice_to_K (s := ⟨_, _, _, _, _⟩) (by assumption) F' N' ?_; intro h' t' k' F' N')
  trivial
end Mine
namespace Mine
open PyProof.Rows.LCg PyProof.Rows.LCt
def TupAt (ax : Addr) (its : Array Value) (news : List (Addr × Obj)) : Prop := False ∨ ∃ o, (ax, o) ∈ news ∧ o.cls = .type "tuple" ∧ ∃ n, o.data = .seq its n
theorem TupAt.tup {h₀ h : Heap} {L ax : Addr} {its : Array Value} {news : List (Addr × Obj)} (x : TupAt ax its news) (N : News h₀ L h news) : h.IsTuple ax its := by
  rcases x with x | ⟨o, hm, r⟩
  · exact x.elim
  · exact ⟨o, (N _ hm).1, r⟩
section
variable {prog : Program} {w : World} {A : Around} {E : Value → Shared → Prop} {s : Shared} {h₀ : Heap} {L : Addr} {m : Str → Option Value} {env : Env}
/-- what a comprehension with one test over a written tuple wants behind its source -/
def SrcTup (prog : Program) (w : World) (A : Around) (h₀ : Heap) (L : Addr) (m : Str → Option Value) (env : Env) (ct elt : Expr) (x : Str) (scope : Scope) (cl : List (Str × Addr)) (Fin : Shared → List Value → List (Addr × Obj) → Prop) (xv : Value) (s₁ : Shared) : Prop :=
  ∃ ax its news, xv = .ref ax ∧ A.handled = none ∧ Fr h₀ L s₁.heap m ∧ News h₀ L s₁.heap news ∧ TupAt ax its news ∧ its.size ≤ sizeLine ∧
    ∀ s₂ : Shared, (∃ h, s₂ = { s₁ with heap := h }) → CompRestT prog w A h₀ L m env ct elt x scope cl s₂ (TupAt ax its) (fun i v => its[i]? = some v) (Fin s₂) its.size 0 [] news
theorem SrcTup.ledger {ct elt : Expr} {x : Str} {scope : Scope} {cl : List (Str × Addr)} {Fin : Shared → List Value → List (Addr × Obj) → Prop} {ax : Addr} {its : Array Value} {k : Nat} {news : List (Addr × Obj)} {s₁ : Shared}
    (hh : A.handled = none) (F : Fr h₀ L s₁.heap m) (N : News h₀ L s₁.heap news) (hm : (ax, ({ cls := .type "tuple", data := .seq its k } : Obj)) ∈ news) (hsz : its.size ≤ sizeLine)
    (h : ∀ g, CompRestT prog w A h₀ L m env ct elt x scope cl { s₁ with heap := g } (TupAt ax its) (fun i v => its[i]? = some v) (Fin { s₁ with heap := g }) its.size 0 [] news) :
    SrcTup prog w A h₀ L m env ct elt x scope cl Fin (.ref ax) s₁ := ⟨ax, its, news, rfl, hh, F, N, .inr ⟨_, hm, rfl, _, rfl⟩, hsz, fun _ ⟨g, e⟩ => e ▸ h g⟩
theorem ListComp_Tup {ct elt iter : Expr} {x : Str} {px : Pos} {scope : Scope} {cl : List (Str × Addr)} {pos : Pos} {Q : Value → Shared → Prop} (_F₀ : Fr h₀ L s.heap m)
    (hclos : closureFor scope env = pure cl) (hcell : ∀ y ∈ scope.names, y.2 ≠ .cell) (hkind : scope.kind = .function)
    (hnames : ∀ y ∈ scope.names, y.2 = .local → scope.names.lookup y.1 = some .local) (hx : scope.names.lookup x = some .local)
    (h : wpAny (model prog w) A (eval iter env) (SrcTup prog w A h₀ L m env ct elt x scope cl (fun s₂ => FinE h₀ L m s₂ Q)) E s)
    (hs : ∀ x, foldedSetIterable iter env x = pure x := by intro _; rfl) :
    wpAny (model prog w) A (eval (.ListComp elt [⟨.Name x px, iter, [ct], 0⟩] scope pos) env) Q E s := by
  rw [eval_ListComp]
  refine wpAny_comprehension_free (use := none) rfl hs hclos hkind hnames (wpAny_mono h (fun xv s₁ h₁ => ?_) fun _ _ e => e)
  obtain ⟨ax, its, news, rfl, hh, F, N, S, hsz, R⟩ := h₁
  have ht := S.tup N
  have hlt : ax < s₁.heap.objs.size := by obtain ⟨_, e, _⟩ := ht; exact Heap.lt_size e
  refine wpAny_pyIter_tuple ht ?_
  have up : ∀ b o, s₁.heap.get? b = some o → (s₁.heap.push { cls := .type "tuple_iterator", data := .fields #[.ref ax, .int 0 0] }).get? b = some o := fun b o e => Heap.get?_push_of_some _ e
  refine block_T (Walks.tuple hh s₁.heap.objs.size ax (Nat.ne_of_lt hlt) its) hsz (fun i h st => by obtain ⟨o, e, _⟩ := st.1; exact ⟨o, e⟩) (fun i h h' o nw st e e' _ N' S' => ⟨by obtain ⟨o', q, r⟩ := st.1; rw [e] at q; cases q; exact ⟨o, e', r⟩, S'.tup N'⟩) hcell hkind hx
    ⟨⟨_, Heap.get?_push_size _ rfl, rfl, rfl⟩, by obtain ⟨o, e, r⟩ := ht; exact ⟨o, up _ _ e, r⟩⟩ (fun b hb => ?_)
    (F.keeps up) (N.grown up) (Nat.ne_of_lt F.ns.lt) (next_is_new F) (fun p hp => Nat.ne_of_lt (Heap.lt_size (N p hp).1)) S (R _ ⟨_, rfl⟩) ?_
  · show b < (s₁.heap.push _).objs.size
    rw [Heap.size_push]
    rcases List.mem_cons.mp hb with rfl | hb
    · exact Nat.lt_succ_self _
    · rw [List.mem_singleton.mp hb]; exact Nat.lt_succ_of_lt hlt
  · intro D C h tk m' ys news' F' N' o1 hn hC₀ hD₀ hCL hDL hCD offC fin
    refine ⟨m', hn, fun h'' hs'' => fin D h'' tk (F'.change hs'' hCL hC₀) (fun p hp => ?_) o1⟩
    refine ⟨hs''.extBut _ _ ?_ (N' p hp).1, (N' p hp).2⟩
    rcases List.mem_cons.mp hp with rfl | hp
    · exact Ne.symm hCD
    · exact offC p hp
end
end Mine
open Mine
namespace Mine
theorem words21 : True := by
  k_with "eval ListComp" => (k_here; (with_reducible show wpAny _ _ (eval (Expr.ListComp _ [⟨Expr.Name _ _, Expr.Tuple _ _ _, [_], _⟩] _ _) _) _ _ _); k_dflt (refine ListComp_Tup (by k_asm) (by with_unfolding_all rfl) (by decide) (by rfl) (by decide) (by rfl) ?_))
  trivial
end Mine
namespace Mine
theorem words22 : True := by
  k_with "SrcTup" => (k_here; k_dflt (refine SrcTup.ledger (by rfl) (by k_asm) (by k_asm) (by k_mem) (by first | exact Nat.le_of_ble_eq_true rfl | size_fits) ?_; intro g'; lct_lit))
  trivial
end Mine
namespace Mine
set_option pp.deepTerms false
set_option pp.deepTerms.threshold 10
theorem len_vs {prog : Program} {w : World} {A : Around} {E : Value → Shared → Prop} {s : Shared} {h₀ : Heap} {L l : Addr} {news : List (Addr × Obj)} {Q : Value → Shared → Prop} {vs : List Value} {c : Nat} (N : News h₀ L s.heap news) (hm : (l, listOf vs.toArray c) ∈ news) (hl : vs.length ≤ 14)
    (h : ∀ t k, Q (.int (vs.length : Int) t) { s with toks := k }) : wpAny (model prog w) A (call (.builtin "len") [.ref l]) Q E s :=
  Calls.call_len_list (News.isList N hm) (by rw [List.size_toArray]; omega) (by rw [List.size_toArray]; exact h _ _)
theorem rd_end {i j : Nat} {ns : List Int} {vs : List Value} (hv : IntsAre vs ns) (h : RdInv i j 0 0 ns) :
    2 * (ns.count 33 : Int) + (ns.count 20 : Int) - 4 + (2 * (ns.count 34 : Int) + (ns.count 21 : Int) - 4) = (i : Int) - 4 + ((j : Int) - 4) ∧ 2 * (ns.count 34 : Int) + (ns.count 21 : Int) - 4 = (j : Int) - 4 ∧ (vs.length : Int) = (((i + 1) / 2 + (j + 1) / 2 : Nat) : Int) := by
  have e1 := IntsAre.length hv
  obtain ⟨a, b, c⟩ := h
  refine ⟨by omega, by omega, by omega⟩
section
theorem words23 : True := by
  k_with "getMethod ref" => (k_here; (with_reducible show wpAny _ _ (getMethod (Value.ref _) (PySem.Str.ofString "append") _) _ _ _); k_dflt (refine' listMethod_K ?N ?m PySem.F.slot_list_append PySem.F.type_list_append ?_; (case N => k_asm); (case m => k_mem)))
  trivial
theorem words24 : True := by
  k_with "getMethod ref" => (k_here; (with_reducible show wpAny _ _ (getMethod (Value.ref _) (PySem.Str.ofString "count") _) _ _ _); k_dflt (refine' listMethod_K ?N ?m PySem.F.slot_list_count PySem.F.type_list_count ?_; (case N => k_asm); (case m => k_mem)))
  trivial
theorem words25 : True := by
  k_with "subscriptTail" => (k_here; (with_reducible show wpAny _ _ (subscriptTail _ _ (Value.ref 22) (Value.str _ _)) _ _ _); k_dflt (refine' topItem_K ?F ?X ?l ?k ?e ?_; (case F => k_asm); (case X => k_asm); (case l => k_is); (case k => k_keys); (case e => k_is)))
  trivial
theorem words26 : True := by
  k_with "call builtin:len" => (k_here; (with_reducible show wpAny _ _ (call (Value.builtin "len") [Value.ref _]) _ _ _); k_dflt (refine' len_vs ?k1 ?k2 ?k3 ?_; (case k1 => k_asm); (case k2 => k_mem); (case k3 => assumption); k_whole); intro t' k')
  trivial
set_option maxHeartbeats 20000000 in
theorem c_read (i j : Nat) (ta : Tok) (hi : 1 ≤ i ∧ i ≤ 7) (hj : 1 ≤ j ∧ j ≤ 7) :
   Ct 2 50 [] [.str (Wd i j) ta] (fun hs h' rr => ∃ T D t0 t1 t2 t3 n n', rr = .ref T ∧ hs.get? T = none ∧ hs.get? D = none ∧ D ≠ T ∧ h'.get? T = some { cls := .type "tuple", data := .seq #[.ref D, .int (((i + 1) / 2 + (j + 1) / 2 : Nat) : Int) t3] n } ∧ h'.get? D = some (listOf #[.int ((i : Int) - 4 + ((j : Int) - 4)) t0, .int ((j : Int) - 4) t1, .int 0 t2] n')) := by
  unfold Ct
  k_fill
  intro w mean mg mb dp un gd cn cs a ccd cl outer A₀ base h₀ L m s Q E B F X N T hk hd hu hret
  k_dflt (first
   | (refine' enterP ?k1 ?k2 ?k3 ?k4 ?k5 ?kA ?kF ?kK ?k6 ?k7 ?k8 ?k9 ?kB ?_ ?c2 ?c3 ?c4 ?c5; (case kA => exact rfl); (case kF => exact rfl); (case kK => assumption); (case k1 => k_asm); (case k2 => k_asm); (case k3 => k_asm); (case k4 => k_asm); (case k5 => k_asm); (case k6 => k_is); (case k7 => k_is); (case k8 => ktr_room); (case k9 => exact BindsTo.of_eq rfl); (case c5 => decide); (case kB => exact locs rfl); (case c2 => exact rfl); (case c3 => exact rfl); (case c4 => exact rfl); k_whole; intro g' L' h' tk' G' F' N' B' X' T' l1; (try k_lt l1); (try dsimp only); (try k_lift B'); (try k_fold))
   | (refine' enterPC ?k1 ?k2 ?k3 ?k4 ?k5 ?kA ?kF ?kK ?k6 ?k7 ?k8 ?k9 ?kB ?kD ?_ ?c2 ?c3 ?c4; (case kA => exact rfl); (case kF => exact rfl); (case kK => assumption); (case k1 => k_asm); (case k2 => k_asm); (case k3 => k_asm); (case k4 => k_asm); (case k5 => k_asm); (case k6 => k_is); (case k7 => k_is); (case k8 => ktr_room); (case k9 => exact BindsTo.of_eq rfl); (case kB => exact rfl); (case kD => decide +kernel); (case c2 => exact rfl); (case c3 => exact rfl); (case c4 => exact rfl); k_whole; intro g' L' h' tk' cells' G' F' N' Y' B' X' T' l1; (try k_lt l1); k_cells Y'; (try simp only [List.cons_append, List.nil_append] at N'); (try dsimp only); (try k_lift B'); (try k_fold)))
  repeat' (first | (k_unfold; (try dsimp only)) | walk1 | (dsimp only; walk1) | (leave1; (try dsimp only)) | fail "no step")
  unfold Hold
  (rename Fr _ _ _ _ => F2); (rename News _ _ _ _ => N2)
  replace F2 := fr_canon1 (Str.ofString "piece") F2
  refine' While_cut (fun n m₁ nx => ∃ (k l : Nat) (vs : List Value) (ns : List Int) (c : Nat) (o : Obj) (tw : Tok) (pv : Option Value), n = k + l ∧ (k ≤ 7 ∧ l ≤ 7 ∧ (k = 0 ∨ 1 ≤ l)) ∧ RdInv i j k l ns ∧ IntsAre vs ns ∧ o.data = .cell (some (.str (Wd k l) tw)) ∧ nx = [(?R, listOf vs.toArray c), (L' + 1, o)] ∧ m₁ = (fun y => if y = Str.ofString "piece" then pv else (?M : Str → Option Value) y)) F2 N2 ⟨i, j, [], [], 0, _, _, _, rfl, ⟨hi.2, hj.2, .inr hj.1⟩, rd_start i j, .nil, by assumption, rfl, rfl⟩ ?_ ?_ (by passes_own)
  · rintro n m₁ nx h₁ tk₁ F₁ N₁ ⟨k, l, vs, ns, c, o, tw, pv, rfl, hkl, hI, hv, ho, rfl, rfl⟩
    clear F2 N2
    have hk : k ≤ 7 := hkl.1
    have hl : l ≤ 7 := hkl.2.1
    have hlen : (Wd k l).length ≤ 14 := by rw [wd_len]; omega
    have hlv : vs.length ≤ 14 := by
      have e1 := IntsAre.length hv
      have e2 := hI.2.2
      omega
    have hc := rd_case hk hl hkl.2.2
    have hklH : Hold (k ≤ 7 ∧ l ≤ 7 ∧ (k = 0 ∨ 1 ≤ l)) := hkl
    clear hkl hk hl
    rcases hc with hc | ⟨hk2, hc | hc⟩ | ⟨hk2, hc | hc⟩ | ⟨hk2, hl2, hc | hc⟩ | ⟨hk2, hl2, hc⟩
    · obtain ⟨rfl, rfl⟩ := hc
      as_aux_lemma =>
      try k_fold
      repeat' (first | exact (wd00 (by assumption)).elim | (k_unfold; (try dsimp only)) | walk1 | (dsimp only; walk1) | (leave1; (try dsimp only)) | fail "no step")
      (rename Fr _ _ _ _ => F3); (rename News _ _ _ _ => N3)
      exact ⟨_, _, _, _, rfl, F3, N3, 0, 0, _, _, _, _, _, _, rfl, hklH, hI, hv, ho, rfl, rfl⟩
    all_goals (
      obtain ⟨p1, p2, p3⟩ := hc
      as_aux_lemma =>
      try k_fold
      repeat' (first | (k_unfold; (try dsimp only)) | walk1 | (dsimp only; walk1) | (leave1; (try dsimp only)) | fail "no step")
      · (rename Fr _ _ _ _ => F3); (rename News _ _ _ _ => N3); (rename (_ = Data.cell _) => d3)
        have hkl : k ≤ 7 ∧ l ≤ 7 ∧ (k = 0 ∨ 1 ≤ l) := hklH
        rw [upd_upd] at F3
        rw [wd_from hkl.1 hkl.2.1 (by omega)] at d3
        first
          | exact ⟨_, _, _, _, k - 2 + (l - (2 - k)), rfl, F3, fun p hp => N3 p (List.mem_cons_of_mem _ (List.mem_cons_of_mem _ hp)), by omega, k - 2, l - (2 - k), _, _, _, _, _, _, rfl, by omega, rd_33' hI hk2, ints_snoc hv, d3, rfl, rfl⟩
          | exact ⟨_, _, _, _, k - 1 + (l - (1 - k)), rfl, F3, fun p hp => N3 p (List.mem_cons_of_mem _ (List.mem_cons_of_mem _ hp)), by omega, k - 1, l - (1 - k), _, _, _, _, _, _, rfl, by omega, rd_20' hI hk2, ints_snoc hv, d3, rfl, rfl⟩
          | exact ⟨_, _, _, _, k - 2 + (l - (2 - k)), rfl, F3, fun p hp => N3 p (List.mem_cons_of_mem _ (List.mem_cons_of_mem _ hp)), by omega, k - 2, l - (2 - k), _, _, _, _, _, _, rfl, by omega, rd_34' hI hk2 hl2, ints_snoc hv, d3, rfl, rfl⟩
          | exact ⟨_, _, _, _, k - 1 + (l - (1 - k)), rfl, F3, fun p hp => N3 p (List.mem_cons_of_mem _ (List.mem_cons_of_mem _ hp)), by omega, k - 1, l - (1 - k), _, _, _, _, _, _, rfl, by omega, rd_21' hI hk2 hl2, ints_snoc hv, d3, rfl, rfl⟩
      · have hz : k + l = 0 := wd_nil (by assumption)
        have hkl : k ≤ 7 ∧ l ≤ 7 ∧ (k = 0 ∨ 1 ≤ l) := hklH
        exfalso; omega)
  rintro m₁ nx h₁ tk₁ F₁ N₁ ⟨k, l, vs, ns, c, o, tw, pv, h0, hkl, hI, hv, ho, rfl, rfl⟩
  obtain ⟨rfl, rfl⟩ : k = 0 ∧ l = 0 := by omega
  clear h0 hkl F2 N2
  have hlv : vs.length ≤ 14 := by
    have e1 := IntsAre.length hv
    have e2 := hI.2.2
    omega
  try k_fold
  repeat' (first | (k_unfold; (try dsimp only)) | walk1 | (dsimp only; walk1) | (leave1; (try dsimp only)) | fail "no step")
  all_goals (
   obtain ⟨e1, e2, e3⟩ := rd_end hv hI
   rename News _ _ _ _ => N3
   rename (_ < _ ∧ _) => l9
   rw [e1, e2, e3] at N3
   refine leaveP_ (by assumption) (by k_asm) N3 (by intro p hp; cases hp) ?_
   intro hK hf
   exact hret _ _ _ hK ⟨_, _, _, _, _, _, _, _, rfl, hf _ (List.Mem.head _) (by simp), hf _ (List.Mem.tail _ (List.Mem.head _)) (by simp), Nat.ne_of_lt l9.1, (N3 _ (List.Mem.head _)).1, (N3 _ (List.Mem.tail _ (List.Mem.head _))).1⟩)
end
theorem words27 : True := by
  k_with_none
  k_with "call builtin:max" => (k_here; (with_reducible show wpAny _ _ (call (Value.builtin "max") [Value.int _ _, Value.int _ _, Value.int _ _]) _ _ _); k_dflt (refine' max3_K ?k1 ?k2 ?k3 ?_; (case k1 => k_asm); (case k2 => k_asm); (case k3 => exact rfl); k_whole); intro h' tk' t' F' N'; (try k_sweep))
  k_with "call builtin:min" => (k_here; (with_reducible show wpAny _ _ (call (Value.builtin "min") [Value.int _ _, Value.int _ _, Value.int _ _]) _ _ _); k_dflt (refine' min3_K ?k1 ?k2 ?k3 ?_; (case k1 => k_asm); (case k2 => k_asm); (case k3 => exact rfl); k_whole); intro h' tk' t' F' N'; (try k_sweep))
  k_with "exec While BoolOp cons nil" => ((with_reducible show wpAny _ _ (exec (Stmt.While _ _ _ _) _) _ _ _); refine hold_in ?_)
  k_with "exec While Compare cons nil" => ((with_reducible show wpAny _ _ (exec (Stmt.While _ _ _ _) _) _ _ _); refine hold_in ?_)
  k_with "subscriptTail Name Slice str ref" => ((with_reducible show wpAny _ _ (subscriptTail _ (Expr.Slice none (some (Expr.BoolOp _ _ _)) none _) _ _) _ _ _); (with_reducible rename Fr _ _ _ _ => F'); (with_reducible rename News _ _ _ _ => N'); refine slice_none_K (s := ⟨_, _, _, _, _⟩) F' N' ?_; intro _ _ _ _ _)
  k_with "eval Subscript" => (k_here; (with_reducible show wpAny _ _ (eval (Expr.Subscript (Expr.Name _ _) (Expr.Slice none (some (Expr.BoolOp _ _ _)) none _) _) _) _ _ _); k_dflt (refine' cutEnd ?k1 ?k2 ?k3 ?k4 ?k5 ?k6 ?k7 ?_; (case k1 => k_asm); (case k2 => k_asm); (case k3 => exact rfl); (case k4 => exact rfl); (case k5 => omega); (case k6 => omega); (case k7 => omega); k_whole); intro h' t' k' F' N'; (try k_sweep))
  k_with "execs cons" => (k_here; (with_reducible refine any_toks ?_); intro tk'; (with_reducible refine wpAny_execs_cons ?_); (try dsimp only))
  k_with "execs nil" => (k_here; (with_reducible refine any_toks ?_); intro tk'; (with_reducible refine wpAny_execs_nil ?_); (try dsimp only))
  k_with "call ref" => (k_here; (with_reducible show wpAny _ _ (call (Value.ref 31) _) _ _ _); k_dflt (refine' use_ct (c_subst _ _ _ _ ?kc) ?k1 ?k2 ?k3 ?k4 ?k5 ?kK ?kS ?kd ?ku ?_; (case kc => assumption); (case k1 => k_asm); (case k2 => k_asm); (case k3 => k_asm); (case k4 => k_asm); (case k5 => k_asm); (case kK => first | exact rfl | assumption); (case kS => intro p hp; cases hp); (case kd => ktr_room); (case ku => ktr_units); k_whole); intro r' h' tk' hK' F' N' ho'; (refine Exists.elim ho' ?_); clear ho' hK'; intro t9 e9; subst e9; (try dsimp only); (try k_sweep))
  k_with "binaryOp Mult str int" => (k_here; (with_reducible show wpAny _ _ (binaryOp Operator.Mult (Value.str _ _) (Value.int _ _)) _ _ _); (first | refine mul_lt (by first | omega | (dsimp only [List.getD_cons_zero, List.getD_cons_succ, Int.toNat]; omega)) (by omega) ?_ | refine mul_gt (by omega) (by omega) ?_); intro t' n')
  k_with "binaryOp Add str str" => (k_here; (with_reducible show wpAny _ _ (binaryOp Operator.Add (Value.str (Wd _ _) _) (Value.str (Wd _ _) _)) _ _ _); (refine add_wd (by omega) (by omega) ?_); intro t' n')
  k_with "subscriptTail Name Constant ref int" => (k_here; (with_reducible show wpAny _ _ (subscriptTail _ (Expr.Constant _ _ _) (Value.ref _) (Value.int _ _)) _ _ _); k_dflt (first | ((with_reducible show wpAny _ _ (subscriptTail _ _ (Value.ref _) (Value.int 0 _)) _ _ _); refine' sub3_0 ?k1 ?k2 ?_ ?k7; (case k1 => k_asm); (case k2 => k_mem); (case k7 => with_unfolding_all rfl); k_whole) | ((with_reducible show wpAny _ _ (subscriptTail _ _ (Value.ref _) (Value.int 1 _)) _ _ _); refine' sub3_1 ?k1 ?k2 ?_ ?k7; (case k1 => k_asm); (case k2 => k_mem); (case k7 => with_unfolding_all rfl); k_whole) | ((with_reducible show wpAny _ _ (subscriptTail _ _ (Value.ref _) (Value.int 2 _)) _ _ _); refine' sub3_2 ?k1 ?k2 ?_ ?k7; (case k1 => k_asm); (case k2 => k_mem); (case k7 => with_unfolding_all rfl); k_whole)))
  k_with "call ref" => (k_here; (with_reducible show wpAny _ _ (call (Value.ref 45) _) _ _ _); k_dflt (refine' use_ct (c_word _ _ _ _ _ _ _ _ ?kc ?ke) ?k1 ?k2 ?k3 ?k4 ?k5 ?kK ?kS ?kd ?ku ?_; (case k1 => k_asm); (case k2 => k_asm); (case k3 => k_asm); (case k4 => k_asm); (case k5 => k_asm); (case kK => first | exact rfl | assumption); (case kS => intro p hp; rw [List.mem_singleton.mp hp]; k_mem); (case kd => ktr_room); (case ku => ktr_units); (case kc => omega); (case ke => omega); k_whole); intro r' h' tk' hK' F' N' ho'; (refine Exists.elim ho' ?_); clear ho' hK'; intro t9 e9; subst e9; (try dsimp only); (try k_sweep))
  k_with "exec Assign cons ListComp" => (k_here; (with_reducible show wpAny _ _ (exec (Stmt.Assign _ (Expr.ListComp _ [⟨Expr.Tuple _ _ _, Expr.Call _ [Expr.Name _ _, Expr.Name _ _] _ _, _, _⟩] _ _) _) _) _ _ _); with_unfolding_all refine wpAny_Assign_Name ?_)
  k_with "eval ListComp" => (k_here; (with_reducible show wpAny _ _ (eval (Expr.ListComp (Expr.BinOp _ _ _ _) [⟨Expr.Tuple _ _ _, Expr.Call _ [Expr.Name _ _, Expr.Name _ _] _ _, _, _⟩] _ _) _) _ _ _); k_dflt (refine ListComp_zip (by k_asm) (by rfl) (by decide) (by rfl) (by decide) (by rfl) (by rfl) (by decide) (by decide) (by decide) ?_))
  k_with "call type:zip" => (k_here; (with_reducible show wpAny _ _ (call (Value.type "zip") [Value.ref _, Value.ref _]) (ZipSrc _ _ _ _ _) _ _); k_dflt (refine' zip_call ?k1 ?k2 ?k3 ?k4 ?k5 ?_; (case k1 => exact rfl); (case k2 => k_asm); (case k3 => k_asm); (case k4 => k_mem); (case k5 => k_mem); k_whole); intro D' t0' t1' t2' h' tk' F' N' l1'; (try simp only [AllNe, and_true] at l1'); (try k_sweep))
  k_with "subscriptTail Name Slice str ref" => ((with_reducible show wpAny _ _ (subscriptTail _ (Expr.Slice none (some _) none _) (Value.str (Wd _ _) _) _) _ _ _); (with_reducible rename Fr _ _ _ _ => F'); (with_reducible rename News _ _ _ _ => N'); refine slice_to_K (s := ⟨_, _, _, _, _⟩) (by assumption) F' N' ?_; intro h' t' k' F' N')
  k_with "eval ListComp" => (k_here; (with_reducible show wpAny _ _ (eval (Expr.ListComp _ [⟨Expr.Name _ _, Expr.Tuple _ _ _, [_], _⟩] _ _) _) _ _ _); k_dflt (refine ListComp_Tup (by k_asm) (by with_unfolding_all rfl) (by decide) (by rfl) (by decide) (by rfl) ?_))
  k_with "SrcTup" => (k_here; k_dflt (refine SrcTup.ledger (by rfl) (by k_asm) (by k_asm) (by k_mem) (by first | exact Nat.le_of_ble_eq_true rfl | size_fits) ?_; intro g'; lct_lit))
  trivial
end Mine
namespace Mine
theorem use_read {i j : Nat} {ta : Tok}
    {w : World} {mean : ExcName → Option Value} {mg mb : Str → Option Value} {dp un : Nat} {gd : Option (List Code)} {cn : Str} {cs : Scope} {a : Addr} {ccd : Value} {cl : List (Str × Addr)} {outer : List Env} {A₀ : Around} {base h₀ : Heap} {L : Addr} {m : Str → Option Value} {s : Shared} {Q E : Value → Shared → Prop} {news : List (Addr × Obj)}
    (B : Below A₀ base outer h₀) (F : Fr h₀ L s.heap m) (X : (Mine.fkh.heap_1_1 w.params).In h₀) (N : News h₀ L s.heap news) (T : Top Mine.fkh.view_1_2 (looseW Mine.fkh.view_1_2 [Str.ofString "EXACT_TOKEN_TYPES"]) mean mg mb h₀) (hk : cs.kind = .function)
    (hd : dp + 2 < recursionLimit) (hu : un + 16 * 2 < cLine) (hi : 1 ≤ i ∧ i ≤ 7) (hj : 1 ≤ j ∧ j ≤ 7)
    (h : ∀ T D t0 t1 t2 t3 n n' h' tk', Fr h₀ L h' m → News h₀ L h' ((T, ({ cls := .type "tuple", data := .seq #[.ref D, .int (((i + 1) / 2 + (j + 1) / 2 : Nat) : Int) t3] n } : Obj)) :: (D, listOf #[.int ((i : Int) - 4 + ((j : Int) - 4)) t0, .int ((j : Int) - 4) t1, .int 0 t2] n') :: news) → @Ne Nat D T → AllNe T news → AllNe D news → Q (.ref T) { s with heap := h', toks := tk' }) :
    wpAny (model PySem.Challenge.rw_rl0069_01.row.prog w) (ktrTop dp un gd cn cs L a ccd cl outer) (call (.ref 50) [.str (Wd i j) ta]) Q E s := by
  refine use_ct (c_read i j ta hi hj) B F X N T hk (by intro p hp; cases hp) hd hu fun r h' tk' hK F' N' ho => ?_
  obtain ⟨T, D, t0, t1, t2, t3, n, n', rfl, hT, hD, hne, gT, gD⟩ := ho
  have fresh : ∀ {D : Addr} {o : Obj}, s.heap.get? D = none → h'.get? D = some o → h'.get? D = some o ∧ D ≠ L ∧ h₀.get? D = none := fun {D o} hn hg => by
    refine ⟨hg, fun e => ?_, ?_⟩
    · obtain ⟨oL, _, _, hL, _⟩ := F.ns
      rw [← e, hn] at hL; cases hL
    · cases q : h₀.get? D with
      | none => rfl
      | some o' => have := F.keep _ _ q; rw [hn] at this; cases this
  have off : ∀ {D : Addr}, s.heap.get? D = none → AllNe D news := fun {D} hn => allNe_of fun p hp e => by
    have := (N p hp).1
    rw [e, hn] at this; cases this
  refine h T D t0 t1 t2 t3 n n' h' tk' F' (fun p hp => ?_) hne (off hT) (off hD)
  rcases List.mem_cons.mp hp with rfl | hp
  · exact fresh hT gT
  · rcases List.mem_cons.mp hp with rfl | hp
    · exact fresh hD gD
    · exact N' p hp
end Mine
open Mine
namespace Mine
theorem words28 : True := by
  k_with "call ref" => (k_here; (with_reducible show wpAny _ _ (call (Value.ref 50) _) _ _ _); k_dflt (refine' use_read ?k1 ?k2 ?k3 ?k4 ?k5 ?kK ?kd ?ku ?ka ?kb ?_; (case k1 => k_asm); (case k2 => k_asm); (case k3 => k_asm); (case k4 => k_asm); (case k5 => k_asm); (case kK => first | exact rfl | assumption); (case kd => ktr_room); (case ku => ktr_units); (case ka => omega); (case kb => omega); k_whole); intro T' D' t0' t1' t2' t3' n' m' h' tk' F' N' ne' l1' l2'; (try simp only [AllNe, and_true] at l1'); (try simp only [AllNe, and_true] at l2'); (try k_sweep))
  trivial
end Mine
namespace Mine
set_option pp.deepTerms false
set_option pp.deepTerms.threshold 10
abbrev fq (a b : Int) : UInt64 := Float64.ofFrac (decide (a < 0) != decide (b < 0)) a.natAbs b.natAbs
def hueOf (r g b : Int) : UInt64 :=
  if min r (min g b) = max r (max g b) then 0
  else if r = max r (max g b) then (Float64.divmod (Float64.div (Float64.sub (fq (max r (max g b) - b) (max r (max g b) - min r (min g b))) (fq (max r (max g b) - g) (max r (max g b) - min r (min g b)))) 4618441417868443648) 4607182418800017408).snd
  else if g = max r (max g b) then (Float64.divmod (Float64.div (Float64.sub (Float64.add 4611686018427387904 (fq (max r (max g b) - r) (max r (max g b) - min r (min g b)))) (fq (max r (max g b) - b) (max r (max g b) - min r (min g b)))) 4618441417868443648) 4607182418800017408).snd
  else (Float64.divmod (Float64.div (Float64.sub (Float64.add 4616189618054758400 (fq (max r (max g b) - g) (max r (max g b) - min r (min g b)))) (fq (max r (max g b) - r) (max r (max g b) - min r (min g b)))) 4618441417868443648) 4607182418800017408).snd
/-- the tuple that rgb_to_hsv makes -/
def HsvT (r g b : Int) (o : Obj) : Prop := ∃ sat t1 t2 t3 n, o = { cls := .type "tuple", data := .seq #[.float (hueOf r g b) t1, .float sat t2, .int (max r (max g b)) t3] n }
theorem hsv0 {r g b : Int} {sat : UInt64} {t1 t2 t3 : Tok} {n : Nat} (h : min r (min g b) = max r (max g b)) : HsvT r g b { cls := .type "tuple", data := .seq #[.float 0 t1, .float sat t2, .int (max r (max g b)) t3] n } :=
  ⟨sat, t1, t2, t3, n, by unfold hueOf; rw [if_pos h]⟩
theorem hsv1 {r g b : Int} {sat : UInt64} {t1 t2 t3 : Tok} {n : Nat} (h : min r (min g b) ≠ max r (max g b)) (h1 : r = max r (max g b)) : HsvT r g b { cls := .type "tuple", data := .seq #[.float (Float64.divmod (Float64.div (Float64.sub (fq (max r (max g b) - b) (max r (max g b) - min r (min g b))) (fq (max r (max g b) - g) (max r (max g b) - min r (min g b)))) 4618441417868443648) 4607182418800017408).snd t1, .float sat t2, .int (max r (max g b)) t3] n } :=
  ⟨sat, t1, t2, t3, n, by unfold hueOf; rw [if_neg h, if_pos h1]⟩
theorem hsv2 {r g b : Int} {sat : UInt64} {t1 t2 t3 : Tok} {n : Nat} (h : min r (min g b) ≠ max r (max g b)) (h1 : ¬ r = max r (max g b)) (h2 : g = max r (max g b)) : HsvT r g b { cls := .type "tuple", data := .seq #[.float (Float64.divmod (Float64.div (Float64.sub (Float64.add 4611686018427387904 (fq (max r (max g b) - r) (max r (max g b) - min r (min g b)))) (fq (max r (max g b) - b) (max r (max g b) - min r (min g b)))) 4618441417868443648) 4607182418800017408).snd t1, .float sat t2, .int (max r (max g b)) t3] n } :=
  ⟨sat, t1, t2, t3, n, by unfold hueOf; rw [if_neg h, if_neg h1, if_pos h2]⟩
theorem hsv3 {r g b : Int} {sat : UInt64} {t1 t2 t3 : Tok} {n : Nat} (h : min r (min g b) ≠ max r (max g b)) (h1 : ¬ r = max r (max g b)) (h2 : ¬ g = max r (max g b)) : HsvT r g b { cls := .type "tuple", data := .seq #[.float (Float64.divmod (Float64.div (Float64.sub (Float64.add 4616189618054758400 (fq (max r (max g b) - g) (max r (max g b) - min r (min g b)))) (fq (max r (max g b) - r) (max r (max g b) - min r (min g b)))) 4618441417868443648) 4607182418800017408).snd t1, .float sat t2, .int (max r (max g b)) t3] n } :=
  ⟨sat, t1, t2, t3, n, by unfold hueOf; rw [if_neg h, if_neg h1, if_neg h2]⟩
abbrev hsvVs (z : Z) : List Value := [.int (z.i 0) (z.n 0), .int (z.i 1) (z.n 1), .int (z.i 2) (z.n 2)]
abbrev hsvOut (z : Z) : Heap → Heap → Value → Prop := fun hs h' rr => ∃ D o, rr = .ref D ∧ hs.get? D = none ∧ h'.get? D = some o ∧ HsvT (z.i 0) (z.i 1) (z.i 2) o
def hsvPre (z : Z) : Prop := (0 ≤ z.i 0 ∧ z.i 0 ≤ 12) ∧ (0 ≤ z.i 1 ∧ z.i 1 ≤ 12) ∧ (0 ≤ z.i 2 ∧ z.i 2 ≤ 12)
def hsvS (z : Z) : Cap z 2 [] (hsvOut z) 21 (hsvVs z) := by
  refine' ⟨_, ?_⟩
  rotate_left
  intro H hR
  unfold CtZ
  have X := H.X
  revert X; k_fill; intro X
  k_dflt (refine' enterE ?k1 ?k2 ?k3 ?k4 ?k5 ?kA ?kF ?kK ?k6 ?k7 ?k8 ?k9 ?kB ?kR ?c2 ?c3 ?c4 ?c5; (case kA => exact rfl); (case kF => exact rfl); (case kK => exact H.hk); (case k1 => exact H.B); (case k2 => exact H.F); (case k3 => exact H.X); (case k4 => exact H.N); (case k5 => exact H.T); (case k6 => k_is); (case k7 => k_is); (case k8 => (have hd := H.hd; ktr_room)); (case k9 => exact BindsTo.of_eq rfl); (case c5 => decide); (case kB => exact locs rfl); (case c2 => exact rfl); (case c3 => exact rfl); (case c4 => exact rfl))
  exact hR
@[irreducible] def hsvP (z : Z) : Prop := hsvPre z → Hyp z 2 [] (hsvOut z) → (hsvS z).1 z.e
@[irreducible] noncomputable def hsvC : Z := eps hsvP
set_option maxHeartbeats 2000000 in
theorem hsv_walk : hsvP hsvC := by
  unfold hsvP
  intro hp H
  obtain ⟨⟨hr, hr2⟩, ⟨hg, hg2⟩, ⟨hb, hb2⟩⟩ := hp
  obtain ⟨B, F, X, N, T, hk, hd, hu, hret⟩ := H
  unfold hsvS
  (try dsimp only)
  revert X; k_fill; intro X
  intro G' F' N' B' X' T' l1
  (try k_lt l1); (try dsimp only); (try k_lift B')
  show wpAny _ _ _ _ _ _
  k_fold
  k_steps
  all_goals (
   (try dsimp only)
   refine leaveP_obj (by assumption) (by k_asm) (by k_asm) (by intro p hp; cases hp) (List.Mem.head _) (by simp) ?_
   intro hK hn hg
   refine hret _ _ _ hK ⟨_, _, rfl, hn, hg, ?_⟩
   first | exact hsv0 (by assumption) | exact hsv1 (by assumption) (by assumption) | exact hsv2 (by assumption) (by assumption) (by assumption) | exact hsv3 (by assumption) (by assumption) (by assumption))
theorem hsv_all (z : Z) (hp : hsvPre z) (H : Hyp z 2 [] (hsvOut z)) : CtZ z 21 (hsvVs z) := (hsvS z).2 H fun e => by
  have h := eps_all (P := hsvP) (by unfold hsvC; rfl) hsv_walk (z.at e)
  unfold hsvP at h
  exact h hp (H.at e)
theorem c_hsv (r g b : Int) (tr tg tb : Tok) (hr : 0 ≤ r) (hr2 : r ≤ 12) (hg : 0 ≤ g) (hg2 : g ≤ 12) (hb : 0 ≤ b) (hb2 : b ≤ 12) :
   Ct 2 21 [] [.int r tr, .int g tg, .int b tb] (fun hs h' rr => ∃ D o, rr = .ref D ∧ hs.get? D = none ∧ h'.get? D = some o ∧ HsvT r g b o) :=
  ct_of (fun k => [r, g, b].getD k 0) (fun k => [tr, tg, tb].getD k 0) (fun _ => ⟨0, 0, 0, 0, 0, 0, 0, 0⟩) fun z hi hn _ H => by
    have e : [Value.int r tr, .int g tg, .int b tb] = hsvVs z := by unfold hsvVs; rw [hi, hn]; rfl
    rw [e]
    exact hsv_all z (by unfold hsvPre; rw [hi]; exact ⟨⟨hr, hr2⟩, ⟨hg, hg2⟩, ⟨hb, hb2⟩⟩) (by unfold hsvOut; rw [hi]; exact H)
end Mine
open Mine
namespace Mine
theorem words29 : True := by
  k_with "call ref" => (k_here; (with_reducible show wpAny _ _ (call (Value.ref 21) _) _ _ _); k_dflt (refine' use_obj (c_hsv _ _ _ _ _ _ ?ka ?kb ?kc ?ke ?kf ?kg) ?k1 ?k2 ?k3 ?k4 ?k5 ?kK ?kS ?kd ?ku ?_; (case k1 => k_asm); (case k2 => k_asm); (case k3 => k_asm); (case k4 => k_asm); (case k5 => k_asm); (case kK => first | exact rfl | assumption); (case kS => intro p hp; cases hp); (case kd => ktr_room); (case ku => ktr_units); (case ka => omega); (case kb => omega); (case kc => omega); (case ke => omega); (case kf => omega); (case kg => omega); k_whole); intro D' o' h' tk' F' N' l1' ho'; (try simp only [AllNe, and_true] at l1'); (refine Exists.elim ho' ?_); clear ho'; intro st9 ho'; (refine Exists.elim ho' ?_); clear ho'; intro t91 ho'; (refine Exists.elim ho' ?_); clear ho'; intro t92 ho'; (refine Exists.elim ho' ?_); clear ho'; intro t93 ho'; (refine Exists.elim ho' ?_); clear ho'; intro n9 e9; subst e9; (try dsimp only); (try k_sweep))
  trivial
end Mine
namespace Mine
set_option pp.deepTerms false
set_option pp.deepTerms.threshold 10
section
theorem words30 : True := by
  k_with "eval ListComp" => ((with_reducible show wpAny _ _ (eval (Expr.ListComp _ [⟨Expr.Name _ _, Expr.Name _ _, [], _⟩] _ _) _) _ _ _); refine hold_in ?_)
  trivial
abbrev lessAs (z : Z) : List (Addr × Obj) := [((z.c 0).a, listOf #[.int (z.c 0).r (z.c 0).t0, .int (z.c 0).g (z.c 0).t1, .int (z.c 0).b (z.c 0).t2] (z.c 0).k), ((z.c 1).a, listOf #[.int (z.c 1).r (z.c 1).t0, .int (z.c 1).g (z.c 1).t1, .int (z.c 1).b (z.c 1).t2] (z.c 1).k)]
abbrev lessVs (z : Z) : List Value := [.ref (z.c 0).a, .ref (z.c 1).a]
abbrev lessOut (z : Z) : Heap → Heap → Value → Prop := fun hs h' rr => ∃ D o, rr = .ref D ∧ hs.get? D = none ∧ h'.get? D = some o ∧ ∃ t0 t1 t2 n, o = listOf #[.int ((z.c 0).r - (z.c 1).r - min ((z.c 0).r - (z.c 1).r) (min ((z.c 0).g - (z.c 1).g) ((z.c 0).b - (z.c 1).b))) t0, .int ((z.c 0).g - (z.c 1).g - min ((z.c 0).r - (z.c 1).r) (min ((z.c 0).g - (z.c 1).g) ((z.c 0).b - (z.c 1).b))) t1, .int ((z.c 0).b - (z.c 1).b - min ((z.c 0).r - (z.c 1).r) (min ((z.c 0).g - (z.c 1).g) ((z.c 0).b - (z.c 1).b))) t2] n
def lessPre (z : Z) : Prop := True
def lessS (z : Z) : Cap z 2 (lessAs z) (lessOut z) 55 (lessVs z) := by
  refine' ⟨_, ?_⟩
  rotate_left
  intro H hR
  unfold CtZ
  have X := H.X
  revert X; k_fill; intro X
  k_dflt (refine' enterEC ?k1 ?k2 ?k3 ?k4 ?k5 ?kA ?kF ?kK ?k6 ?k7 ?k8 ?k9 ?kB ?kD ?kR ?c2 ?c3 ?c4; (case kA => exact rfl); (case kF => exact rfl); (case kK => exact H.hk); (case k1 => exact H.B); (case k2 => exact H.F); (case k3 => exact H.X); (case k4 => exact H.N); (case k5 => exact H.T); (case k6 => k_is); (case k7 => k_is); (case k8 => (have hd := H.hd; ktr_room)); (case k9 => exact BindsTo.of_eq rfl); (case kB => exact rfl); (case kD => decide +kernel); (case c2 => exact rfl); (case c3 => exact rfl); (case c4 => exact rfl))
  exact hR
@[irreducible] def lessP (z : Z) : Prop := lessPre z → Hyp z 2 (lessAs z) (lessOut z) → (lessS z).1 z.e
@[irreducible] noncomputable def lessC : Z := eps lessP
set_option maxHeartbeats 2000000 in
theorem less_walk : lessP lessC := by
  unfold lessP
  intro hp H
  skip
  obtain ⟨B, F, X, N, T, hk, hd, hu, hret⟩ := H
  unfold lessS
  (try dsimp only)
  revert X; k_fill; intro X
  intro G' F' N' Y' B' X' T' l1
  (try k_lt l1); (first | (have hY := CellsAre.one Y'; obtain ⟨o', hE', d1'⟩ := hY; rw [hE'] at N') | (have hY := CellsAre.two Y'; obtain ⟨o', o2', hE', d1', d2'⟩ := hY; rw [hE'] at N')); clear Y'; (try simp only [List.cons_append, List.nil_append] at N'); (try dsimp only); (try k_lift B')
  show wpAny _ _ _ _ _ _
  k_fold
  repeat' (first | (k_unfold; (try dsimp only)) | walk1 | (dsimp only; walk1) | (leave1; (try dsimp only)) | fail "no step")
  unfold Hold
  (rename Fr _ _ _ _ => F5); (rename News _ _ _ _ => N5)
  refine ListComp_map (val := fun i => [(lessC.c 0).r - (lessC.c 1).r - min ((lessC.c 0).r - (lessC.c 1).r) (min ((lessC.c 0).g - (lessC.c 1).g) ((lessC.c 0).b - (lessC.c 1).b)), (lessC.c 0).g - (lessC.c 1).g - min ((lessC.c 0).r - (lessC.c 1).r) (min ((lessC.c 0).g - (lessC.c 1).g) ((lessC.c 0).b - (lessC.c 1).b)), (lessC.c 0).b - (lessC.c 1).b - min ((lessC.c 0).r - (lessC.c 1).r) (min ((lessC.c 0).g - (lessC.c 1).g) ((lessC.c 0).b - (lessC.c 1).b))].getD i 0) (by with_unfolding_all rfl) (by decide) (by rfl) (by decide) ?_
  first | walk1 | (dsimp only; walk1)
  refine ⟨_, _, rfl, rfl, News.isList N5 (by k_mem), (by first | size_fits | exact Nat.le_of_ble_eq_true rfl), ?_, ?_⟩
  · intro i v h tk C mm EE hi hK hC hn
    have hi3 : i < 3 := by have := (Array.getElem?_eq_some_iff.mp hi).1; simpa using this
    rcases (show i = 0 ∨ i = 1 ∨ i = 2 by omega) with rfl | rfl | rfl
    all_goals (
      obtain rfl := (Option.some.inj hi).symm
      refine' less_turn rfl rfl rfl (by decide) rfl (by decide) rfl rfl ?mx hK hC hn ?gK ?gD ?ee rfl
      (case gK => exact cell_of' N5 (by k_mem) (by assumption)); (case gD => exact News.isList N5 (by k_mem)); (case ee => exact rfl)
      (case mx => intro s9 Q9 k9 q9; exact LCgL.ld_built (F5.keeps k9) (by k_asm) (by k_asm) (by k_is) (by boot_by_name) (by decide) q9))
  · intro D ys h6 tk6 hk6 hD6 hl6 hys
    obtain ⟨w0, w1, w2, rfl⟩ := ints3 (a := (lessC.c 0).r - (lessC.c 1).r - min ((lessC.c 0).r - (lessC.c 1).r) (min ((lessC.c 0).g - (lessC.c 1).g) ((lessC.c 0).b - (lessC.c 1).b))) (b := (lessC.c 0).g - (lessC.c 1).g - min ((lessC.c 0).r - (lessC.c 1).r) (min ((lessC.c 0).g - (lessC.c 1).g) ((lessC.c 0).b - (lessC.c 1).b))) (c := (lessC.c 0).b - (lessC.c 1).b - min ((lessC.c 0).r - (lessC.c 1).r) (min ((lessC.c 0).g - (lessC.c 1).g) ((lessC.c 0).b - (lessC.c 1).b))) hys
    have hDx : ∀ (b : Addr) o, (b, o) ∈ [((lessC.c 0).a, listOf #[.int (lessC.c 0).r (lessC.c 0).t0, .int (lessC.c 0).g (lessC.c 0).t1, .int (lessC.c 0).b (lessC.c 0).t2] (lessC.c 0).k), ((lessC.c 1).a, listOf #[.int (lessC.c 1).r (lessC.c 1).t0, .int (lessC.c 1).g (lessC.c 1).t1, .int (lessC.c 1).b (lessC.c 1).t2] (lessC.c 1).k)] → D ≠ b := fun b o hb e => by
      have := (N5 (b, o) (by simp only [List.mem_cons, List.not_mem_nil, or_false] at hb ⊢; rcases hb with hb | hb <;> simp [hb])).1
      rw [← e, hD6] at this; cases this
    (try dsimp only)
    refine leaveP_obj (by assumption) (F5.keeps hk6) (keep_news F5 N5 hk6 hD6 hl6) (by intro p hp; simp only [List.mem_cons, List.not_mem_nil, or_false] at hp ⊢; rcases hp with rfl | rfl <;> simp) (List.Mem.head _) (by intro hm; obtain ⟨p, hp, e⟩ := List.mem_map.mp hm; exact hDx p.1 p.2 hp e.symm) ?_
    intro hK hn hg
    exact hret _ _ _ hK ⟨_, _, rfl, hn, hg, w0, w1, w2, 3, rfl⟩
set_option maxHeartbeats 4000000 in
theorem less_all (z : Z) (hp : lessPre z) (H : Hyp z 2 (lessAs z) (lessOut z)) : CtZ z 55 (lessVs z) := (lessS z).2 H fun e => by
  have h := eps_all (P := lessP) (by unfold lessC; rfl) less_walk (z.at e)
  unfold lessP at h
  exact h hp (H.at e)
theorem c_less (x : Addr) (c0 c1 c2 : Int) (tc0 tc1 tc2 : Tok) (nc : Nat)(y : Addr) (d0 d1 d2 : Int) (td0 td1 td2 : Tok) (nd : Nat)  :
   Ct 2 55 [(x, listOf #[.int c0 tc0, .int c1 tc1, .int c2 tc2] nc), (y, listOf #[.int d0 td0, .int d1 td1, .int d2 td2] nd)] [.ref x, .ref y] (fun hs h' rr => ∃ D o, rr = .ref D ∧ hs.get? D = none ∧ h'.get? D = some o ∧ ∃ t0 t1 t2 n, o = listOf #[.int (c0 - d0 - min (c0 - d0) (min (c1 - d1) (c2 - d2))) t0, .int (c1 - d1 - min (c0 - d0) (min (c1 - d1) (c2 - d2))) t1, .int (c2 - d2 - min (c0 - d0) (min (c1 - d1) (c2 - d2))) t2] n) :=
  ct_of (fun _ => 0) (fun _ => 0) (fun k => [⟨x, c0, c1, c2, tc0, tc1, tc2, nc⟩, ⟨y, d0, d1, d2, td0, td1, td2, nd⟩].getD k ⟨0, 0, 0, 0, 0, 0, 0, 0⟩) fun z _ _ hc H => by
    have e0 : z.c 0 = ⟨x, c0, c1, c2, tc0, tc1, tc2, nc⟩ := by rw [hc]; rfl
    have e1 : z.c 1 = ⟨y, d0, d1, d2, td0, td1, td2, nd⟩ := by rw [hc]; rfl
    have h := less_all z (trivial) (by unfold lessAs lessOut; rw [e0, e1]; exact H)
    dsimp only [lessVs] at h
    rw [e0, e1] at h
    exact h
end
theorem words31 : True := by
  k_with_none
  k_with "call builtin:max" => (k_here; (with_reducible show wpAny _ _ (call (Value.builtin "max") [Value.int _ _, Value.int _ _, Value.int _ _]) _ _ _); k_dflt (refine' max3_K ?k1 ?k2 ?k3 ?_; (case k1 => k_asm); (case k2 => k_asm); (case k3 => exact rfl); k_whole); intro h' tk' t' F' N'; (try k_sweep))
  k_with "call builtin:min" => (k_here; (with_reducible show wpAny _ _ (call (Value.builtin "min") [Value.int _ _, Value.int _ _, Value.int _ _]) _ _ _); k_dflt (refine' min3_K ?k1 ?k2 ?k3 ?_; (case k1 => k_asm); (case k2 => k_asm); (case k3 => exact rfl); k_whole); intro h' tk' t' F' N'; (try k_sweep))
  k_with "exec While BoolOp cons nil" => ((with_reducible show wpAny _ _ (exec (Stmt.While _ _ _ _) _) _ _ _); refine hold_in ?_)
  k_with "exec While Compare cons nil" => ((with_reducible show wpAny _ _ (exec (Stmt.While _ _ _ _) _) _ _ _); refine hold_in ?_)
  k_with "subscriptTail Name Slice str ref" => ((with_reducible show wpAny _ _ (subscriptTail _ (Expr.Slice none (some (Expr.BoolOp _ _ _)) none _) _ _) _ _ _); (with_reducible rename Fr _ _ _ _ => F'); (with_reducible rename News _ _ _ _ => N'); refine slice_none_K (s := ⟨_, _, _, _, _⟩) F' N' ?_; intro _ _ _ _ _)
  k_with "eval Subscript" => (k_here; (with_reducible show wpAny _ _ (eval (Expr.Subscript (Expr.Name _ _) (Expr.Slice none (some (Expr.BoolOp _ _ _)) none _) _) _) _ _ _); k_dflt (refine' cutEnd ?k1 ?k2 ?k3 ?k4 ?k5 ?k6 ?k7 ?_; (case k1 => k_asm); (case k2 => k_asm); (case k3 => exact rfl); (case k4 => exact rfl); (case k5 => omega); (case k6 => omega); (case k7 => omega); k_whole); intro h' t' k' F' N'; (try k_sweep))
  k_with "execs cons" => (k_here; (with_reducible refine any_toks ?_); intro tk'; (with_reducible refine wpAny_execs_cons ?_); (try dsimp only))
  k_with "execs nil" => (k_here; (with_reducible refine any_toks ?_); intro tk'; (with_reducible refine wpAny_execs_nil ?_); (try dsimp only))
  k_with "call ref" => (k_here; (with_reducible show wpAny _ _ (call (Value.ref 31) _) _ _ _); k_dflt (refine' use_ct (c_subst _ _ _ _ ?kc) ?k1 ?k2 ?k3 ?k4 ?k5 ?kK ?kS ?kd ?ku ?_; (case kc => assumption); (case k1 => k_asm); (case k2 => k_asm); (case k3 => k_asm); (case k4 => k_asm); (case k5 => k_asm); (case kK => first | exact rfl | assumption); (case kS => intro p hp; cases hp); (case kd => ktr_room); (case ku => ktr_units); k_whole); intro r' h' tk' hK' F' N' ho'; (refine Exists.elim ho' ?_); clear ho' hK'; intro t9 e9; subst e9; (try dsimp only); (try k_sweep))
  k_with "binaryOp Mult str int" => (k_here; (with_reducible show wpAny _ _ (binaryOp Operator.Mult (Value.str _ _) (Value.int _ _)) _ _ _); (first | refine mul_lt (by first | omega | (dsimp only [List.getD_cons_zero, List.getD_cons_succ, Int.toNat]; omega)) (by omega) ?_ | refine mul_gt (by omega) (by omega) ?_); intro t' n')
  k_with "binaryOp Add str str" => (k_here; (with_reducible show wpAny _ _ (binaryOp Operator.Add (Value.str (Wd _ _) _) (Value.str (Wd _ _) _)) _ _ _); (refine add_wd (by omega) (by omega) ?_); intro t' n')
  k_with "subscriptTail Name Constant ref int" => (k_here; (with_reducible show wpAny _ _ (subscriptTail _ (Expr.Constant _ _ _) (Value.ref _) (Value.int _ _)) _ _ _); k_dflt (first | ((with_reducible show wpAny _ _ (subscriptTail _ _ (Value.ref _) (Value.int 0 _)) _ _ _); refine' sub3_0 ?k1 ?k2 ?_ ?k7; (case k1 => k_asm); (case k2 => k_mem); (case k7 => with_unfolding_all rfl); k_whole) | ((with_reducible show wpAny _ _ (subscriptTail _ _ (Value.ref _) (Value.int 1 _)) _ _ _); refine' sub3_1 ?k1 ?k2 ?_ ?k7; (case k1 => k_asm); (case k2 => k_mem); (case k7 => with_unfolding_all rfl); k_whole) | ((with_reducible show wpAny _ _ (subscriptTail _ _ (Value.ref _) (Value.int 2 _)) _ _ _); refine' sub3_2 ?k1 ?k2 ?_ ?k7; (case k1 => k_asm); (case k2 => k_mem); (case k7 => with_unfolding_all rfl); k_whole)))
  k_with "call ref" => (k_here; (with_reducible show wpAny _ _ (call (Value.ref 45) _) _ _ _); k_dflt (refine' use_ct (c_word _ _ _ _ _ _ _ _ ?kc ?ke) ?k1 ?k2 ?k3 ?k4 ?k5 ?kK ?kS ?kd ?ku ?_; (case k1 => k_asm); (case k2 => k_asm); (case k3 => k_asm); (case k4 => k_asm); (case k5 => k_asm); (case kK => first | exact rfl | assumption); (case kS => intro p hp; rw [List.mem_singleton.mp hp]; k_mem); (case kd => ktr_room); (case ku => ktr_units); (case kc => omega); (case ke => omega); k_whole); intro r' h' tk' hK' F' N' ho'; (refine Exists.elim ho' ?_); clear ho' hK'; intro t9 e9; subst e9; (try dsimp only); (try k_sweep))
  k_with "exec Assign cons ListComp" => (k_here; (with_reducible show wpAny _ _ (exec (Stmt.Assign _ (Expr.ListComp _ [⟨Expr.Tuple _ _ _, Expr.Call _ [Expr.Name _ _, Expr.Name _ _] _ _, _, _⟩] _ _) _) _) _ _ _); with_unfolding_all refine wpAny_Assign_Name ?_)
  k_with "eval ListComp" => (k_here; (with_reducible show wpAny _ _ (eval (Expr.ListComp (Expr.BinOp _ _ _ _) [⟨Expr.Tuple _ _ _, Expr.Call _ [Expr.Name _ _, Expr.Name _ _] _ _, _, _⟩] _ _) _) _ _ _); k_dflt (refine ListComp_zip (by k_asm) (by rfl) (by decide) (by rfl) (by decide) (by rfl) (by rfl) (by decide) (by decide) (by decide) ?_))
  k_with "call type:zip" => (k_here; (with_reducible show wpAny _ _ (call (Value.type "zip") [Value.ref _, Value.ref _]) (ZipSrc _ _ _ _ _) _ _); k_dflt (refine' zip_call ?k1 ?k2 ?k3 ?k4 ?k5 ?_; (case k1 => exact rfl); (case k2 => k_asm); (case k3 => k_asm); (case k4 => k_mem); (case k5 => k_mem); k_whole); intro D' t0' t1' t2' h' tk' F' N' l1'; (try simp only [AllNe, and_true] at l1'); (try k_sweep))
  k_with "subscriptTail Name Slice str ref" => ((with_reducible show wpAny _ _ (subscriptTail _ (Expr.Slice none (some _) none _) (Value.str (Wd _ _) _) _) _ _ _); (with_reducible rename Fr _ _ _ _ => F'); (with_reducible rename News _ _ _ _ => N'); refine slice_to_K (s := ⟨_, _, _, _, _⟩) (by assumption) F' N' ?_; intro h' t' k' F' N')
  k_with "eval ListComp" => (k_here; (with_reducible show wpAny _ _ (eval (Expr.ListComp _ [⟨Expr.Name _ _, Expr.Tuple _ _ _, [_], _⟩] _ _) _) _ _ _); k_dflt (refine ListComp_Tup (by k_asm) (by with_unfolding_all rfl) (by decide) (by rfl) (by decide) (by rfl) ?_))
  k_with "SrcTup" => (k_here; k_dflt (refine SrcTup.ledger (by rfl) (by k_asm) (by k_asm) (by k_mem) (by first | exact Nat.le_of_ble_eq_true rfl | size_fits) ?_; intro g'; lct_lit))
  k_with "call ref" => (k_here; (with_reducible show wpAny _ _ (call (Value.ref 50) _) _ _ _); k_dflt (refine' use_read ?k1 ?k2 ?k3 ?k4 ?k5 ?kK ?kd ?ku ?ka ?kb ?_; (case k1 => k_asm); (case k2 => k_asm); (case k3 => k_asm); (case k4 => k_asm); (case k5 => k_asm); (case kK => first | exact rfl | assumption); (case kd => ktr_room); (case ku => ktr_units); (case ka => omega); (case kb => omega); k_whole); intro T' D' t0' t1' t2' t3' n' m' h' tk' F' N' ne' l1' l2'; (try simp only [AllNe, and_true] at l1'); (try simp only [AllNe, and_true] at l2'); (try k_sweep))
  k_with "call ref" => (k_here; (with_reducible show wpAny _ _ (call (Value.ref 21) _) _ _ _); k_dflt (refine' use_obj (c_hsv _ _ _ _ _ _ ?ka ?kb ?kc ?ke ?kf ?kg) ?k1 ?k2 ?k3 ?k4 ?k5 ?kK ?kS ?kd ?ku ?_; (case k1 => k_asm); (case k2 => k_asm); (case k3 => k_asm); (case k4 => k_asm); (case k5 => k_asm); (case kK => first | exact rfl | assumption); (case kS => intro p hp; cases hp); (case kd => ktr_room); (case ku => ktr_units); (case ka => omega); (case kb => omega); (case kc => omega); (case ke => omega); (case kf => omega); (case kg => omega); k_whole); intro D' o' h' tk' F' N' l1' ho'; (try simp only [AllNe, and_true] at l1'); (refine Exists.elim ho' ?_); clear ho'; intro st9 ho'; (refine Exists.elim ho' ?_); clear ho'; intro t91 ho'; (refine Exists.elim ho' ?_); clear ho'; intro t92 ho'; (refine Exists.elim ho' ?_); clear ho'; intro t93 ho'; (refine Exists.elim ho' ?_); clear ho'; intro n9 e9; subst e9; (try dsimp only); (try k_sweep))
  trivial
end Mine
open Mine
namespace Mine
theorem min3 (a b c : Int) : (min a (min b c) = a ∨ min a (min b c) = b ∨ min a (min b c) = c) ∧ min a (min b c) ≤ a ∧ min a (min b c) ≤ b ∧ min a (min b c) ≤ c := by
  refine ⟨?_, Int.min_le_left .., Int.le_trans (Int.min_le_right ..) (Int.min_le_left ..), Int.le_trans (Int.min_le_right ..) (Int.min_le_right ..)⟩
  rcases Int.le_total a (min b c) with h | h
  · exact .inl (Int.min_eq_left h)
  · rw [Int.min_eq_right h]
    rcases Int.le_total b c with k | k
    · exact .inr (.inl (Int.min_eq_left k))
    · exact .inr (.inr (Int.min_eq_right k))
theorem less_facts {a b c r g z : Int} (h : r = a - min a (min b c) ∧ g = b - min a (min b c) ∧ z = c - min a (min b c)) (h1 : a ≤ b + 12 ∧ b ≤ a + 12 ∧ a ≤ c + 12 ∧ c ≤ a + 12 ∧ b ≤ c + 12 ∧ c ≤ b + 12) :
    0 ≤ r ∧ r ≤ 12 ∧ 0 ≤ g ∧ g ≤ 12 ∧ 0 ≤ z ∧ z ≤ 12 := by
  obtain ⟨rfl, rfl, rfl⟩ := h
  have k := min3 a b c
  have s : ∀ x : Int, x ≤ x + 12 := fun x => Int.le_add_of_nonneg_right (by decide)
  have up : ∀ x : Int, x ≤ a + 12 → x ≤ b + 12 → x ≤ c + 12 → x - min a (min b c) ≤ 12 := fun x p q t => Int.sub_left_le_of_le_add (by rcases k.1 with e | e | e <;> rw [e] <;> assumption)
  exact ⟨Int.sub_nonneg_of_le k.2.1, up a (s a) h1.1 h1.2.2.1, Int.sub_nonneg_of_le k.2.2.1, up b h1.2.1 (s b) h1.2.2.2.2.1, Int.sub_nonneg_of_le k.2.2.2, up c h1.2.2.2.1 h1.2.2.2.2.2 (s c)⟩
theorem use_less {x y : Addr} {c0 c1 c2 d0 d1 d2 : Int} {tc0 tc1 tc2 td0 td1 td2 : Tok} {nc nd : Nat}
    {w : World} {mean : ExcName → Option Value} {mg mb : Str → Option Value} {dp un : Nat} {gd : Option (List Code)} {cn : Str} {cs : Scope} {a : Addr} {ccd : Value} {cl : List (Str × Addr)} {outer : List Env} {A₀ : Around} {base h₀ : Heap} {L : Addr} {m : Str → Option Value} {s : Shared} {Q E : Value → Shared → Prop} {news : List (Addr × Obj)}
    (B : Below A₀ base outer h₀) (F : Fr h₀ L s.heap m) (X : (Mine.fkh.heap_1_1 w.params).In h₀) (N : News h₀ L s.heap news) (T : Top Mine.fkh.view_1_2 (looseW Mine.fkh.view_1_2 [Str.ofString "EXACT_TOKEN_TYPES"]) mean mg mb h₀) (hk : cs.kind = .function)
    (hx : (x, listOf #[.int c0 tc0, .int c1 tc1, .int c2 tc2] nc) ∈ news) (hy : (y, listOf #[.int d0 td0, .int d1 td1, .int d2 td2] nd) ∈ news) (hd : dp + 2 < recursionLimit) (hu : un + 16 * 2 < cLine)
    (hb : c0 - d0 ≤ c1 - d1 + 12 ∧ c1 - d1 ≤ c0 - d0 + 12 ∧ c0 - d0 ≤ c2 - d2 + 12 ∧ c2 - d2 ≤ c0 - d0 + 12 ∧ c1 - d1 ≤ c2 - d2 + 12 ∧ c2 - d2 ≤ c1 - d1 + 12)
    (h : ∀ D r g b t0 t1 t2 n h' tk', Hold (r = (c0 - d0) - min (c0 - d0) (min (c1 - d1) (c2 - d2)) ∧ g = (c1 - d1) - min (c0 - d0) (min (c1 - d1) (c2 - d2)) ∧ b = (c2 - d2) - min (c0 - d0) (min (c1 - d1) (c2 - d2))) → (0 ≤ r ∧ r ≤ 12 ∧ 0 ≤ g ∧ g ≤ 12 ∧ 0 ≤ b ∧ b ≤ 12) →
      Fr h₀ L h' m → News h₀ L h' ((D, listOf #[.int r t0, .int g t1, .int b t2] n) :: news) → AllNe D news → Q (.ref D) { s with heap := h', toks := tk' }) :
    wpAny (model PySem.Challenge.rw_rl0069_01.row.prog w) (ktrTop dp un gd cn cs L a ccd cl outer) (call (.ref 55) [.ref x, .ref y]) Q E s := by
  refine use_obj (c_less x c0 c1 c2 tc0 tc1 tc2 nc y d0 d1 d2 td0 td1 td2 nd) B F X N T hk ?_ hd hu fun D o h' tk' F' N' l ho => ?_
  · intro p hp
    simp only [List.mem_cons, List.not_mem_nil, or_false] at hp
    rcases hp with rfl | rfl
    · exact hx
    · exact hy
  · obtain ⟨t0, t1, t2, n, rfl⟩ := ho
    exact h D _ _ _ t0 t1 t2 n h' tk' ⟨rfl, rfl, rfl⟩ (less_facts ⟨rfl, rfl, rfl⟩ hb) F' N' l
end Mine
namespace Mine
theorem words32 : True := by
  k_with "call ref" => (k_here; (with_reducible show wpAny _ _ (call (Value.ref 55) _) _ _ _); k_dflt (refine' use_less ?k1 ?k2 ?k3 ?k4 ?k5 ?kK ?ka ?kb ?kd ?ku ?kc ?_; (case k1 => k_asm); (case k2 => k_asm); (case k3 => k_asm); (case k4 => k_asm); (case k5 => k_asm); (case kK => first | exact rfl | assumption); (case ka => k_mem); (case kb => k_mem); (case kd => ktr_room); (case ku => ktr_units); (case kc => omega); k_whole); intro D' r' g' b' t0' t1' t2' n' h' tk' hl' hf' F' N' l1'; (try simp only [AllNe, and_true] at l1'); (try k_sweep))
  trivial
end Mine
namespace Mine
def hueX (r g b : Int) : UInt64 := Float64.add (Float64.mul (Float64.mul (hueOf r g b) (Float64.ofInt 12)) (Float64.ofInt (max r (max g b)))) (Float64.ofInt 1)
def onAny (r g b : Int) : Bool := [max r (max g b), 3 * max r (max g b), 5 * max r (max g b)].any fun x => x == (Flt.toInt Float64.truncOf (hueX r g b)).fdiv 2
/-- two of the three are the greatest -/
def On3 (r g b : Int) : Bool := decide ((r = g ∧ b ≤ r) ∨ (r = b ∧ g ≤ r) ∨ (g = b ∧ r ≤ g))
def okHue (r g b : Int) : Bool := !Float64.isInf (hueX r g b) && !Float64.isNaN (hueX r g b) && (onAny r g b == On3 r g b)
theorem hue_a : ∀ g : Nat, g < 13 → ∀ b : Nat, b < 13 → (0 < g ∨ 0 < b) → okHue 0 (g : Int) (b : Int) = true := by decide +kernel
theorem hue_b : ∀ r : Nat, r < 13 → ∀ b : Nat, b < 13 → (0 < r ∨ 0 < b) → okHue (r : Int) 0 (b : Int) = true := by decide +kernel
theorem hue_c : ∀ r : Nat, r < 13 → ∀ g : Nat, g < 13 → (0 < r ∨ 0 < g) → okHue (r : Int) (g : Int) 0 = true := by decide +kernel
theorem hue_ok {r g b : Int} (h : 0 ≤ r ∧ r ≤ 12 ∧ 0 ≤ g ∧ g ≤ 12 ∧ 0 ≤ b ∧ b ≤ 12) (h0 : r = 0 ∨ g = 0 ∨ b = 0) (hm : max r (max g b) ≠ 0) : Float64.isInf (hueX r g b) = false ∧ Float64.isNaN (hueX r g b) = false ∧ onAny r g b = On3 r g b := by
  have k : okHue r g b = true := by
    obtain ⟨r, rfl⟩ := Int.eq_ofNat_of_zero_le h.1
    obtain ⟨g, rfl⟩ := Int.eq_ofNat_of_zero_le h.2.2.1
    obtain ⟨b, rfl⟩ := Int.eq_ofNat_of_zero_le h.2.2.2.2.1
    rcases h0 with e | e | e
    · have e' : r = 0 := by omega
      subst e'; exact hue_a g (by omega) b (by omega) (by omega)
    · have e' : g = 0 := by omega
      subst e'; exact hue_b r (by omega) b (by omega) (by omega)
    · have e' : b = 0 := by omega
      subst e'; exact hue_c r (by omega) g (by omega) (by omega)
  unfold okHue at k
  simp only [Bool.and_eq_true, Bool.not_eq_true', beq_iff_eq] at k
  exact ⟨k.1.1, k.1.2, k.2⟩
end Mine
namespace Mine
set_option pp.deepTerms false
set_option pp.deepTerms.threshold 10
theorem on3_shift (a b c m : Int) : On3 (a - m) (b - m) (c - m) = On3 a b c := by
  unfold On3; simp only [Int.sub_left_inj, Int.sub_le_sub_right_iff]
theorem on_end0 {a b c r g z : Int} (h : Hold (r = a - min a (min b c) ∧ g = b - min a (min b c) ∧ z = c - min a (min b c))) (hm : max r (max g z) = 0) : On3 a b c = (max r (max g z) == 0) := by
  obtain ⟨h1, h2, h3⟩ := h
  have k := min3 a b c
  have e1 : a = min a (min b c) := Int.le_antisymm (Int.le_of_sub_nonpos (h1 ▸ hm ▸ Int.le_max_left _ _)) k.2.1
  have e2 : b = min a (min b c) := Int.le_antisymm (Int.le_of_sub_nonpos (h2 ▸ hm ▸ Int.le_trans (Int.le_max_left _ _) (Int.le_max_right _ _))) k.2.2.1
  have e3 : c ≤ a := Int.le_trans (Int.le_of_sub_nonpos (h3 ▸ hm ▸ Int.le_trans (Int.le_max_right _ _) (Int.le_max_right _ _))) k.2.1
  rw [hm]
  exact decide_eq_true (.inl ⟨e1.trans e2.symm, e3⟩)
theorem on_zero {a b c r g z : Int} (h : Hold (r = a - min a (min b c) ∧ g = b - min a (min b c) ∧ z = c - min a (min b c))) : r = 0 ∨ g = 0 ∨ z = 0 := by
  obtain ⟨h1, h2, h3⟩ := h
  rcases (min3 a b c).1 with e | e | e <;> rw [e] at h1 h2 h3
  · exact .inl (h1.trans (Int.sub_self _))
  · exact .inr (.inl (h2.trans (Int.sub_self _)))
  · exact .inr (.inr (h3.trans (Int.sub_self _)))
theorem on_end {a b c r g z : Int} (h : Hold (r = a - min a (min b c) ∧ g = b - min a (min b c) ∧ z = c - min a (min b c))) (hf : 0 ≤ r ∧ r ≤ 12 ∧ 0 ≤ g ∧ g ≤ 12 ∧ 0 ≤ z ∧ z ≤ 12) (hm : max r (max g z) ≠ 0) : On3 a b c = onAny r g z := by
  have k := (hue_ok hf (on_zero h) hm).2.2
  obtain ⟨h1, h2, h3⟩ := h
  rw [k, h1, h2, h3, on3_shift]
theorem on_nan {a b c r g z : Int} (h : Hold (r = a - min a (min b c) ∧ g = b - min a (min b c) ∧ z = c - min a (min b c))) (hf : 0 ≤ r ∧ r ≤ 12 ∧ 0 ≤ g ∧ g ≤ 12 ∧ 0 ≤ z ∧ z ≤ 12) (hm : max r (max g z) ≠ 0) (hn : Float64.isNaN (hueX r g z) = true) : False := by
  have k := (hue_ok hf (on_zero h) hm).2.1
  rw [k] at hn; cases hn
theorem on_inf {a b c r g z : Int} (h : Hold (r = a - min a (min b c) ∧ g = b - min a (min b c) ∧ z = c - min a (min b c))) (hf : 0 ≤ r ∧ r ≤ 12 ∧ 0 ≤ g ∧ g ≤ 12 ∧ 0 ≤ z ∧ z ≤ 12) (hm : max r (max g z) ≠ 0) (hn : Float64.isInf (hueX r g z) = true) : False := by
  have k := (hue_ok hf (on_zero h) hm).1
  rw [k] at hn; cases hn
abbrev onAs (z : Z) : List (Addr × Obj) := [((z.c 0).a, listOf #[.int (z.c 0).r (z.c 0).t0, .int (z.c 0).g (z.c 0).t1, .int (z.c 0).b (z.c 0).t2] (z.c 0).k), ((z.c 1).a, listOf #[.int (z.c 1).r (z.c 1).t0, .int (z.c 1).g (z.c 1).t1, .int (z.c 1).b (z.c 1).t2] (z.c 1).k)]
abbrev onVs (z : Z) : List Value := [.ref (z.c 0).a, .ref (z.c 1).a]
abbrev onOut (z : Z) : Heap → Heap → Value → Prop := fun _ _ r => r = .bool (On3 ((z.c 0).r - (z.c 1).r) ((z.c 0).g - (z.c 1).g) ((z.c 0).b - (z.c 1).b))
def onPre (z : Z) : Prop := ((z.c 0).r - (z.c 1).r ≤ (z.c 0).g - (z.c 1).g + 12 ∧ (z.c 0).g - (z.c 1).g ≤ (z.c 0).r - (z.c 1).r + 12 ∧ (z.c 0).r - (z.c 1).r ≤ (z.c 0).b - (z.c 1).b + 12 ∧ (z.c 0).b - (z.c 1).b ≤ (z.c 0).r - (z.c 1).r + 12 ∧ (z.c 0).g - (z.c 1).g ≤ (z.c 0).b - (z.c 1).b + 12 ∧ (z.c 0).b - (z.c 1).b ≤ (z.c 0).g - (z.c 1).g + 12)
def onS (z : Z) : Cap z 4 (onAs z) (onOut z) 62 (onVs z) := by
  refine' ⟨_, ?_⟩
  rotate_left
  intro H hR
  unfold CtZ
  have X := H.X
  revert X; k_fill; intro X
  k_dflt (refine' enterE ?k1 ?k2 ?k3 ?k4 ?k5 ?kA ?kF ?kK ?k6 ?k7 ?k8 ?k9 ?kB ?kR ?c2 ?c3 ?c4 ?c5; (case kA => exact rfl); (case kF => exact rfl); (case kK => exact H.hk); (case k1 => exact H.B); (case k2 => exact H.F); (case k3 => exact H.X); (case k4 => exact H.N); (case k5 => exact H.T); (case k6 => k_is); (case k7 => k_is); (case k8 => (have hd := H.hd; ktr_room)); (case k9 => exact BindsTo.of_eq rfl); (case c5 => decide); (case kB => exact locs rfl); (case c2 => exact rfl); (case c3 => exact rfl); (case c4 => exact rfl))
  exact hR
@[irreducible] def onP (z : Z) : Prop := onPre z → Hyp z 4 (onAs z) (onOut z) → (onS z).1 z.e
@[irreducible] noncomputable def onC : Z := eps onP
set_option maxHeartbeats 2000000 in
theorem on_walk : onP onC := by
  unfold onP
  intro hp H
  unfold onPre at hp; have hb := hp
  obtain ⟨B, F, X, N, T, hk, hd, hu, hret⟩ := H
  unfold onS
  (try dsimp only)
  revert X; k_fill; intro X
  intro G' F' N' B' X' T' l1
  (try k_lt l1); (try dsimp only); (try k_lift B')
  show wpAny _ _ _ _ _ _
  k_fold
  repeat' (first | (k_unfold; (try dsimp only)) | walk1 | (dsimp only; walk1) | (leave1; (try dsimp only)) | fail "no step")
  · (try dsimp only)
    refine leaveP_ (by assumption) (by k_asm) (by k_asm) (by intro p hp; simp only [List.mem_cons, List.not_mem_nil, or_false] at hp ⊢; rcases hp with rfl | rfl <;> simp) ?_
    intro hK _
    exact hret _ _ _ hK (congrArg Value.bool (on_end0 (by assumption) (by assumption)).symm)
  · exact (on_nan (by assumption) (by assumption) (by assumption) (by assumption)).elim
  · exact (on_inf (by assumption) (by assumption) (by assumption) (by assumption)).elim
  · (try dsimp only)
    refine leaveP_ (by assumption) (by k_asm) (by k_asm) (by intro p hp; simp only [List.mem_cons, List.not_mem_nil, or_false] at hp ⊢; rcases hp with rfl | rfl <;> simp) ?_
    intro hK _
    exact hret _ _ _ hK (congrArg Value.bool (on_end (by assumption) (by assumption) (by assumption)).symm)
set_option maxHeartbeats 4000000 in
theorem on_all (z : Z) (hp : onPre z) (H : Hyp z 4 (onAs z) (onOut z)) : CtZ z 62 (onVs z) := (onS z).2 H fun e => by
  have h := eps_all (P := onP) (by unfold onC; rfl) on_walk (z.at e)
  unfold onP at h
  have h2 := h hp (H.at e)
  unfold onS at h2 ⊢
  dsimp only [Z.at] at h2 ⊢
  exact h2
theorem c_on (x : Addr) (c0 c1 c2 : Int) (tc0 tc1 tc2 : Tok) (nc : Nat)(y : Addr) (d0 d1 d2 : Int) (td0 td1 td2 : Tok) (nd : Nat) (hb : c0 - d0 ≤ c1 - d1 + 12 ∧ c1 - d1 ≤ c0 - d0 + 12 ∧ c0 - d0 ≤ c2 - d2 + 12 ∧ c2 - d2 ≤ c0 - d0 + 12 ∧ c1 - d1 ≤ c2 - d2 + 12 ∧ c2 - d2 ≤ c1 - d1 + 12) :
   Ct 4 62 [(x, listOf #[.int c0 tc0, .int c1 tc1, .int c2 tc2] nc), (y, listOf #[.int d0 td0, .int d1 td1, .int d2 td2] nd)] [.ref x, .ref y] (fun _ _ r => r = .bool (On3 (c0 - d0) (c1 - d1) (c2 - d2))) :=
  ct_of (fun _ => 0) (fun _ => 0) (fun k => [⟨x, c0, c1, c2, tc0, tc1, tc2, nc⟩, ⟨y, d0, d1, d2, td0, td1, td2, nd⟩].getD k ⟨0, 0, 0, 0, 0, 0, 0, 0⟩) fun z _ _ hc H => by
    have e0 : z.c 0 = ⟨x, c0, c1, c2, tc0, tc1, tc2, nc⟩ := by rw [hc]; rfl
    have e1 : z.c 1 = ⟨y, d0, d1, d2, td0, td1, td2, nd⟩ := by rw [hc]; rfl
    have h := on_all z (by unfold onPre; rw [e0, e1]; exact hb) (by unfold onAs onOut; rw [e0, e1]; exact H)
    dsimp only [onVs] at h
    rw [e0, e1] at h
    exact h
end Mine
namespace Mine
theorem use_on {x y : Addr} {c0 c1 c2 d0 d1 d2 : Int} {tc0 tc1 tc2 td0 td1 td2 : Tok} {nc nd : Nat}
    {w : World} {mean : ExcName → Option Value} {mg mb : Str → Option Value} {dp un : Nat} {gd : Option (List Code)} {cn : Str} {cs : Scope} {a : Addr} {ccd : Value} {cl : List (Str × Addr)} {outer : List Env} {A₀ : Around} {base h₀ : Heap} {L : Addr} {m : Str → Option Value} {s : Shared} {Q E : Value → Shared → Prop} {news : List (Addr × Obj)}
    (B : Below A₀ base outer h₀) (F : Fr h₀ L s.heap m) (X : (Mine.fkh.heap_1_1 w.params).In h₀) (N : News h₀ L s.heap news) (T : Top Mine.fkh.view_1_2 (looseW Mine.fkh.view_1_2 [Str.ofString "EXACT_TOKEN_TYPES"]) mean mg mb h₀) (hk : cs.kind = .function)
    (hx : (x, listOf #[.int c0 tc0, .int c1 tc1, .int c2 tc2] nc) ∈ news) (hy : (y, listOf #[.int d0 td0, .int d1 td1, .int d2 td2] nd) ∈ news) (hd : dp + 4 < recursionLimit) (hu : un + 16 * 4 < cLine)
    (hb : c0 - d0 ≤ c1 - d1 + 12 ∧ c1 - d1 ≤ c0 - d0 + 12 ∧ c0 - d0 ≤ c2 - d2 + 12 ∧ c2 - d2 ≤ c0 - d0 + 12 ∧ c1 - d1 ≤ c2 - d2 + 12 ∧ c2 - d2 ≤ c1 - d1 + 12)
    (h : ∀ h' tk', Fr h₀ L h' m → News h₀ L h' news → Q (.bool (On3 (c0 - d0) (c1 - d1) (c2 - d2))) { s with heap := h', toks := tk' }) :
    wpAny (model PySem.Challenge.rw_rl0069_01.row.prog w) (ktrTop dp un gd cn cs L a ccd cl outer) (call (.ref 62) [.ref x, .ref y]) Q E s := by
  refine use_ct (c_on x c0 c1 c2 tc0 tc1 tc2 nc y d0 d1 d2 td0 td1 td2 nd hb) B F X N T hk ?_ hd hu fun r h' tk' _ F' N' ho => ?_
  · intro p hp
    simp only [List.mem_cons, List.not_mem_nil, or_false] at hp
    rcases hp with rfl | rfl
    · exact hx
    · exact hy
  · subst ho
    exact h h' tk' F' N'
end Mine
open Mine
namespace Mine
theorem words33 : True := by
  k_with "call ref" => (k_here; (with_reducible show wpAny _ _ (call (Value.ref 62) _) _ _ _); k_dflt (refine' use_on ?k1 ?k2 ?k3 ?k4 ?k5 ?kK ?ka ?kb ?kd ?ku ?kc ?_; (case k1 => k_asm); (case k2 => k_asm); (case k3 => k_asm); (case k4 => k_asm); (case k5 => k_asm); (case kK => first | exact rfl | assumption); (case ka => k_mem); (case kb => k_mem); (case kd => ktr_room); (case ku => ktr_units); (case kc => omega); k_whole); intro h' tk' F' N'; (try k_sweep))
  trivial
end Mine
namespace Mine
set_option pp.deepTerms false
set_option pp.deepTerms.threshold 10
theorem shift_dist (p q z : Int) : max (p - z) (max (q - z) 0) - min (p - z) (min (q - z) 0) = max p (max q z) - min p (min q z) := by
  have h0 : (0 : Int) = z - z := (Int.sub_self z).symm
  rw [h0, Int.sub_max_sub_right, Int.sub_max_sub_right, Int.sub_min_sub_right, Int.sub_min_sub_right]
  clear h0
  generalize max p (max q z) = a
  generalize min p (min q z) = b
  omega
theorem lev_way {c0 c1 c2 d0 d1 d2 : Int} (hc1 : 1 ≤ 4 + c0 - c1 ∧ 4 + c0 - c1 ≤ 7) (hc2 : 1 ≤ 4 + c1 - c2 ∧ 4 + c1 - c2 ≤ 7) (hd1 : 1 ≤ 4 + d0 - d1 ∧ 4 + d0 - d1 ≤ 7) (hd2 : 1 ≤ 4 + d1 - d2 ∧ 4 + d1 - d2 ≤ 7) :
    2 * levV (4 + c0 - c1).toNat (4 + c1 - c2).toNat (4 + d0 - d1).toNat (4 + d1 - d2).toNat = 2 * (max (c0 - d0) (max (c1 - d1) (c2 - d2)) - min (c0 - d0) (min (c1 - d1) (c2 - d2))) := by
  have e1 : ((4 + c0 - c1).toNat : Int) = 4 + c0 - c1 := Int.toNat_of_nonneg (Int.le_trans (by decide) hc1.1)
  have e2 : ((4 + c1 - c2).toNat : Int) = 4 + c1 - c2 := Int.toNat_of_nonneg (Int.le_trans (by decide) hc2.1)
  have e3 : ((4 + d0 - d1).toNat : Int) = 4 + d0 - d1 := Int.toNat_of_nonneg (Int.le_trans (by decide) hd1.1)
  have e4 : ((4 + d1 - d2).toNat : Int) = 4 + d1 - d2 := Int.toNat_of_nonneg (Int.le_trans (by decide) hd2.1)
  clear hc1 hc2 hd1 hd2
  unfold levV
  rw [e1, e2, e3, e4]
  rw [show 4 + c0 - c1 - (4 + d0 - d1) + (4 + c1 - c2 - (4 + d1 - d2)) = (c0 - d0) - (c2 - d2) by clear e1 e2 e3 e4; omega, show 4 + c1 - c2 - (4 + d1 - d2) = (c1 - d1) - (c2 - d2) by clear e1 e2 e3 e4; omega, shift_dist]
theorem use_lev {c0 c1 c2 d0 d1 d2 : Int} {ta tb tc : Tok}
    {w : World} {mean : ExcName → Option Value} {mg mb : Str → Option Value} {dp un : Nat} {gd : Option (List Code)} {cn : Str} {cs : Scope} {a : Addr} {ccd : Value} {cl : List (Str × Addr)} {outer : List Env} {A₀ : Around} {base h₀ : Heap} {L : Addr} {m : Str → Option Value} {s : Shared} {Q E : Value → Shared → Prop} {news : List (Addr × Obj)}
    (B : Below A₀ base outer h₀) (F : Fr h₀ L s.heap m) (X : (Mine.fkh.heap_1_1 w.params).In h₀) (N : News h₀ L s.heap news) (T : Top Mine.fkh.view_1_2 (looseW Mine.fkh.view_1_2 [Str.ofString "EXACT_TOKEN_TYPES"]) mean mg mb h₀) (hk : cs.kind = .function)
    (hd : dp + 4 < recursionLimit) (hu : un + 16 * 4 < cLine) (hc1 : 1 ≤ 4 + c0 - c1 ∧ 4 + c0 - c1 ≤ 7) (hc2 : 1 ≤ 4 + c1 - c2 ∧ 4 + c1 - c2 ≤ 7) (hd1 : 1 ≤ 4 + d0 - d1 ∧ 4 + d0 - d1 ≤ 7) (hd2 : 1 ≤ 4 + d1 - d2 ∧ 4 + d1 - d2 ≤ 7)
    (h : ∀ v t h' tk', Hold (v = 2 * (max (c0 - d0) (max (c1 - d1) (c2 - d2)) - min (c0 - d0) (min (c1 - d1) (c2 - d2)))) → Fr h₀ L h' m → News h₀ L h' news → Q (.int v t) { s with heap := h', toks := tk' }) :
    wpAny (model PySem.Challenge.rw_rl0069_01.row.prog w) (ktrTop dp un gd cn cs L a ccd cl outer) (call (.ref 38) [.str (Wd (4 + c0 - c1).toNat (4 + c1 - c2).toNat) ta, .str (Wd (4 + d0 - d1).toNat (4 + d1 - d2).toNat) tb, .int 99 tc]) Q E s := by
  refine use_ct (c_lev _ _ _ _ ta tb tc (by omega) (by omega) (by omega) (by omega)) B F X N T hk (by intro p hp; cases hp) hd hu fun r h' tk' _ F' N' ho => ?_
  obtain ⟨t, rfl⟩ := ho
  exact h _ t h' tk' (lev_way hc1 hc2 hd1 hd2) F' N'
theorem hold_out {P : Prop} (h : Hold P) : P := h
theorem way_no {a b c r g z v : Int} {P : Prop} (hv : Hold (v = 2 * (max a (max b c) - min a (min b c)))) (hl : Hold (r = a - min a (min b c) ∧ g = b - min a (min b c) ∧ z = c - min a (min b c))) (hn : v ≠ 2 * max r (max g z)) : P := by
  have hv' : v = 2 * (max a (max b c) - min a (min b c)) := hv
  obtain ⟨h1, h2, h3⟩ := hl
  rw [h1, h2, h3, Int.sub_max_sub_right, Int.sub_max_sub_right] at hn
  exact absurd hv' hn
section
theorem words34 : True := by
  k_with "call ref" => (k_here; (with_reducible show wpAny _ _ (call (Value.ref 38) _) _ _ _); k_dflt (refine' use_lev ?k1 ?k2 ?k3 ?k4 ?k5 ?kK ?kd ?ku ?ka ?kb ?kc ?ke ?_; (case k1 => k_asm); (case k2 => k_asm); (case k3 => k_asm); (case k4 => k_asm); (case k5 => k_asm); (case kK => first | exact rfl | assumption); (case kd => ktr_room); (case ku => ktr_units); (case ka => omega); (case kb => omega); (case kc => omega); (case ke => omega); k_whole); intro v' t' h' tk' hv' F' N'; (try k_sweep))
  trivial
abbrev wayAs (z : Z) : List (Addr × Obj) := [((z.c 0).a, listOf #[.int (z.c 0).r (z.c 0).t0, .int (z.c 0).g (z.c 0).t1, .int (z.c 0).b (z.c 0).t2] (z.c 0).k), ((z.c 1).a, listOf #[.int (z.c 1).r (z.c 1).t0, .int (z.c 1).g (z.c 1).t1, .int (z.c 1).b (z.c 1).t2] (z.c 1).k)]
abbrev wayVs (z : Z) : List Value := [.ref (z.c 0).a, .ref (z.c 1).a]
abbrev wayOut (z : Z) : Heap → Heap → Value → Prop := fun _ _ r => ∃ t, r = .int (2 * (max ((z.c 0).r - (z.c 1).r) (max ((z.c 0).g - (z.c 1).g) ((z.c 0).b - (z.c 1).b)) - min ((z.c 0).r - (z.c 1).r) (min ((z.c 0).g - (z.c 1).g) ((z.c 0).b - (z.c 1).b)))) t
def wayPre (z : Z) : Prop := (((z.c 0).r - (z.c 1).r ≤ (z.c 0).g - (z.c 1).g + 12 ∧ (z.c 0).g - (z.c 1).g ≤ (z.c 0).r - (z.c 1).r + 12 ∧ (z.c 0).r - (z.c 1).r ≤ (z.c 0).b - (z.c 1).b + 12 ∧ (z.c 0).b - (z.c 1).b ≤ (z.c 0).r - (z.c 1).r + 12 ∧ (z.c 0).g - (z.c 1).g ≤ (z.c 0).b - (z.c 1).b + 12 ∧ (z.c 0).b - (z.c 1).b ≤ (z.c 0).g - (z.c 1).g + 12)) ∧ (1 ≤ 4 + (z.c 0).r - (z.c 0).g ∧ 4 + (z.c 0).r - (z.c 0).g ≤ 7) ∧ (1 ≤ 4 + (z.c 0).g - (z.c 0).b ∧ 4 + (z.c 0).g - (z.c 0).b ≤ 7) ∧ (1 ≤ 4 + (z.c 1).r - (z.c 1).g ∧ 4 + (z.c 1).r - (z.c 1).g ≤ 7) ∧ (1 ≤ 4 + (z.c 1).g - (z.c 1).b ∧ 4 + (z.c 1).g - (z.c 1).b ≤ 7)
def wayS (z : Z) : Cap z 6 (wayAs z) (wayOut z) 74 (wayVs z) := by
  refine' ⟨_, ?_⟩
  rotate_left
  intro H hR
  unfold CtZ
  have X := H.X
  revert X; k_fill; intro X
  k_dflt (refine' enterE ?k1 ?k2 ?k3 ?k4 ?k5 ?kA ?kF ?kK ?k6 ?k7 ?k8 ?k9 ?kB ?kR ?c2 ?c3 ?c4 ?c5; (case kA => exact rfl); (case kF => exact rfl); (case kK => exact H.hk); (case k1 => exact H.B); (case k2 => exact H.F); (case k3 => exact H.X); (case k4 => exact H.N); (case k5 => exact H.T); (case k6 => k_is); (case k7 => k_is); (case k8 => (have hd := H.hd; ktr_room)); (case k9 => exact BindsTo.of_eq rfl); (case c5 => decide); (case kB => exact locs rfl); (case c2 => exact rfl); (case c3 => exact rfl); (case c4 => exact rfl))
  exact hR
@[irreducible] def wayP (z : Z) : Prop := wayPre z → Hyp z 6 (wayAs z) (wayOut z) → (wayS z).1 z.e
@[irreducible] noncomputable def wayC : Z := eps wayP
set_option maxHeartbeats 2000000 in
theorem way_walk : wayP wayC := by
  unfold wayP
  intro hp H
  obtain ⟨hb, hc1, hc2, hd1, hd2⟩ := hp
  obtain ⟨B, F, X, N, T, hk, hd, hu, hret⟩ := H
  unfold wayS
  (try dsimp only)
  revert X; k_fill; intro X
  intro G' F' N' B' X' T' l1
  (try k_lt l1); (try dsimp only); (try k_lift B')
  show wpAny _ _ _ _ _ _
  k_fold
  repeat' (first | (k_unfold; (try dsimp only)) | walk1 | (dsimp only; walk1) | (leave1; (try dsimp only)) | fail "no step")
  · (try dsimp only)
    refine leaveP_ (by assumption) (by k_asm) (by k_asm) (by intro p hp; simp only [List.mem_cons, List.not_mem_nil, or_false] at hp ⊢; rcases hp with rfl | rfl <;> simp) ?_
    intro hK _
    refine hret _ _ _ hK ⟨_, congrArg (fun z => Value.int z _) (hold_out ?_)⟩
    with_reducible assumption
  · exact way_no (by assumption) (by assumption) (by assumption)
set_option maxHeartbeats 4000000 in
theorem way_all (z : Z) (hp : wayPre z) (H : Hyp z 6 (wayAs z) (wayOut z)) : CtZ z 74 (wayVs z) := (wayS z).2 H fun e => by
  have h := eps_all (P := wayP) (by unfold wayC; rfl) way_walk (z.at e)
  unfold wayP at h
  exact h hp (H.at e)
theorem c_way (x : Addr) (c0 c1 c2 : Int) (tc0 tc1 tc2 : Tok) (nc : Nat)(y : Addr) (d0 d1 d2 : Int) (td0 td1 td2 : Tok) (nd : Nat) (hb : (c0 - d0 ≤ c1 - d1 + 12 ∧ c1 - d1 ≤ c0 - d0 + 12 ∧ c0 - d0 ≤ c2 - d2 + 12 ∧ c2 - d2 ≤ c0 - d0 + 12 ∧ c1 - d1 ≤ c2 - d2 + 12 ∧ c2 - d2 ≤ c1 - d1 + 12)) (hc1 : 1 ≤ 4 + c0 - c1 ∧ 4 + c0 - c1 ≤ 7) (hc2 : 1 ≤ 4 + c1 - c2 ∧ 4 + c1 - c2 ≤ 7) (hd1 : 1 ≤ 4 + d0 - d1 ∧ 4 + d0 - d1 ≤ 7) (hd2 : 1 ≤ 4 + d1 - d2 ∧ 4 + d1 - d2 ≤ 7) :
   Ct 6 74 [(x, listOf #[.int c0 tc0, .int c1 tc1, .int c2 tc2] nc), (y, listOf #[.int d0 td0, .int d1 td1, .int d2 td2] nd)] [.ref x, .ref y] (fun _ _ r => ∃ t, r = .int (2 * (max (c0 - d0) (max (c1 - d1) (c2 - d2)) - min (c0 - d0) (min (c1 - d1) (c2 - d2)))) t) :=
  ct_of (fun _ => 0) (fun _ => 0) (fun k => [⟨x, c0, c1, c2, tc0, tc1, tc2, nc⟩, ⟨y, d0, d1, d2, td0, td1, td2, nd⟩].getD k ⟨0, 0, 0, 0, 0, 0, 0, 0⟩) fun z _ _ hc H => by
    have e0 : z.c 0 = ⟨x, c0, c1, c2, tc0, tc1, tc2, nc⟩ := by rw [hc]; rfl
    have e1 : z.c 1 = ⟨y, d0, d1, d2, td0, td1, td2, nd⟩ := by rw [hc]; rfl
    have h := way_all z (by unfold wayPre; rw [e0, e1]; exact ⟨hb, hc1, hc2, hd1, hd2⟩) (by unfold wayAs wayOut; rw [e0, e1]; exact H)
    dsimp only [wayVs] at h
    rw [e0, e1] at h
    exact h
end
theorem use_way {x y : Addr} {c0 c1 c2 d0 d1 d2 : Int} {tc0 tc1 tc2 td0 td1 td2 : Tok} {nc nd : Nat}
    {w : World} {mean : ExcName → Option Value} {mg mb : Str → Option Value} {dp un : Nat} {gd : Option (List Code)} {cn : Str} {cs : Scope} {a : Addr} {ccd : Value} {cl : List (Str × Addr)} {outer : List Env} {A₀ : Around} {base h₀ : Heap} {L : Addr} {m : Str → Option Value} {s : Shared} {Q E : Value → Shared → Prop} {news : List (Addr × Obj)}
    (B : Below A₀ base outer h₀) (F : Fr h₀ L s.heap m) (X : (Mine.fkh.heap_1_1 w.params).In h₀) (N : News h₀ L s.heap news) (T : Top Mine.fkh.view_1_2 (looseW Mine.fkh.view_1_2 [Str.ofString "EXACT_TOKEN_TYPES"]) mean mg mb h₀) (hk : cs.kind = .function)
    (hx : (x, listOf #[.int c0 tc0, .int c1 tc1, .int c2 tc2] nc) ∈ news) (hy : (y, listOf #[.int d0 td0, .int d1 td1, .int d2 td2] nd) ∈ news) (hd : dp + 6 < recursionLimit) (hu : un + 16 * 6 < cLine)
    (hb : c0 - d0 ≤ c1 - d1 + 12 ∧ c1 - d1 ≤ c0 - d0 + 12 ∧ c0 - d0 ≤ c2 - d2 + 12 ∧ c2 - d2 ≤ c0 - d0 + 12 ∧ c1 - d1 ≤ c2 - d2 + 12 ∧ c2 - d2 ≤ c1 - d1 + 12)
    (hc1 : 1 ≤ 4 + c0 - c1 ∧ 4 + c0 - c1 ≤ 7) (hc2 : 1 ≤ 4 + c1 - c2 ∧ 4 + c1 - c2 ≤ 7) (hd1 : 1 ≤ 4 + d0 - d1 ∧ 4 + d0 - d1 ≤ 7) (hd2 : 1 ≤ 4 + d1 - d2 ∧ 4 + d1 - d2 ≤ 7)
    (h : ∀ t h' tk', Fr h₀ L h' m → News h₀ L h' news → Q (.int (2 * (max (c0 - d0) (max (c1 - d1) (c2 - d2)) - min (c0 - d0) (min (c1 - d1) (c2 - d2)))) t) { s with heap := h', toks := tk' }) :
    wpAny (model PySem.Challenge.rw_rl0069_01.row.prog w) (ktrTop dp un gd cn cs L a ccd cl outer) (call (.ref 74) [.ref x, .ref y]) Q E s := by
  refine use_ct (c_way x c0 c1 c2 tc0 tc1 tc2 nc y d0 d1 d2 td0 td1 td2 nd hb hc1 hc2 hd1 hd2) B F X N T hk ?_ hd hu fun r h' tk' _ F' N' ho => ?_
  · intro p hp
    simp only [List.mem_cons, List.not_mem_nil, or_false] at hp
    rcases hp with rfl | rfl
    · exact hx
    · exact hy
  · obtain ⟨t, rfl⟩ := ho
    exact h t h' tk' F' N'
theorem words35 : True := by
  k_with_none
  k_with "call builtin:max" => (k_here; (with_reducible show wpAny _ _ (call (Value.builtin "max") [Value.int _ _, Value.int _ _, Value.int _ _]) _ _ _); k_dflt (refine' max3_K ?k1 ?k2 ?k3 ?_; (case k1 => k_asm); (case k2 => k_asm); (case k3 => exact rfl); k_whole); intro h' tk' t' F' N'; (try k_sweep))
  k_with "call builtin:min" => (k_here; (with_reducible show wpAny _ _ (call (Value.builtin "min") [Value.int _ _, Value.int _ _, Value.int _ _]) _ _ _); k_dflt (refine' min3_K ?k1 ?k2 ?k3 ?_; (case k1 => k_asm); (case k2 => k_asm); (case k3 => exact rfl); k_whole); intro h' tk' t' F' N'; (try k_sweep))
  k_with "exec While BoolOp cons nil" => ((with_reducible show wpAny _ _ (exec (Stmt.While _ _ _ _) _) _ _ _); refine hold_in ?_)
  k_with "exec While Compare cons nil" => ((with_reducible show wpAny _ _ (exec (Stmt.While _ _ _ _) _) _ _ _); refine hold_in ?_)
  k_with "subscriptTail Name Slice str ref" => ((with_reducible show wpAny _ _ (subscriptTail _ (Expr.Slice none (some (Expr.BoolOp _ _ _)) none _) _ _) _ _ _); (with_reducible rename Fr _ _ _ _ => F'); (with_reducible rename News _ _ _ _ => N'); refine slice_none_K (s := ⟨_, _, _, _, _⟩) F' N' ?_; intro _ _ _ _ _)
  k_with "eval Subscript" => (k_here; (with_reducible show wpAny _ _ (eval (Expr.Subscript (Expr.Name _ _) (Expr.Slice none (some (Expr.BoolOp _ _ _)) none _) _) _) _ _ _); k_dflt (refine' cutEnd ?k1 ?k2 ?k3 ?k4 ?k5 ?k6 ?k7 ?_; (case k1 => k_asm); (case k2 => k_asm); (case k3 => exact rfl); (case k4 => exact rfl); (case k5 => omega); (case k6 => omega); (case k7 => omega); k_whole); intro h' t' k' F' N'; (try k_sweep))
  k_with "execs cons" => (k_here; (with_reducible refine any_toks ?_); intro tk'; (with_reducible refine wpAny_execs_cons ?_); (try dsimp only))
  k_with "execs nil" => (k_here; (with_reducible refine any_toks ?_); intro tk'; (with_reducible refine wpAny_execs_nil ?_); (try dsimp only))
  k_with "call ref" => (k_here; (with_reducible show wpAny _ _ (call (Value.ref 31) _) _ _ _); k_dflt (refine' use_ct (c_subst _ _ _ _ ?kc) ?k1 ?k2 ?k3 ?k4 ?k5 ?kK ?kS ?kd ?ku ?_; (case kc => assumption); (case k1 => k_asm); (case k2 => k_asm); (case k3 => k_asm); (case k4 => k_asm); (case k5 => k_asm); (case kK => first | exact rfl | assumption); (case kS => intro p hp; cases hp); (case kd => ktr_room); (case ku => ktr_units); k_whole); intro r' h' tk' hK' F' N' ho'; (refine Exists.elim ho' ?_); clear ho' hK'; intro t9 e9; subst e9; (try dsimp only); (try k_sweep))
  k_with "binaryOp Mult str int" => (k_here; (with_reducible show wpAny _ _ (binaryOp Operator.Mult (Value.str _ _) (Value.int _ _)) _ _ _); (first | refine mul_lt (by first | omega | (dsimp only [List.getD_cons_zero, List.getD_cons_succ, Int.toNat]; omega)) (by omega) ?_ | refine mul_gt (by omega) (by omega) ?_); intro t' n')
  k_with "binaryOp Add str str" => (k_here; (with_reducible show wpAny _ _ (binaryOp Operator.Add (Value.str (Wd _ _) _) (Value.str (Wd _ _) _)) _ _ _); (refine add_wd (by omega) (by omega) ?_); intro t' n')
  k_with "subscriptTail Name Constant ref int" => (k_here; (with_reducible show wpAny _ _ (subscriptTail _ (Expr.Constant _ _ _) (Value.ref _) (Value.int _ _)) _ _ _); k_dflt (first | ((with_reducible show wpAny _ _ (subscriptTail _ _ (Value.ref _) (Value.int 0 _)) _ _ _); refine' sub3_0 ?k1 ?k2 ?_ ?k7; (case k1 => k_asm); (case k2 => k_mem); (case k7 => with_unfolding_all rfl); k_whole) | ((with_reducible show wpAny _ _ (subscriptTail _ _ (Value.ref _) (Value.int 1 _)) _ _ _); refine' sub3_1 ?k1 ?k2 ?_ ?k7; (case k1 => k_asm); (case k2 => k_mem); (case k7 => with_unfolding_all rfl); k_whole) | ((with_reducible show wpAny _ _ (subscriptTail _ _ (Value.ref _) (Value.int 2 _)) _ _ _); refine' sub3_2 ?k1 ?k2 ?_ ?k7; (case k1 => k_asm); (case k2 => k_mem); (case k7 => with_unfolding_all rfl); k_whole)))
  k_with "call ref" => (k_here; (with_reducible show wpAny _ _ (call (Value.ref 45) _) _ _ _); k_dflt (refine' use_ct (c_word _ _ _ _ _ _ _ _ ?kc ?ke) ?k1 ?k2 ?k3 ?k4 ?k5 ?kK ?kS ?kd ?ku ?_; (case k1 => k_asm); (case k2 => k_asm); (case k3 => k_asm); (case k4 => k_asm); (case k5 => k_asm); (case kK => first | exact rfl | assumption); (case kS => intro p hp; rw [List.mem_singleton.mp hp]; k_mem); (case kd => ktr_room); (case ku => ktr_units); (case kc => omega); (case ke => omega); k_whole); intro r' h' tk' hK' F' N' ho'; (refine Exists.elim ho' ?_); clear ho' hK'; intro t9 e9; subst e9; (try dsimp only); (try k_sweep))
  k_with "exec Assign cons ListComp" => (k_here; (with_reducible show wpAny _ _ (exec (Stmt.Assign _ (Expr.ListComp _ [⟨Expr.Tuple _ _ _, Expr.Call _ [Expr.Name _ _, Expr.Name _ _] _ _, _, _⟩] _ _) _) _) _ _ _); with_unfolding_all refine wpAny_Assign_Name ?_)
  k_with "eval ListComp" => (k_here; (with_reducible show wpAny _ _ (eval (Expr.ListComp (Expr.BinOp _ _ _ _) [⟨Expr.Tuple _ _ _, Expr.Call _ [Expr.Name _ _, Expr.Name _ _] _ _, _, _⟩] _ _) _) _ _ _); k_dflt (refine ListComp_zip (by k_asm) (by rfl) (by decide) (by rfl) (by decide) (by rfl) (by rfl) (by decide) (by decide) (by decide) ?_))
  k_with "call type:zip" => (k_here; (with_reducible show wpAny _ _ (call (Value.type "zip") [Value.ref _, Value.ref _]) (ZipSrc _ _ _ _ _) _ _); k_dflt (refine' zip_call ?k1 ?k2 ?k3 ?k4 ?k5 ?_; (case k1 => exact rfl); (case k2 => k_asm); (case k3 => k_asm); (case k4 => k_mem); (case k5 => k_mem); k_whole); intro D' t0' t1' t2' h' tk' F' N' l1'; (try simp only [AllNe, and_true] at l1'); (try k_sweep))
  k_with "subscriptTail Name Slice str ref" => ((with_reducible show wpAny _ _ (subscriptTail _ (Expr.Slice none (some _) none _) (Value.str (Wd _ _) _) _) _ _ _); (with_reducible rename Fr _ _ _ _ => F'); (with_reducible rename News _ _ _ _ => N'); refine slice_to_K (s := ⟨_, _, _, _, _⟩) (by assumption) F' N' ?_; intro h' t' k' F' N')
  k_with "eval ListComp" => (k_here; (with_reducible show wpAny _ _ (eval (Expr.ListComp _ [⟨Expr.Name _ _, Expr.Tuple _ _ _, [_], _⟩] _ _) _) _ _ _); k_dflt (refine ListComp_Tup (by k_asm) (by with_unfolding_all rfl) (by decide) (by rfl) (by decide) (by rfl) ?_))
  k_with "SrcTup" => (k_here; k_dflt (refine SrcTup.ledger (by rfl) (by k_asm) (by k_asm) (by k_mem) (by first | exact Nat.le_of_ble_eq_true rfl | size_fits) ?_; intro g'; lct_lit))
  k_with "call ref" => (k_here; (with_reducible show wpAny _ _ (call (Value.ref 50) _) _ _ _); k_dflt (refine' use_read ?k1 ?k2 ?k3 ?k4 ?k5 ?kK ?kd ?ku ?ka ?kb ?_; (case k1 => k_asm); (case k2 => k_asm); (case k3 => k_asm); (case k4 => k_asm); (case k5 => k_asm); (case kK => first | exact rfl | assumption); (case kd => ktr_room); (case ku => ktr_units); (case ka => omega); (case kb => omega); k_whole); intro T' D' t0' t1' t2' t3' n' m' h' tk' F' N' ne' l1' l2'; (try simp only [AllNe, and_true] at l1'); (try simp only [AllNe, and_true] at l2'); (try k_sweep))
  k_with "call ref" => (k_here; (with_reducible show wpAny _ _ (call (Value.ref 21) _) _ _ _); k_dflt (refine' use_obj (c_hsv _ _ _ _ _ _ ?ka ?kb ?kc ?ke ?kf ?kg) ?k1 ?k2 ?k3 ?k4 ?k5 ?kK ?kS ?kd ?ku ?_; (case k1 => k_asm); (case k2 => k_asm); (case k3 => k_asm); (case k4 => k_asm); (case k5 => k_asm); (case kK => first | exact rfl | assumption); (case kS => intro p hp; cases hp); (case kd => ktr_room); (case ku => ktr_units); (case ka => omega); (case kb => omega); (case kc => omega); (case ke => omega); (case kf => omega); (case kg => omega); k_whole); intro D' o' h' tk' F' N' l1' ho'; (try simp only [AllNe, and_true] at l1'); (refine Exists.elim ho' ?_); clear ho'; intro st9 ho'; (refine Exists.elim ho' ?_); clear ho'; intro t91 ho'; (refine Exists.elim ho' ?_); clear ho'; intro t92 ho'; (refine Exists.elim ho' ?_); clear ho'; intro t93 ho'; (refine Exists.elim ho' ?_); clear ho'; intro n9 e9; subst e9; (try dsimp only); (try k_sweep))
  k_with "call ref" => (k_here; (with_reducible show wpAny _ _ (call (Value.ref 55) _) _ _ _); k_dflt (refine' use_less ?k1 ?k2 ?k3 ?k4 ?k5 ?kK ?ka ?kb ?kd ?ku ?kc ?_; (case k1 => k_asm); (case k2 => k_asm); (case k3 => k_asm); (case k4 => k_asm); (case k5 => k_asm); (case kK => first | exact rfl | assumption); (case ka => k_mem); (case kb => k_mem); (case kd => ktr_room); (case ku => ktr_units); (case kc => omega); k_whole); intro D' r' g' b' t0' t1' t2' n' h' tk' hl' hf' F' N' l1'; (try simp only [AllNe, and_true] at l1'); (try k_sweep))
  k_with "call ref" => (k_here; (with_reducible show wpAny _ _ (call (Value.ref 62) _) _ _ _); k_dflt (refine' use_on ?k1 ?k2 ?k3 ?k4 ?k5 ?kK ?ka ?kb ?kd ?ku ?kc ?_; (case k1 => k_asm); (case k2 => k_asm); (case k3 => k_asm); (case k4 => k_asm); (case k5 => k_asm); (case kK => first | exact rfl | assumption); (case ka => k_mem); (case kb => k_mem); (case kd => ktr_room); (case ku => ktr_units); (case kc => omega); k_whole); intro h' tk' F' N'; (try k_sweep))
  trivial
end Mine
open Mine
namespace Mine
theorem words36 : True := by
  k_with "call ref" => (k_here; (with_reducible show wpAny _ _ (call (Value.ref 74) _) _ _ _); k_dflt (refine' use_way ?k1 ?k2 ?k3 ?k4 ?k5 ?kK ?ka ?kb ?kd ?ku ?kc ?ke ?kf ?kg ?kh ?_; (case k1 => k_asm); (case k2 => k_asm); (case k3 => k_asm); (case k4 => k_asm); (case k5 => k_asm); (case kK => first | exact rfl | assumption); (case ka => k_mem); (case kb => k_mem); (case kd => ktr_room); (case ku => ktr_units); (case kc => omega); (case ke => omega); (case kf => omega); (case kg => omega); (case kh => omega); k_whole); intro t' h' tk' F' N'; (try k_sweep))
  trivial
end Mine
namespace Mine
set_option pp.deepTerms false
set_option pp.deepTerms.threshold 10
theorem third_end {a1 b1 a2 b2 a3 b3 : Int} {t0 t1 t2 : Tok} : ∃ u0 u1 u2 n, LCg.lst [.int (-(if b1 > a1 then b1 else a1)) t0, .int (-(if b2 > a2 then b2 else a2)) t1, .int (-(if b3 > a3 then b3 else a3)) t2] = listOf #[.int (-max a1 b1) u0, .int (-max a2 b2) u1, .int (-max a3 b3) u2] n := by
  have e : ∀ a b : Int, -(if b > a then b else a) = -max a b := by intro a b; split <;> omega
  exact ⟨t0, t1, t2, 3, by rw [e, e, e]; rfl⟩
section
theorem words37 : True := by
  k_with "eval ListComp" => ((with_reducible show wpAny _ _ (eval (Expr.ListComp _ _ _ _) _) _ _ _); refine hold_in ?_)
  trivial
abbrev thirdAs (z : Z) : List (Addr × Obj) := [((z.c 0).a, listOf #[.int (z.c 0).r (z.c 0).t0, .int (z.c 0).g (z.c 0).t1, .int (z.c 0).b (z.c 0).t2] (z.c 0).k), ((z.c 1).a, listOf #[.int (z.c 1).r (z.c 1).t0, .int (z.c 1).g (z.c 1).t1, .int (z.c 1).b (z.c 1).t2] (z.c 1).k)]
abbrev thirdVs (z : Z) : List Value := [.ref (z.c 0).a, .ref (z.c 1).a]
abbrev thirdOut (z : Z) : Heap → Heap → Value → Prop := fun hs h' rr => ∃ D o, rr = .ref D ∧ hs.get? D = none ∧ h'.get? D = some o ∧ ∃ t0 t1 t2 n, o = listOf #[.int (-max ((z.c 0).g + (z.c 1).b) ((z.c 0).b + (z.c 1).g)) t0, .int (-max ((z.c 0).r + (z.c 1).b) ((z.c 0).b + (z.c 1).r)) t1, .int (-max ((z.c 0).r + (z.c 1).g) ((z.c 0).g + (z.c 1).r)) t2] n
def thirdPre (z : Z) : Prop := True
def thirdS (z : Z) : Cap z 2 (thirdAs z) (thirdOut z) 67 (thirdVs z) := by
  refine' ⟨_, ?_⟩
  rotate_left
  intro H hR
  unfold CtZ
  have X := H.X
  revert X; k_fill; intro X
  k_dflt (refine' enterEC ?k1 ?k2 ?k3 ?k4 ?k5 ?kA ?kF ?kK ?k6 ?k7 ?k8 ?k9 ?kB ?kD ?kR ?c2 ?c3 ?c4; (case kA => exact rfl); (case kF => exact rfl); (case kK => exact H.hk); (case k1 => exact H.B); (case k2 => exact H.F); (case k3 => exact H.X); (case k4 => exact H.N); (case k5 => exact H.T); (case k6 => k_is); (case k7 => k_is); (case k8 => (have hd := H.hd; ktr_room)); (case k9 => exact BindsTo.of_eq rfl); (case kB => exact rfl); (case kD => decide +kernel); (case c2 => exact rfl); (case c3 => exact rfl); (case c4 => exact rfl))
  exact hR
@[irreducible] def thirdR (z : Z) : Prop := (thirdS z).1 z.e
def thirdP (z : Z) : Prop := thirdPre z → Hyp z 2 (thirdAs z) (thirdOut z) → thirdR z
@[irreducible] noncomputable def thirdC : Z := eps thirdP
set_option maxHeartbeats 2000000 in
theorem third_walk : thirdP thirdC := by
  intro hp H
  skip
  obtain ⟨B, F, X, N, T, hk, hd, hu, hret⟩ := H
  unfold thirdR thirdS
  (try dsimp only)
  revert X; k_fill; intro X
  intro G' F' N' Y' B' X' T' l1
  (try k_lt l1); (first | (have hY := CellsAre.one Y'; obtain ⟨o', hE', d1'⟩ := hY; rw [hE'] at N') | (have hY := CellsAre.two Y'; obtain ⟨o', o2', hE', d1', d2'⟩ := hY; rw [hE'] at N')); clear Y'; (try simp only [List.cons_append, List.nil_append] at N'); (try dsimp only); (try k_lift B')
  show wpAny _ _ _ _ _ _
  k_fold
  repeat' (first | (k_unfold; (try dsimp only)) | walk1 | (dsimp only; walk1) | (leave1; (try dsimp only)) | fail "no step")
  unfold Hold
  (rename Fr _ _ _ _ => F5); (rename News _ _ _ _ => N5)
  refine ListComp_map (val := fun i => [-max ((thirdC.c 0).g + (thirdC.c 1).b) ((thirdC.c 0).b + (thirdC.c 1).g), -max ((thirdC.c 0).r + (thirdC.c 1).b) ((thirdC.c 0).b + (thirdC.c 1).r), -max ((thirdC.c 0).r + (thirdC.c 1).g) ((thirdC.c 0).g + (thirdC.c 1).r)].getD i 0) (by with_unfolding_all rfl) (by decide) (by rfl) (by decide) ?_
  first | walk1 | (dsimp only; walk1)
  refine ⟨_, _, rfl, rfl, News.isList N5 (by k_mem), (by first | size_fits | exact Nat.le_of_ble_eq_true rfl), ?_, ?_⟩
  · intro i v h tk C mm EE hi hK hC hn
    have hi3 : i < 3 := by have := (Array.getElem?_eq_some_iff.mp hi).1; simpa using this
    rcases (show i = 0 ∨ i = 1 ∨ i = 2 by omega) with rfl | rfl | rfl
    all_goals (
      obtain rfl := (Option.some.inj hi).symm
      refine' third_turn rfl rfl rfl (by decide) rfl rfl (by decide) rfl rfl rfl rfl (by decide) (by decide) (by decide) ?mx hK hC hn ?gA ?gB ?gX ?gY ?gT ?n1 ?n2 ?x0 ?x1 ?y0 ?y1 ?ee rfl
      (case gT => exact tup_of N5 (by k_mem)); (case gA => exact cell_of' N5 (by k_mem) (by assumption)); (case gB => exact cell_of' N5 (by k_mem) (by assumption)); (case gX => exact News.isList N5 (by k_mem)); (case gY => exact News.isList N5 (by k_mem))
      (case n1 => exact ⟨by decide, by decide⟩); (case n2 => exact ⟨by decide, by decide⟩); (case x0 => exact rfl); (case x1 => exact rfl); (case y0 => exact rfl); (case y1 => exact rfl); (case ee => exact rfl)
      (case mx => intro s9 Q9 k9 q9; exact LCgL.ld_built (F5.keeps k9) (by k_asm) (by k_asm) (by k_is) (by boot_by_name) (by decide) q9))
  · intro D ys h6 tk6 hk6 hD6 hl6 hys
    obtain ⟨w0, w1, w2, rfl⟩ := ints3 (a := -max ((thirdC.c 0).g + (thirdC.c 1).b) ((thirdC.c 0).b + (thirdC.c 1).g)) (b := -max ((thirdC.c 0).r + (thirdC.c 1).b) ((thirdC.c 0).b + (thirdC.c 1).r)) (c := -max ((thirdC.c 0).r + (thirdC.c 1).g) ((thirdC.c 0).g + (thirdC.c 1).r)) hys
    have hDx : ∀ (b : Addr) o, (b, o) ∈ [((thirdC.c 0).a, listOf #[.int (thirdC.c 0).r (thirdC.c 0).t0, .int (thirdC.c 0).g (thirdC.c 0).t1, .int (thirdC.c 0).b (thirdC.c 0).t2] (thirdC.c 0).k), ((thirdC.c 1).a, listOf #[.int (thirdC.c 1).r (thirdC.c 1).t0, .int (thirdC.c 1).g (thirdC.c 1).t1, .int (thirdC.c 1).b (thirdC.c 1).t2] (thirdC.c 1).k)] → D ≠ b := fun b o hb e => by
      have := (N5 (b, o) (by simp only [List.mem_cons, List.not_mem_nil, or_false] at hb ⊢; rcases hb with hb | hb <;> simp [hb])).1
      rw [← e, hD6] at this; cases this
    (try dsimp only)
    refine leaveP_obj (by assumption) (F5.keeps hk6) (keep_news F5 N5 hk6 hD6 hl6) (by intro p hp; simp only [List.mem_cons, List.not_mem_nil, or_false] at hp ⊢; rcases hp with rfl | rfl <;> simp) (List.Mem.head _) (by intro hm; obtain ⟨p, hp, e⟩ := List.mem_map.mp hm; exact hDx p.1 p.2 hp e.symm) ?_
    intro hK hn hg
    exact hret _ _ _ hK ⟨_, _, rfl, hn, hg, w0, w1, w2, 3, rfl⟩
theorem third_is (z : Z) (e : Ent) : thirdR (z.at e) = (thirdS z).1 e := by
  unfold thirdR thirdS
  rfl
theorem third_all (z : Z) (hp : thirdPre z) (H : Hyp z 2 (thirdAs z) (thirdOut z)) : CtZ z 67 (thirdVs z) := by
  refine (thirdS z).2 H ?_
  intro e
  rw [← third_is z e]
  exact eps_all (P := thirdP) (by unfold thirdC; rfl) third_walk (z.at e) hp (H.at e)
theorem c_third (x : Addr) (c0 c1 c2 : Int) (tc0 tc1 tc2 : Tok) (nc : Nat)(y : Addr) (d0 d1 d2 : Int) (td0 td1 td2 : Tok) (nd : Nat) :
   Ct 2 67 [(x, listOf #[.int c0 tc0, .int c1 tc1, .int c2 tc2] nc), (y, listOf #[.int d0 td0, .int d1 td1, .int d2 td2] nd)] [.ref x, .ref y] (fun hs h' rr => ∃ D o, rr = .ref D ∧ hs.get? D = none ∧ h'.get? D = some o ∧ ∃ t0 t1 t2 n, o = listOf #[.int (-max (c1 + d2) (c2 + d1)) t0, .int (-max (c0 + d2) (c2 + d0)) t1, .int (-max (c0 + d1) (c1 + d0)) t2] n) :=
  ct_of (fun _ => 0) (fun _ => 0) (fun k => [⟨x, c0, c1, c2, tc0, tc1, tc2, nc⟩, ⟨y, d0, d1, d2, td0, td1, td2, nd⟩].getD k ⟨0, 0, 0, 0, 0, 0, 0, 0⟩) fun z _ _ hc H => by
    have e0 : z.c 0 = ⟨x, c0, c1, c2, tc0, tc1, tc2, nc⟩ := by rw [hc]; rfl
    have e1 : z.c 1 = ⟨y, d0, d1, d2, td0, td1, td2, nd⟩ := by rw [hc]; rfl
    have h := third_all z (trivial) (by unfold thirdAs thirdOut; rw [e0, e1]; exact H)
    dsimp only [thirdVs] at h
    rw [e0, e1] at h
    exact h
end
theorem words38 : True := by
  k_with_none
  k_with "call builtin:max" => (k_here; (with_reducible show wpAny _ _ (call (Value.builtin "max") [Value.int _ _, Value.int _ _, Value.int _ _]) _ _ _); k_dflt (refine' max3_K ?k1 ?k2 ?k3 ?_; (case k1 => k_asm); (case k2 => k_asm); (case k3 => exact rfl); k_whole); intro h' tk' t' F' N'; (try k_sweep))
  k_with "call builtin:min" => (k_here; (with_reducible show wpAny _ _ (call (Value.builtin "min") [Value.int _ _, Value.int _ _, Value.int _ _]) _ _ _); k_dflt (refine' min3_K ?k1 ?k2 ?k3 ?_; (case k1 => k_asm); (case k2 => k_asm); (case k3 => exact rfl); k_whole); intro h' tk' t' F' N'; (try k_sweep))
  k_with "exec While BoolOp cons nil" => ((with_reducible show wpAny _ _ (exec (Stmt.While _ _ _ _) _) _ _ _); refine hold_in ?_)
  k_with "exec While Compare cons nil" => ((with_reducible show wpAny _ _ (exec (Stmt.While _ _ _ _) _) _ _ _); refine hold_in ?_)
  k_with "subscriptTail Name Slice str ref" => ((with_reducible show wpAny _ _ (subscriptTail _ (Expr.Slice none (some (Expr.BoolOp _ _ _)) none _) _ _) _ _ _); (with_reducible rename Fr _ _ _ _ => F'); (with_reducible rename News _ _ _ _ => N'); refine slice_none_K (s := ⟨_, _, _, _, _⟩) F' N' ?_; intro _ _ _ _ _)
  k_with "eval Subscript" => (k_here; (with_reducible show wpAny _ _ (eval (Expr.Subscript (Expr.Name _ _) (Expr.Slice none (some (Expr.BoolOp _ _ _)) none _) _) _) _ _ _); k_dflt (refine' cutEnd ?k1 ?k2 ?k3 ?k4 ?k5 ?k6 ?k7 ?_; (case k1 => k_asm); (case k2 => k_asm); (case k3 => exact rfl); (case k4 => exact rfl); (case k5 => omega); (case k6 => omega); (case k7 => omega); k_whole); intro h' t' k' F' N'; (try k_sweep))
  k_with "execs cons" => (k_here; (with_reducible refine any_toks ?_); intro tk'; (with_reducible refine wpAny_execs_cons ?_); (try dsimp only))
  k_with "execs nil" => (k_here; (with_reducible refine any_toks ?_); intro tk'; (with_reducible refine wpAny_execs_nil ?_); (try dsimp only))
  k_with "call ref" => (k_here; (with_reducible show wpAny _ _ (call (Value.ref 31) _) _ _ _); k_dflt (refine' use_ct (c_subst _ _ _ _ ?kc) ?k1 ?k2 ?k3 ?k4 ?k5 ?kK ?kS ?kd ?ku ?_; (case kc => assumption); (case k1 => k_asm); (case k2 => k_asm); (case k3 => k_asm); (case k4 => k_asm); (case k5 => k_asm); (case kK => first | exact rfl | assumption); (case kS => intro p hp; cases hp); (case kd => ktr_room); (case ku => ktr_units); k_whole); intro r' h' tk' hK' F' N' ho'; (refine Exists.elim ho' ?_); clear ho' hK'; intro t9 e9; subst e9; (try dsimp only); (try k_sweep))
  k_with "binaryOp Mult str int" => (k_here; (with_reducible show wpAny _ _ (binaryOp Operator.Mult (Value.str _ _) (Value.int _ _)) _ _ _); (first | refine mul_lt (by first | omega | (dsimp only [List.getD_cons_zero, List.getD_cons_succ, Int.toNat]; omega)) (by omega) ?_ | refine mul_gt (by omega) (by omega) ?_); intro t' n')
  k_with "binaryOp Add str str" => (k_here; (with_reducible show wpAny _ _ (binaryOp Operator.Add (Value.str (Wd _ _) _) (Value.str (Wd _ _) _)) _ _ _); (refine add_wd (by omega) (by omega) ?_); intro t' n')
  k_with "subscriptTail Name Constant ref int" => (k_here; (with_reducible show wpAny _ _ (subscriptTail _ (Expr.Constant _ _ _) (Value.ref _) (Value.int _ _)) _ _ _); k_dflt (first | ((with_reducible show wpAny _ _ (subscriptTail _ _ (Value.ref _) (Value.int 0 _)) _ _ _); refine' sub3_0 ?k1 ?k2 ?_ ?k7; (case k1 => k_asm); (case k2 => k_mem); (case k7 => with_unfolding_all rfl); k_whole) | ((with_reducible show wpAny _ _ (subscriptTail _ _ (Value.ref _) (Value.int 1 _)) _ _ _); refine' sub3_1 ?k1 ?k2 ?_ ?k7; (case k1 => k_asm); (case k2 => k_mem); (case k7 => with_unfolding_all rfl); k_whole) | ((with_reducible show wpAny _ _ (subscriptTail _ _ (Value.ref _) (Value.int 2 _)) _ _ _); refine' sub3_2 ?k1 ?k2 ?_ ?k7; (case k1 => k_asm); (case k2 => k_mem); (case k7 => with_unfolding_all rfl); k_whole)))
  k_with "call ref" => (k_here; (with_reducible show wpAny _ _ (call (Value.ref 45) _) _ _ _); k_dflt (refine' use_ct (c_word _ _ _ _ _ _ _ _ ?kc ?ke) ?k1 ?k2 ?k3 ?k4 ?k5 ?kK ?kS ?kd ?ku ?_; (case k1 => k_asm); (case k2 => k_asm); (case k3 => k_asm); (case k4 => k_asm); (case k5 => k_asm); (case kK => first | exact rfl | assumption); (case kS => intro p hp; rw [List.mem_singleton.mp hp]; k_mem); (case kd => ktr_room); (case ku => ktr_units); (case kc => omega); (case ke => omega); k_whole); intro r' h' tk' hK' F' N' ho'; (refine Exists.elim ho' ?_); clear ho' hK'; intro t9 e9; subst e9; (try dsimp only); (try k_sweep))
  k_with "exec Assign cons ListComp" => (k_here; (with_reducible show wpAny _ _ (exec (Stmt.Assign _ (Expr.ListComp _ [⟨Expr.Tuple _ _ _, Expr.Call _ [Expr.Name _ _, Expr.Name _ _] _ _, _, _⟩] _ _) _) _) _ _ _); with_unfolding_all refine wpAny_Assign_Name ?_)
  k_with "eval ListComp" => (k_here; (with_reducible show wpAny _ _ (eval (Expr.ListComp (Expr.BinOp _ _ _ _) [⟨Expr.Tuple _ _ _, Expr.Call _ [Expr.Name _ _, Expr.Name _ _] _ _, _, _⟩] _ _) _) _ _ _); k_dflt (refine ListComp_zip (by k_asm) (by rfl) (by decide) (by rfl) (by decide) (by rfl) (by rfl) (by decide) (by decide) (by decide) ?_))
  k_with "call type:zip" => (k_here; (with_reducible show wpAny _ _ (call (Value.type "zip") [Value.ref _, Value.ref _]) (ZipSrc _ _ _ _ _) _ _); k_dflt (refine' zip_call ?k1 ?k2 ?k3 ?k4 ?k5 ?_; (case k1 => exact rfl); (case k2 => k_asm); (case k3 => k_asm); (case k4 => k_mem); (case k5 => k_mem); k_whole); intro D' t0' t1' t2' h' tk' F' N' l1'; (try simp only [AllNe, and_true] at l1'); (try k_sweep))
  k_with "subscriptTail Name Slice str ref" => ((with_reducible show wpAny _ _ (subscriptTail _ (Expr.Slice none (some _) none _) (Value.str (Wd _ _) _) _) _ _ _); (with_reducible rename Fr _ _ _ _ => F'); (with_reducible rename News _ _ _ _ => N'); refine slice_to_K (s := ⟨_, _, _, _, _⟩) (by assumption) F' N' ?_; intro h' t' k' F' N')
  k_with "eval ListComp" => (k_here; (with_reducible show wpAny _ _ (eval (Expr.ListComp _ [⟨Expr.Name _ _, Expr.Tuple _ _ _, [_], _⟩] _ _) _) _ _ _); k_dflt (refine ListComp_Tup (by k_asm) (by with_unfolding_all rfl) (by decide) (by rfl) (by decide) (by rfl) ?_))
  k_with "SrcTup" => (k_here; k_dflt (refine SrcTup.ledger (by rfl) (by k_asm) (by k_asm) (by k_mem) (by first | exact Nat.le_of_ble_eq_true rfl | size_fits) ?_; intro g'; lct_lit))
  k_with "call ref" => (k_here; (with_reducible show wpAny _ _ (call (Value.ref 50) _) _ _ _); k_dflt (refine' use_read ?k1 ?k2 ?k3 ?k4 ?k5 ?kK ?kd ?ku ?ka ?kb ?_; (case k1 => k_asm); (case k2 => k_asm); (case k3 => k_asm); (case k4 => k_asm); (case k5 => k_asm); (case kK => first | exact rfl | assumption); (case kd => ktr_room); (case ku => ktr_units); (case ka => omega); (case kb => omega); k_whole); intro T' D' t0' t1' t2' t3' n' m' h' tk' F' N' ne' l1' l2'; (try simp only [AllNe, and_true] at l1'); (try simp only [AllNe, and_true] at l2'); (try k_sweep))
  k_with "call ref" => (k_here; (with_reducible show wpAny _ _ (call (Value.ref 21) _) _ _ _); k_dflt (refine' use_obj (c_hsv _ _ _ _ _ _ ?ka ?kb ?kc ?ke ?kf ?kg) ?k1 ?k2 ?k3 ?k4 ?k5 ?kK ?kS ?kd ?ku ?_; (case k1 => k_asm); (case k2 => k_asm); (case k3 => k_asm); (case k4 => k_asm); (case k5 => k_asm); (case kK => first | exact rfl | assumption); (case kS => intro p hp; cases hp); (case kd => ktr_room); (case ku => ktr_units); (case ka => omega); (case kb => omega); (case kc => omega); (case ke => omega); (case kf => omega); (case kg => omega); k_whole); intro D' o' h' tk' F' N' l1' ho'; (try simp only [AllNe, and_true] at l1'); (refine Exists.elim ho' ?_); clear ho'; intro st9 ho'; (refine Exists.elim ho' ?_); clear ho'; intro t91 ho'; (refine Exists.elim ho' ?_); clear ho'; intro t92 ho'; (refine Exists.elim ho' ?_); clear ho'; intro t93 ho'; (refine Exists.elim ho' ?_); clear ho'; intro n9 e9; subst e9; (try dsimp only); (try k_sweep))
  k_with "call ref" => (k_here; (with_reducible show wpAny _ _ (call (Value.ref 55) _) _ _ _); k_dflt (refine' use_less ?k1 ?k2 ?k3 ?k4 ?k5 ?kK ?ka ?kb ?kd ?ku ?kc ?_; (case k1 => k_asm); (case k2 => k_asm); (case k3 => k_asm); (case k4 => k_asm); (case k5 => k_asm); (case kK => first | exact rfl | assumption); (case ka => k_mem); (case kb => k_mem); (case kd => ktr_room); (case ku => ktr_units); (case kc => omega); k_whole); intro D' r' g' b' t0' t1' t2' n' h' tk' hl' hf' F' N' l1'; (try simp only [AllNe, and_true] at l1'); (try k_sweep))
  k_with "call ref" => (k_here; (with_reducible show wpAny _ _ (call (Value.ref 62) _) _ _ _); k_dflt (refine' use_on ?k1 ?k2 ?k3 ?k4 ?k5 ?kK ?ka ?kb ?kd ?ku ?kc ?_; (case k1 => k_asm); (case k2 => k_asm); (case k3 => k_asm); (case k4 => k_asm); (case k5 => k_asm); (case kK => first | exact rfl | assumption); (case ka => k_mem); (case kb => k_mem); (case kd => ktr_room); (case ku => ktr_units); (case kc => omega); k_whole); intro h' tk' F' N'; (try k_sweep))
  k_with "call ref" => (k_here; (with_reducible show wpAny _ _ (call (Value.ref 74) _) _ _ _); k_dflt (refine' use_way ?k1 ?k2 ?k3 ?k4 ?k5 ?kK ?ka ?kb ?kd ?ku ?kc ?ke ?kf ?kg ?kh ?_; (case k1 => k_asm); (case k2 => k_asm); (case k3 => k_asm); (case k4 => k_asm); (case k5 => k_asm); (case kK => first | exact rfl | assumption); (case ka => k_mem); (case kb => k_mem); (case kd => ktr_room); (case ku => ktr_units); (case kc => omega); (case ke => omega); (case kf => omega); (case kg => omega); (case kh => omega); k_whole); intro t' h' tk' F' N'; (try k_sweep))
  trivial
end Mine
namespace Mine
theorem use_third {x y : Addr} {c0 c1 c2 d0 d1 d2 : Int} {tc0 tc1 tc2 td0 td1 td2 : Tok} {nc nd : Nat}
    {w : World} {mean : ExcName → Option Value} {mg mb : Str → Option Value} {dp un : Nat} {gd : Option (List Code)} {cn : Str} {cs : Scope} {a : Addr} {ccd : Value} {cl : List (Str × Addr)} {outer : List Env} {A₀ : Around} {base h₀ : Heap} {L : Addr} {m : Str → Option Value} {s : Shared} {Q E : Value → Shared → Prop} {news : List (Addr × Obj)}
    (B : Below A₀ base outer h₀) (F : Fr h₀ L s.heap m) (X : (Mine.fkh.heap_1_1 w.params).In h₀) (N : News h₀ L s.heap news) (T : Top Mine.fkh.view_1_2 (looseW Mine.fkh.view_1_2 [Str.ofString "EXACT_TOKEN_TYPES"]) mean mg mb h₀) (hk : cs.kind = .function)
    (hx : (x, listOf #[.int c0 tc0, .int c1 tc1, .int c2 tc2] nc) ∈ news) (hy : (y, listOf #[.int d0 td0, .int d1 td1, .int d2 td2] nd) ∈ news) (hd : dp + 2 < recursionLimit) (hu : un + 16 * 2 < cLine)
    (h : ∀ D r g b t0 t1 t2 n h' tk', (r = -max (c1 + d2) (c2 + d1) ∧ g = -max (c0 + d2) (c2 + d0) ∧ b = -max (c0 + d1) (c1 + d0)) →
      Fr h₀ L h' m → News h₀ L h' ((D, listOf #[.int r t0, .int g t1, .int b t2] n) :: news) → AllNe D news → Q (.ref D) { s with heap := h', toks := tk' }) :
    wpAny (model PySem.Challenge.rw_rl0069_01.row.prog w) (ktrTop dp un gd cn cs L a ccd cl outer) (call (.ref 67) [.ref x, .ref y]) Q E s := by
  refine use_obj (c_third x c0 c1 c2 tc0 tc1 tc2 nc y d0 d1 d2 td0 td1 td2 nd) B F X N T hk ?_ hd hu fun D o h' tk' F' N' l ho => ?_
  · intro p hp
    simp only [List.mem_cons, List.not_mem_nil, or_false] at hp
    rcases hp with rfl | rfl
    · exact hx
    · exact hy
  · obtain ⟨t0, t1, t2, n, rfl⟩ := ho
    exact h D _ _ _ t0 t1 t2 n h' tk' ⟨rfl, rfl, rfl⟩ F' N' l
end Mine
open Mine
namespace Mine
theorem words39 : True := by
  k_with "call ref" => (k_here; (with_reducible show wpAny _ _ (call (Value.ref 67) _) _ _ _); k_dflt (refine' use_third ?k1 ?k2 ?k3 ?k4 ?k5 ?kK ?ka ?kb ?kd ?ku ?_; (case k1 => k_asm); (case k2 => k_asm); (case k3 => k_asm); (case k4 => k_asm); (case k5 => k_asm); (case kK => first | exact rfl | assumption); (case ka => k_mem); (case kb => k_mem); (case kd => ktr_room); (case ku => ktr_units); k_whole); intro D' r' g' b' t0' t1' t2' n' h' tk' he' F' N' l1'; (try simp only [AllNe, and_true] at l1'); (try k_sweep))
  trivial
end Mine
namespace Mine
theorem on3_of {a b c : Int} (h : (a = b ∧ c ≤ a) ∨ (a = c ∧ b ≤ a) ∨ (b = c ∧ a ≤ b)) : On3 a b c = true := decide_eq_true h
theorem on3_is {a b c : Int} (hh : On3 a b c = true) : ∃ m, (a ≤ m ∧ b ≤ m ∧ c ≤ m) ∧ ((a = m ∧ b = m) ∨ (a = m ∧ c = m) ∨ (b = m ∧ c = m)) := by
  have h' : (a = b ∧ c ≤ a) ∨ (a = c ∧ b ≤ a) ∨ (b = c ∧ a ≤ b) := of_decide_eq_true hh
  clear hh
  rcases h' with ⟨rfl, h⟩ | ⟨rfl, h⟩ | ⟨rfl, h⟩
  · exact ⟨a, ⟨Int.le_refl _, Int.le_refl _, h⟩, .inl ⟨rfl, rfl⟩⟩
  · exact ⟨a, ⟨Int.le_refl _, h, Int.le_refl _⟩, .inr (.inl ⟨rfl, rfl⟩)⟩
  · exact ⟨b, ⟨h, Int.le_refl _, Int.le_refl _⟩, .inr (.inr ⟨rfl, rfl⟩)⟩
/-- the third of two colours -/
def Third (u v u' v' r g b : Int) : Prop := r = -max (v + 0) (0 + v') ∧ g = -max (u + 0) (0 + u') ∧ b = -max (u + v') (v + u')
/-- a colour's parts -/
abbrev Bd (u v : Int) : Prop := -3 ≤ u - v ∧ u - v ≤ 3 ∧ -3 ≤ v ∧ v ≤ 3
theorem bd_ex {u v : Int} (h : Bd u v) : ∃ p q : Nat, p < 7 ∧ q < 7 ∧ u = ((p : Int) - 3) + ((q : Int) - 3) ∧ v = (q : Int) - 3 :=
  ⟨(u - v + 3).toNat, (v + 3).toNat, by omega, by omega, by omega, by omega⟩
def dist (x y z : Int) : Int := max x (max y z) - min x (min y z)
def pairB (u v u' v' : Int) : Bool :=
  On3 (u + max v v') (v + max u u') (max (u + v') (v + u')) && On3 (u' + max v v') (v' + max u u') (max (u + v') (v + u')) &&
  decide (dist (u + max v v') (v + max u u') (max (u + v') (v + u')) + dist (-max v v' - u') (-max u u' - v') (-max (u + v') (v + u')) = dist (u - u') (v - v') 0)
theorem pair_tab : ∀ p : Nat, p < 7 → ∀ q : Nat, q < 7 → ∀ p' : Nat, p' < 7 → ∀ q' : Nat, q' < 7 → pairB (((p : Int) - 3) + ((q : Int) - 3)) ((q : Int) - 3) (((p' : Int) - 3) + ((q' : Int) - 3)) ((q' : Int) - 3) = true := by decide +kernel
theorem pair_ok {u v u' v' : Int} (h : Bd u v) (h' : Bd u' v') : pairB u v u' v' = true := by
  obtain ⟨p, q, hp, hq, rfl, rfl⟩ := bd_ex h
  obtain ⟨p', q', hp', hq', rfl, rfl⟩ := bd_ex h'
  exact pair_tab p hp q hq p' hp' q' hq'
theorem third_eq {u v u' v' r g b x y : Int} (h : Third u v u' v' r g b) : x - r = x + max v v' ∧ y - g = y + max u u' ∧ 0 - b = max (u + v') (v + u') ∧ r - x = -max v v' - x ∧ g - y = -max u u' - y ∧ b - 0 = -max (u + v') (v + u') := by
  obtain ⟨e1, e2, e3⟩ := h
  rw [Int.add_zero, Int.zero_add] at e1 e2
  subst e1 e2 e3
  exact ⟨Int.sub_neg _ _, Int.sub_neg _ _, by rw [Int.sub_neg, Int.zero_add], rfl, rfl, Int.sub_zero _⟩
theorem third_on1 {u v u' v' r g b : Int} (h : Third u v u' v' r g b) (h0 : Bd u v) (h1 : Bd u' v') : On3 (u - r) (v - g) (0 - b) = true := by
  have k := pair_ok h0 h1
  unfold pairB at k
  rw [Bool.and_eq_true, Bool.and_eq_true] at k
  have e := third_eq (x := u) (y := v) h
  rw [e.1, e.2.1, e.2.2.1]; exact k.1.1
theorem third_on2 {u v u' v' r g b : Int} (h : Third u v u' v' r g b) (h0 : Bd u v) (h1 : Bd u' v') : On3 (u' - r) (v' - g) (0 - b) = true := by
  have k := pair_ok h0 h1
  unfold pairB at k
  rw [Bool.and_eq_true, Bool.and_eq_true] at k
  have e := third_eq (x := u') (y := v') h
  rw [e.1, e.2.1, e.2.2.1]; exact k.1.2
theorem way_sum {u v u' v' r g b w0 w1 w2 : Int} {P : Prop} (hn : w0 + w1 ≠ w2) (h0 : Hold (w0 = 2 * (max (u - r) (max (v - g) (0 - b)) - min (u - r) (min (v - g) (0 - b)))))
    (h1 : Hold (w1 = 2 * (max (r - u') (max (g - v') (b - 0)) - min (r - u') (min (g - v') (b - 0))))) (h2 : Hold (w2 = 2 * (max (u - u') (max (v - v') (0 - 0)) - min (u - u') (min (v - v') (0 - 0))))) (h : Third u v u' v' r g b) (b0 : Bd u v) (b1 : Bd u' v') : P := by
  have k := pair_ok b0 b1
  unfold pairB at k
  rw [Bool.and_eq_true] at k
  have k' := of_decide_eq_true k.2
  have e := third_eq (x := u) (y := v) h
  have e' := third_eq (x := u') (y := v') h
  have a0 : w0 = 2 * dist (u - r) (v - g) (0 - b) := h0
  have a1 : w1 = 2 * dist (r - u') (g - v') (b - 0) := h1
  have a2 : w2 = 2 * dist (u - u') (v - v') (0 - 0) := h2
  rw [e.1, e.2.1, e.2.2.1] at a0
  rw [e'.2.2.2.1, e'.2.2.2.2.1, e'.2.2.2.2.2] at a1
  rw [Int.sub_zero] at a2
  exact absurd (by rw [a0, a1, a2, ← k', Int.mul_add]) hn
def Two (M s1 s2 s3 s4 s5 s6 : Int) : Prop := (s1 = M ∧ s2 = M) ∨ (s1 = M ∧ s3 = M) ∨ (s1 = M ∧ s4 = M) ∨ (s1 = M ∧ s5 = M) ∨ (s1 = M ∧ s6 = M) ∨ (s2 = M ∧ s3 = M) ∨ (s2 = M ∧ s4 = M) ∨ (s2 = M ∧ s5 = M) ∨ (s2 = M ∧ s6 = M) ∨ (s3 = M ∧ s4 = M) ∨ (s3 = M ∧ s5 = M) ∨ (s3 = M ∧ s6 = M) ∨ (s4 = M ∧ s5 = M) ∨ (s4 = M ∧ s6 = M) ∨ (s5 = M ∧ s6 = M)
theorem two_count {M s1 s2 s3 s4 s5 s6 : Int} : Two M s1 s2 s3 s4 s5 s6 ↔ 1 < List.count M [s1, s2, s3, s4, s5, s6] := by
  unfold Two
  simp only [List.count_cons, List.count_nil, beq_iff_eq]
  by_cases h1 : s1 = M <;> by_cases h2 : s2 = M <;> by_cases h3 : s3 = M <;> by_cases h4 : s4 = M <;> by_cases h5 : s5 = M <;> by_cases h6 : s6 = M <;> simp [h1, h2, h3, h4, h5, h6]
theorem lift3 {x y r g b p q m M : Int} (hx : x - r = p) (hy : y - g = q) (hz : 0 - b = m) (h1 : x + y ≤ M) (hM : M - r - g - b ≤ p + q + m) : x + y = M := by omega
theorem swp {u0 v0 u1 v1 r g m0 m1 : Int} (x0 : u0 - r = m0) (y0 : v0 - g = m0) (x1 : u1 - r = m1) (y1 : v1 - g = m1) : u0 + v1 = u1 + v0 := by omega
theorem eqx {u0 u2 r b m0 m2 : Int} (x0 : u0 - r = m0) (y0 : 0 - b = m0) (x2 : u2 - r = m2) (y2 : 0 - b = m2) : u0 = u2 := by omega
/-- a star of all three: the greatest sum is reached twice -/
theorem star_two {u0 v0 u1 v1 u2 v2 r g b M : Int} (hM : (M = (u0 + v1) ∨ M = (u0 + v2) ∨ M = (u1 + v0) ∨ M = (u1 + v2) ∨ M = (u2 + v0) ∨ M = (u2 + v1)) ∧ ((u0 + v1) ≤ M ∧ (u0 + v2) ≤ M ∧ (u1 + v0) ≤ M ∧ (u1 + v2) ≤ M ∧ (u2 + v0) ≤ M ∧ (u2 + v1) ≤ M)) (h0 : On3 (u0 - r) (v0 - g) (0 - b) = true) (h1 : On3 (u1 - r) (v1 - g) (0 - b) = true) (h2 : On3 (u2 - r) (v2 - g) (0 - b) = true) : Two M (u0 + v1) (u0 + v2) (u1 + v0) (u1 + v2) (u2 + v0) (u2 + v1) := by
  obtain ⟨hM, n1, n2, n3, n4, n5, n6⟩ := hM
  obtain ⟨m0, ⟨l00, l01, l02⟩, k0⟩ := on3_is h0
  obtain ⟨m1, ⟨l10, l11, l12⟩, k1⟩ := on3_is h1
  obtain ⟨m2, ⟨l20, l21, l22⟩, k2⟩ := on3_is h2
  clear h0 h1 h2
  unfold Two
  have top : M - r - g - b ≤ m0 + m1 + m2 := by clear k0 k1 k2 n1 n2 n3 n4 n5 n6; rcases hM with h | h | h | h | h | h <;> omega
  have p021 : M - r - g - b ≤ m0 + m2 + m1 := by rw [Int.add_right_comm]; exact top
  have p102 : M - r - g - b ≤ m1 + m0 + m2 := by rw [Int.add_comm m1 m0]; exact top
  have p120 : M - r - g - b ≤ m1 + m2 + m0 := by rw [Int.add_right_comm]; exact p102
  have p201 : M - r - g - b ≤ m2 + m0 + m1 := by rw [Int.add_comm m2 m0]; exact p021
  have p210 : M - r - g - b ≤ m2 + m1 + m0 := by rw [Int.add_right_comm]; exact p201
  rcases k0 with ⟨x0, y0⟩ | ⟨x0, y0⟩ | ⟨x0, y0⟩ <;> rcases k1 with ⟨x1, y1⟩ | ⟨x1, y1⟩ | ⟨x1, y1⟩ <;> rcases k2 with ⟨x2, y2⟩ | ⟨x2, y2⟩ | ⟨x2, y2⟩
  · rcases hM with h | h | h | h | h | h
    · exact .inr (.inl ⟨h.symm, (swp x0 y0 x1 y1).symm.trans h.symm⟩)
    · exact .inr (.inr (.inr (.inr (.inr (.inr (.inr (.inl ⟨h.symm, (swp x0 y0 x2 y2).symm.trans h.symm⟩)))))))
    · exact .inr (.inl ⟨(swp x1 y1 x0 y0).symm.trans h.symm, h.symm⟩)
    · exact .inr (.inr (.inr (.inr (.inr (.inr (.inr (.inr (.inr (.inr (.inr (.inr (.inr (.inl ⟨h.symm, (swp x1 y1 x2 y2).symm.trans h.symm⟩)))))))))))))
    · exact .inr (.inr (.inr (.inr (.inr (.inr (.inr (.inl ⟨(swp x2 y2 x0 y0).symm.trans h.symm, h.symm⟩)))))))
    · exact .inr (.inr (.inr (.inr (.inr (.inr (.inr (.inr (.inr (.inr (.inr (.inr (.inr (.inl ⟨(swp x2 y2 x1 y1).symm.trans h.symm, h.symm⟩)))))))))))))
  · exact .inr (.inl (⟨lift3 x0 y1 y2 n1 (by with_reducible assumption), lift3 x1 y0 y2 n3 (by with_reducible assumption)⟩))
  · exact .inr (.inl (⟨lift3 x0 y1 y2 n1 (by with_reducible assumption), lift3 x1 y0 y2 n3 (by with_reducible assumption)⟩))
  · exact .inr (.inr (.inr (.inr (.inr (.inr (.inr (.inl (⟨lift3 x0 y2 y1 n2 (by with_reducible assumption), lift3 x2 y0 y1 n5 (by with_reducible assumption)⟩))))))))
  · exact .inr (.inr (.inr (.inr (.inr (.inr (.inr (.inr (.inr (.inr (.inl (⟨lift3 x1 y0 y2 n3 (by with_reducible assumption), lift3 x2 y0 y1 n5 (by with_reducible assumption)⟩)))))))))))
  · exact .inr (.inr (.inr (.inr (.inr (.inl (⟨lift3 x0 x2 y1 n2 (by with_reducible assumption), lift3 x1 y0 y2 n3 (by with_reducible assumption)⟩))))))
  · exact .inr (.inr (.inr (.inr (.inr (.inr (.inr (.inl (⟨lift3 x0 y2 y1 n2 (by with_reducible assumption), lift3 x2 y0 y1 n5 (by with_reducible assumption)⟩))))))))
  · exact .inr (.inr (.inr (.inl (⟨lift3 x0 x1 y2 n1 (by with_reducible assumption), lift3 x2 y0 y1 n5 (by with_reducible assumption)⟩))))
  · exact .inl (⟨lift3 x0 x1 y2 n1 (by with_reducible assumption), lift3 x0 x2 y1 n2 (by with_reducible assumption)⟩)
  · exact .inr (.inr (.inr (.inr (.inr (.inr (.inr (.inr (.inr (.inr (.inr (.inr (.inr (.inl (⟨lift3 x1 y2 y0 n4 (by with_reducible assumption), lift3 x2 y1 y0 n6 (by with_reducible assumption)⟩))))))))))))))
  · exact .inr (.inr (.inr (.inr (.inl (⟨lift3 x0 y1 y2 n1 (by with_reducible assumption), lift3 x2 y1 y0 n6 (by with_reducible assumption)⟩)))))
  · exact .inr (.inr (.inl (⟨lift3 x0 y1 y2 n1 (by with_reducible assumption), lift3 x1 x2 y0 n4 (by with_reducible assumption)⟩)))
  · exact .inr (.inr (.inr (.inr (.inr (.inr (.inl (⟨lift3 x0 y2 y1 n2 (by with_reducible assumption), lift3 x1 y2 y0 n4 (by with_reducible assumption)⟩)))))))
  · rcases hM with h | h | h | h | h | h
    · exact .inr (.inr (.inr (.inr (.inl ⟨h.symm, (congrArg (· + v1) (eqx x2 y2 x0 y0)).trans h.symm⟩))))
    · exact .inr (.inr (.inr (.inr (.inr (.inr (.inl ⟨h.symm, (congrArg (· + v2) (eqx x1 y1 x0 y0)).trans h.symm⟩))))))
    · exact .inr (.inr (.inr (.inr (.inr (.inr (.inr (.inr (.inr (.inr (.inl ⟨h.symm, (congrArg (· + v0) (eqx x2 y2 x1 y1)).trans h.symm⟩))))))))))
    · exact .inr (.inr (.inr (.inr (.inr (.inr (.inl ⟨(congrArg (· + v2) (eqx x0 y0 x1 y1)).trans h.symm, h.symm⟩))))))
    · exact .inr (.inr (.inr (.inr (.inr (.inr (.inr (.inr (.inr (.inr (.inl ⟨(congrArg (· + v0) (eqx x1 y1 x2 y2)).trans h.symm, h.symm⟩))))))))))
    · exact .inr (.inr (.inr (.inr (.inl ⟨(congrArg (· + v1) (eqx x0 y0 x2 y2)).trans h.symm, h.symm⟩))))
  · exact .inr (.inr (.inr (.inr (.inr (.inr (.inl (⟨lift3 x0 x2 y1 n2 (by with_reducible assumption), lift3 x1 x2 y0 n4 (by with_reducible assumption)⟩)))))))
  · exact .inr (.inr (.inr (.inr (.inr (.inr (.inr (.inr (.inl (⟨lift3 x0 y2 y1 n2 (by with_reducible assumption), lift3 x2 x1 y0 n6 (by with_reducible assumption)⟩)))))))))
  · exact .inr (.inr (.inr (.inr (.inl (⟨lift3 x0 x1 y2 n1 (by with_reducible assumption), lift3 x2 x1 y0 n6 (by with_reducible assumption)⟩)))))
  · exact .inl (⟨lift3 x0 x1 y2 n1 (by with_reducible assumption), lift3 x0 x2 y1 n2 (by with_reducible assumption)⟩)
  · exact .inr (.inr (.inr (.inr (.inr (.inr (.inr (.inr (.inr (.inr (.inr (.inr (.inr (.inl (⟨lift3 x1 y2 y0 n4 (by with_reducible assumption), lift3 x2 y1 y0 n6 (by with_reducible assumption)⟩))))))))))))))
  · exact .inr (.inr (.inr (.inr (.inr (.inr (.inr (.inr (.inr (.inr (.inr (.inl (⟨lift3 x1 x0 y2 n3 (by with_reducible assumption), lift3 x2 y1 y0 n6 (by with_reducible assumption)⟩))))))))))))
  · exact .inr (.inr (.inr (.inr (.inr (.inr (.inr (.inr (.inr (.inl (⟨lift3 x1 x0 y2 n3 (by with_reducible assumption), lift3 x1 x2 y0 n4 (by with_reducible assumption)⟩))))))))))
  · exact .inr (.inr (.inr (.inr (.inr (.inr (.inr (.inr (.inr (.inr (.inr (.inr (.inl (⟨lift3 x1 y2 y0 n4 (by with_reducible assumption), lift3 x2 x0 y1 n5 (by with_reducible assumption)⟩)))))))))))))
  · exact .inr (.inr (.inr (.inr (.inr (.inr (.inr (.inr (.inr (.inr (.inl (⟨lift3 x1 x0 y2 n3 (by with_reducible assumption), lift3 x2 x0 y1 n5 (by with_reducible assumption)⟩)))))))))))
  · exact .inr (.inr (.inr (.inr (.inr (.inr (.inr (.inr (.inr (.inl (⟨lift3 x1 x0 y2 n3 (by with_reducible assumption), lift3 x1 x2 y0 n4 (by with_reducible assumption)⟩))))))))))
  · exact .inr (.inr (.inr (.inr (.inr (.inr (.inr (.inr (.inr (.inr (.inr (.inr (.inr (.inr (⟨lift3 x2 x0 y1 n5 (by with_reducible assumption), lift3 x2 x1 y0 n6 (by with_reducible assumption)⟩))))))))))))))
  · exact .inr (.inr (.inr (.inr (.inr (.inr (.inr (.inr (.inr (.inr (.inr (.inr (.inr (.inr (⟨lift3 x2 x0 y1 n5 (by with_reducible assumption), lift3 x2 x1 y0 n6 (by with_reducible assumption)⟩))))))))))))))
  · rcases hM with h | h | h | h | h | h
    · exact .inl ⟨h.symm, (congrArg (u0 + ·) (eqx x2 y2 x1 y1)).trans h.symm⟩
    · exact .inl ⟨(congrArg (u0 + ·) (eqx x1 y1 x2 y2)).trans h.symm, h.symm⟩
    · exact .inr (.inr (.inr (.inr (.inr (.inr (.inr (.inr (.inr (.inl ⟨h.symm, (congrArg (u1 + ·) (eqx x2 y2 x0 y0)).trans h.symm⟩)))))))))
    · exact .inr (.inr (.inr (.inr (.inr (.inr (.inr (.inr (.inr (.inl ⟨(congrArg (u1 + ·) (eqx x0 y0 x2 y2)).trans h.symm, h.symm⟩)))))))))
    · exact .inr (.inr (.inr (.inr (.inr (.inr (.inr (.inr (.inr (.inr (.inr (.inr (.inr (.inr (⟨h.symm, (congrArg (u2 + ·) (eqx x1 y1 x0 y0)).trans h.symm⟩))))))))))))))
    · exact .inr (.inr (.inr (.inr (.inr (.inr (.inr (.inr (.inr (.inr (.inr (.inr (.inr (.inr (⟨(congrArg (u2 + ·) (eqx x0 y0 x1 y1)).trans h.symm, h.symm⟩))))))))))))))
/-- a colour less the third of the other two: each part is the greater of two sums -/
theorem third_ent {u v u' v' r g b x y M : Int} (h : Third u v u' v' r g b) (m1 : x + v ≤ M) (m2 : x + v' ≤ M) (m3 : u + y ≤ M) (m4 : u' + y ≤ M) (m5 : u + v' ≤ M) (m6 : u' + v ≤ M) :
    (x - r ≤ M ∧ y - g ≤ M ∧ 0 - b ≤ M) ∧ x + v ≤ x - r ∧ x + v' ≤ x - r ∧ u + y ≤ y - g ∧ u' + y ≤ y - g ∧ u + v' ≤ 0 - b ∧ u' + v ≤ 0 - b := by
  have e := third_eq (x := x) (y := y) h
  rw [e.1, e.2.1, e.2.2.1]
  clear e h
  have a1 : v ≤ max v v' := Int.le_max_left _ _
  have a2 : v' ≤ max v v' := Int.le_max_right _ _
  have a3 : max v v' ≤ M - x := Int.max_le.mpr ⟨by omega, by omega⟩
  have a4 : u ≤ max u u' := Int.le_max_left _ _
  have a5 : u' ≤ max u u' := Int.le_max_right _ _
  have a6 : max u u' ≤ M - y := Int.max_le.mpr ⟨by omega, by omega⟩
  have a7 : u + v' ≤ max (u + v') (v + u') := Int.le_max_left _ _
  have a8 : v + u' ≤ max (u + v') (v + u') := Int.le_max_right _ _
  have a9 : max (u + v') (v + u') ≤ M := Int.max_le.mpr ⟨m5, by omega⟩
  generalize max v v' = X at *
  generalize max u u' = Y at *
  generalize max (u + v') (v + u') = Z at *
  clear m1 m2 m3 m4 m5 m6
  refine ⟨⟨?_, ?_, a9⟩, ?_, ?_, ?_, ?_, a7, ?_⟩ <;> omega
theorem on01 {a b c M : Int} (ha : a ≤ M) (hb : b ≤ M) (hc : c ≤ M) (ha' : M ≤ a) (hb' : M ≤ b) : On3 a b c = true := on3_of (.inl ⟨Int.le_antisymm (Int.le_trans ha hb') (Int.le_trans hb ha'), Int.le_trans hc ha'⟩)
theorem on02 {a b c M : Int} (ha : a ≤ M) (hb : b ≤ M) (hc : c ≤ M) (ha' : M ≤ a) (hb' : M ≤ c) : On3 a b c = true := on3_of (.inr (.inl ⟨Int.le_antisymm (Int.le_trans ha hb') (Int.le_trans hc ha'), Int.le_trans hb ha'⟩))
theorem on12 {a b c M : Int} (ha : a ≤ M) (hb : b ≤ M) (hc : c ≤ M) (ha' : M ≤ b) (hb' : M ≤ c) : On3 a b c = true := on3_of (.inr (.inr ⟨Int.le_antisymm (Int.le_trans hb hb') (Int.le_trans hc ha'), Int.le_trans ha ha'⟩))
/-- the greatest sum is reached twice: one of the thirds is a star of all three -/
theorem two_star {u0 v0 u1 v1 u2 v2 r01 g01 b01 r02 g02 b02 r12 g12 b12 M : Int} (hM : (u0 + v1) ≤ M ∧ (u0 + v2) ≤ M ∧ (u1 + v0) ≤ M ∧ (u1 + v2) ≤ M ∧ (u2 + v0) ≤ M ∧ (u2 + v1) ≤ M) (t01 : Third u0 v0 u1 v1 r01 g01 b01) (t02 : Third u0 v0 u2 v2 r02 g02 b02) (t12 : Third u1 v1 u2 v2 r12 g12 b12) (h : Two M (u0 + v1) (u0 + v2) (u1 + v0) (u1 + v2) (u2 + v0) (u2 + v1)) :
    On3 (u2 - r01) (v2 - g01) (0 - b01) = true ∨ On3 (u1 - r02) (v1 - g02) (0 - b02) = true ∨ On3 (u0 - r12) (v0 - g12) (0 - b12) = true := by
  obtain ⟨m1, m2, m3, m4, m5, m6⟩ := hM
  obtain ⟨⟨e20, e21, e22⟩, f20i, f20j, f21i, f21j, f22i, f22j⟩ := third_ent (x := u2) (y := v2) t01 m5 m6 m2 m4 m1 m3
  obtain ⟨⟨e10, e11, e12⟩, f10i, f10j, f11i, f11j, f12i, f12j⟩ := third_ent (x := u1) (y := v1) t02 m3 m4 m1 m6 m2 m5
  obtain ⟨⟨e00, e01, e02⟩, f00i, f00j, f01i, f01j, f02i, f02j⟩ := third_ent (x := u0) (y := v0) t12 m1 m2 m3 m5 m4 m6
  unfold Two at h
  rcases h with ⟨p, q⟩ | ⟨p, q⟩ | ⟨p, q⟩ | ⟨p, q⟩ | ⟨p, q⟩ | ⟨p, q⟩ | ⟨p, q⟩ | ⟨p, q⟩ | ⟨p, q⟩ | ⟨p, q⟩ | ⟨p, q⟩ | ⟨p, q⟩ | ⟨p, q⟩ | ⟨p, q⟩ | ⟨p, q⟩
  · exact .inr (.inl (on12 e10 e11 e12 (Int.le_trans (Int.le_of_eq p.symm) f11i) (Int.le_trans (Int.le_of_eq q.symm) f12i)))
  · exact .inr (.inr (on01 e00 e01 e02 (Int.le_trans (Int.le_of_eq p.symm) f00i) (Int.le_trans (Int.le_of_eq q.symm) f01i)))
  · exact .inr (.inr (on02 e00 e01 e02 (Int.le_trans (Int.le_of_eq p.symm) f00i) (Int.le_trans (Int.le_of_eq q.symm) f02i)))
  · exact .inr (.inr (on01 e00 e01 e02 (Int.le_trans (Int.le_of_eq p.symm) f00i) (Int.le_trans (Int.le_of_eq q.symm) f01j)))
  · exact .inr (.inr (on02 e00 e01 e02 (Int.le_trans (Int.le_of_eq p.symm) f00i) (Int.le_trans (Int.le_of_eq q.symm) f02j)))
  · exact .inr (.inr (on01 e00 e01 e02 (Int.le_trans (Int.le_of_eq p.symm) f00j) (Int.le_trans (Int.le_of_eq q.symm) f01i)))
  · exact .inr (.inr (on02 e00 e01 e02 (Int.le_trans (Int.le_of_eq p.symm) f00j) (Int.le_trans (Int.le_of_eq q.symm) f02i)))
  · exact .inr (.inr (on01 e00 e01 e02 (Int.le_trans (Int.le_of_eq p.symm) f00j) (Int.le_trans (Int.le_of_eq q.symm) f01j)))
  · exact .inr (.inr (on02 e00 e01 e02 (Int.le_trans (Int.le_of_eq p.symm) f00j) (Int.le_trans (Int.le_of_eq q.symm) f02j)))
  · exact .inr (.inr (on12 e00 e01 e02 (Int.le_trans (Int.le_of_eq p.symm) f01i) (Int.le_trans (Int.le_of_eq q.symm) f02i)))
  · exact .inr (.inl (on02 e10 e11 e12 (Int.le_trans (Int.le_of_eq p.symm) f10i) (Int.le_trans (Int.le_of_eq q.symm) f12j)))
  · exact .inr (.inr (on12 e00 e01 e02 (Int.le_trans (Int.le_of_eq p.symm) f01i) (Int.le_trans (Int.le_of_eq q.symm) f02j)))
  · exact .inr (.inr (on12 e00 e01 e02 (Int.le_trans (Int.le_of_eq q.symm) f01j) (Int.le_trans (Int.le_of_eq p.symm) f02i)))
  · exact .inr (.inl (on01 e10 e11 e12 (Int.le_trans (Int.le_of_eq p.symm) f10j) (Int.le_trans (Int.le_of_eq q.symm) f11j)))
  · exact .inr (.inr (on12 e00 e01 e02 (Int.le_trans (Int.le_of_eq p.symm) f01j) (Int.le_trans (Int.le_of_eq q.symm) f02j)))
end Mine
namespace Mine
theorem ints_all : ∀ {l : List Value}, (∀ v ∈ l, ∃ n t, v = .int n t) → ∃ ns, IntsAre l ns
  | [], _ => ⟨[], .nil⟩
  | v :: r, h => by
    obtain ⟨ns, k⟩ := ints_all fun x hx => h x (.tail _ hx)
    obtain ⟨n, t, rfl⟩ := h v (.head _)
    exact ⟨n :: ns, .cons n t k⟩
theorem ints_mem {vs : List Value} {ns : List Int} (h : IntsAre vs ns) : ∀ v ∈ vs, ∃ n t, v = .int n t := by
  induction h with
  | nil => intro v hv; cases hv
  | cons n t _ ih =>
    intro v hv
    rcases List.mem_cons.mp hv with rfl | hv
    · exact ⟨n, t, rfl⟩
    · exact ih v hv
theorem slice_some {vs : List Value} {ns : List Int} {lo hi st : Option Int} (h : IntsAre vs ns) : ∃ ms, IntsAre (slicePick vs.toArray lo hi st).toList ms := by
  refine ints_all fun v hv => ?_
  unfold slicePick at hv
  rw [List.toList_toArray, List.mem_filterMap] at hv
  obtain ⟨k, _, e⟩ := hv
  rw [List.getElem?_toArray] at e
  exact ints_mem h v (List.mem_of_getElem? e)
theorem sum_some {prog : Program} {w : World} {A : Around} {E : Value → Shared → Prop} {s : Shared} {h₀ : Heap} {L l : Addr} {m : Str → Option Value} {news : List (Addr × Obj)} {Q : Value → Shared → Prop} {its : Array Value} {c : Nat} (F : Fr h₀ L s.heap m) (N : News h₀ L s.heap ((l, ({ cls := .type "list", data := .seq its c } : Obj)) :: news)) (hh : A.handled = none)
    (hi : ∃ ms, IntsAre its.toList ms)
    (h : ∀ z h' tk t', Fr h₀ L h' m → News h₀ L h' news → Q (.int z t') { s with heap := h', toks := tk }) : wpAny (model prog w) A (call (.builtin "sum") [.ref l]) Q E s := by
  obtain ⟨ms, hi⟩ := hi
  exact LSm.sum_ints F N hh (vs := its.toList) (News.isList N (List.Mem.head _)) hi (fun h' tk t' F' N' => h _ h' tk t' F' fun p hp => N' p (.tail _ hp))
theorem fmod_lit {prog : Program} {w : World} {A : Around} {E : Value → Shared → Prop} {s : Shared} {Q : Value → Shared → Prop} {a b : Int} {t u : Tok} (hb : 0 < b) (h : ∀ t k, Q (.int (a % b) t) { s with toks := k }) :
    wpAny (model prog w) A (binaryOp .Mod (.int a t) (.int b u)) Q E s :=
  PyProof.Rows.mod_int' (Int.ne_of_gt hb) (by rw [Int.fmod_eq_emod_of_nonneg _ (Int.le_of_lt hb)]; exact h _ _)
theorem fdiv_lit {prog : Program} {w : World} {A : Around} {E : Value → Shared → Prop} {s : Shared} {Q : Value → Shared → Prop} {a b : Int} {t u : Tok} (hb : 0 < b) (hp : Builtin.divisionGoesByPylong a b = false ∨ PySem.PylongRoom (model prog w) A s) (h : ∀ t k, Q (.int (a / b) t) { s with toks := k }) :
    wpAny (model prog w) A (binaryOp .FloorDiv (.int a t) (.int b u)) Q E s :=
  PyProof.Rows.floordiv_int (Int.ne_of_gt hb) (by rw [Int.fdiv_eq_ediv_of_nonneg _ (Int.le_of_lt hb)]; exact h _ _) hp
theorem allNe_mem {d : Addr} : ∀ {l : List (Addr × Obj)}, AllNe d l → ∀ p ∈ l, p.1 ≠ d
  | [], _, _, h => nomatch h
  | _ :: _, x, p, h => by
    rcases List.mem_cons.mp h with rfl | h
    · exact x.1
    · exact allNe_mem x.2 p h
theorem unr_drop3 {h₀ : Heap} {L I : Addr} {it : Obj} {rest : (Str → Option Value) → List (Addr × Obj) → Prop} {s₁ : Shared} {h' : Heap} {tk : Nat} {m' : Str → Option Value} {e1 e2 e3 e4 : Addr × Obj} {r : List (Addr × Obj)} (F : Fr h₀ L h' m') (N : News h₀ L h' (e1 :: e2 :: e3 :: e4 :: (I, it) :: r))
    (off : AllNe I (e4 :: r)) (hr : rest m' (e4 :: r)) : UnrEnd h₀ L s₁ I it rest { s₁ with heap := h', toks := tk } :=
  ⟨h', tk, m', e4 :: r, rfl, F, fun p hp => by
    rcases List.mem_cons.mp hp with rfl | hp
    · exact N _ (by simp)
    · rcases List.mem_cons.mp hp with rfl | hp
      · exact N _ (by simp)
      · exact N p (by simp [hp]), allNe_mem off, hr⟩
theorem news_pick5 {h₀ h : Heap} {L : Addr} {a b c d e f g : Addr × Obj} (N : News h₀ L h [a, b, c, d, e, f, g]) : News h₀ L h [a, b, c, d, f] := fun p hp => N p (by
  simp only [List.mem_cons, List.not_mem_nil, or_false] at hp ⊢
  rcases hp with h | h | h | h | h <;> simp [h])
theorem and3_false {a b c d e f : Int} {P : Prop} (h : (a == b && c == d && e == f) = false) (h1 : a = b) (h2 : c = d) (h3 : e = f) : P := by
  subst h1 h2 h3
  simp at h
theorem unr_dropW {h₀ : Heap} {L I : Addr} {it : Obj} {rest : (Str → Option Value) → List (Addr × Obj) → Prop} {s₁ : Shared} {h' : Heap} {tk : Nat} {m' : Str → Option Value} {e1 e2 : Addr × Obj} {r : List (Addr × Obj)} (F : Fr h₀ L h' m') (N : News h₀ L h' (e1 :: e2 :: (I, it) :: r))
    (off : AllNe I (e2 :: r)) (hr : rest m' (e2 :: r)) : UnrEndW h₀ L s₁ [(I, it)] rest { s₁ with heap := h', toks := tk } :=
  ⟨h', tk, m', e2 :: r, rfl, F, fun p hp => by
    rcases List.mem_cons.mp hp with rfl | hp
    · exact N _ (.tail _ (.tail _ (.head _)))
    · rcases List.mem_cons.mp hp with rfl | hp
      · exact N _ (.tail _ (.head _))
      · exact N p (.tail _ (.tail _ (.tail _ hp))), fun p hp q hq => by rw [List.mem_singleton.mp hq]; exact allNe_mem off p hp, hr⟩
theorem news_pick9 {h₀ h : Heap} {L : Addr} {b2 b1 b0 l t3 t2 t1 S a2 a1 a0 d k : Addr × Obj} (N : News h₀ L h [b2, b1, b0, l, t3, t2, t1, S, a2, a1, a0, d, k]) : News h₀ L h [S, b2, b1, b0, a2, a1, a0, d, k] := fun p hp => N p (by
  simp only [List.mem_cons, List.not_mem_nil, or_false] at hp ⊢
  rcases hp with h | h | h | h | h | h | h | h | h <;> simp [h])
theorem fr_canon_is {h₀ h : Heap} {L : Addr} {m : Str → Option Value} {v : Option Value} (k1 : Str) (F : Fr h₀ L h m) (e : m k1 = v) : Fr h₀ L h (fun y => if y = k1 then v else m y) := by
  subst e; rw [canon1]; exact F
theorem execs_cut3 {A : Around} {E : Value → Shared → Prop} {env : Env} {prog : Program} {w : World} {h₀ : Heap} {L : Addr} {s : Shared} {l : List Stmt} {Q : Flow → Shared → Prop} {m : Str → Option Value} {news : List (Addr × Obj)} (_F : Fr h₀ L s.heap m) (_N : News h₀ L s.heap news) (n : Nat)
    (X : Addr → (Str → Option Value) → List (Addr × Obj) → (Str → Option Value) → List (Addr × Obj) → Prop)
    (h : wpAny (model prog w) A (execs (l.take n) env) (fun f s' => match f with | .next => ExitAt h₀ L s (X L m news) s' | f => Q f s') E s)
    (k : ∀ m₁ news₁ h tk, Fr h₀ L h m₁ → News h₀ L h news₁ → X L m news m₁ news₁ → wpAny (model prog w) A (execs (l.drop n) env) Q E { s with heap := h, toks := tk }) :
    wpAny (model prog w) A (execs l env) Q E s := execs_cut2 n (X L m news) h k
def wB (u v u' v' : Int) : Bool := decide (-3 ≤ -max (v + 0) (0 + v') - -max (u + 0) (0 + u') ∧ -max (v + 0) (0 + v') - -max (u + 0) (0 + u') ≤ 3 ∧ -3 ≤ -max (u + 0) (0 + u') - -max (u + v') (v + u') ∧ -max (u + 0) (0 + u') - -max (u + v') (v + u') ≤ 3)
theorem w_tab : ∀ p : Nat, p < 7 → ∀ q : Nat, q < 7 → ∀ p' : Nat, p' < 7 → ∀ q' : Nat, q' < 7 → wB (((p : Int) - 3) + ((q : Int) - 3)) ((q : Int) - 3) (((p' : Int) - 3) + ((q' : Int) - 3)) ((q' : Int) - 3) = true := by decide +kernel
theorem third_w {u v u' v' r g b : Int} (h : Third u v u' v' r g b) (h0 : Bd u v) (h1 : Bd u' v') : -3 ≤ r - g ∧ r - g ≤ 3 ∧ -3 ≤ g - b ∧ g - b ≤ 3 := by
  obtain ⟨rfl, rfl, rfl⟩ := h
  obtain ⟨p, q, hp, hq, rfl, rfl⟩ := bd_ex h0
  obtain ⟨p', q', hp', hq', rfl, rfl⟩ := bd_ex h1
  exact of_decide_eq_true (w_tab p hp q hq p' hp' q' hq')
theorem bd_lin {x y p q z : Int} (h : Bd x y) (hp : -3 ≤ p - q ∧ p - q ≤ 3 ∧ -3 ≤ q - z ∧ q - z ≤ 3) : x - p ≤ y - q + 12 ∧ y - q ≤ x - p + 12 ∧ x - p ≤ 0 - z + 12 ∧ 0 - z ≤ x - p + 12 ∧ y - q ≤ 0 - z + 12 ∧ 0 - z ≤ y - q + 12 := by
  omega
theorem lin47 {x y : Int} (h : -3 ≤ x - y ∧ x - y ≤ 3) : 1 ≤ 4 + x - y ∧ 4 + x - y ≤ 7 := by
  rw [Int.add_sub_assoc]
  exact ⟨Int.add_le_add_left h.1 4, Int.add_le_add_left h.2 4⟩
theorem third_bd1 {u v u' v' r g b : Int} (h : Third u v u' v' r g b) (h0 : Bd u v) (h1 : Bd u' v') :
    u - r ≤ v - g + 12 ∧ v - g ≤ u - r + 12 ∧ u - r ≤ 0 - b + 12 ∧ 0 - b ≤ u - r + 12 ∧ v - g ≤ 0 - b + 12 ∧ 0 - b ≤ v - g + 12 := bd_lin h0 (third_w h h0 h1)
theorem third_bd2 {u v u' v' r g b : Int} (h : Third u v u' v' r g b) (h0 : Bd u v) (h1 : Bd u' v') :
    u' - r ≤ v' - g + 12 ∧ v' - g ≤ u' - r + 12 ∧ u' - r ≤ 0 - b + 12 ∧ 0 - b ≤ u' - r + 12 ∧ v' - g ≤ 0 - b + 12 ∧ 0 - b ≤ v' - g + 12 := bd_lin h1 (third_w h h0 h1)
theorem third_bd3 {u v u' v' r g b : Int} (h : Third u v u' v' r g b) (h0 : Bd u v) (h1 : Bd u' v') :
    r - u' ≤ g - v' + 12 ∧ g - v' ≤ r - u' + 12 ∧ r - u' ≤ b - 0 + 12 ∧ b - 0 ≤ r - u' + 12 ∧ g - v' ≤ b - 0 + 12 ∧ b - 0 ≤ g - v' + 12 := by
  have k := third_bd2 h h0 h1
  have f : ∀ {a b c d : Int}, a - b ≤ c - d + 12 → d - c ≤ b - a + 12 := fun {a b c d} q => by
    rw [← Int.neg_sub a b, ← Int.neg_sub c d]
    exact Int.neg_le_of_neg_le (by rw [Int.neg_add, Int.neg_neg]; exact Int.sub_right_le_of_le_add q)
  exact ⟨f k.2.1, f k.1, f k.2.2.2.1, f k.2.2.1, f k.2.2.2.2.2, f k.2.2.2.2.1⟩
theorem third_bd4 {u v u' v' r g b x y : Int} (h : Third u v u' v' r g b) (h0 : Bd u v) (h1 : Bd u' v') (h2 : Bd x y) :
    x - r ≤ y - g + 12 ∧ y - g ≤ x - r + 12 ∧ x - r ≤ 0 - b + 12 ∧ 0 - b ≤ x - r + 12 ∧ y - g ≤ 0 - b + 12 ∧ 0 - b ≤ y - g + 12 := bd_lin h2 (third_w h h0 h1)
theorem bd_bd {u v u' v' : Int} (h0 : Bd u v) (h1 : Bd u' v') :
    u - u' ≤ v - v' + 12 ∧ v - v' ≤ u - u' + 12 ∧ u - u' ≤ 0 - 0 + 12 ∧ 0 - 0 ≤ u - u' + 12 ∧ v - v' ≤ 0 - 0 + 12 ∧ 0 - 0 ≤ v - v' + 12 := bd_lin h0 (by rw [Int.sub_zero]; exact h1)
theorem bd_w1 {u v : Int} (h0 : Bd u v) : 1 ≤ 4 + u - v ∧ 4 + u - v ≤ 7 := lin47 ⟨h0.1, h0.2.1⟩
theorem bd_w2 {u v : Int} (h0 : Bd u v) : 1 ≤ 4 + v - 0 ∧ 4 + v - 0 ≤ 7 := lin47 (by rw [Int.sub_zero]; exact h0.2.2)
theorem third_w1 {u v u' v' r g b : Int} (h : Third u v u' v' r g b) (h0 : Bd u v) (h1 : Bd u' v') : 1 ≤ 4 + r - g ∧ 4 + r - g ≤ 7 := lin47 ⟨(third_w h h0 h1).1, (third_w h h0 h1).2.1⟩
theorem third_w2 {u v u' v' r g b : Int} (h : Third u v u' v' r g b) (h0 : Bd u v) (h1 : Bd u' v') : 1 ≤ 4 + g - b ∧ 4 + g - b ≤ 7 := lin47 ⟨(third_w h h0 h1).2.2.1, (third_w h h0 h1).2.2.2⟩
theorem use_third_t {x y : Addr} {u v u' v' : Int} {tc0 tc1 tc2 td0 td1 td2 : Tok} {nc nd : Nat}
    {w : World} {mean : ExcName → Option Value} {mg mb : Str → Option Value} {dp un : Nat} {gd : Option (List Code)} {cn : Str} {cs : Scope} {a : Addr} {ccd : Value} {cl : List (Str × Addr)} {outer : List Env} {A₀ : Around} {base h₀ : Heap} {L : Addr} {m : Str → Option Value} {s : Shared} {Q E : Value → Shared → Prop} {news : List (Addr × Obj)}
    (B : Below A₀ base outer h₀) (F : Fr h₀ L s.heap m) (X : (Mine.fkh.heap_1_1 w.params).In h₀) (N : News h₀ L s.heap news) (T : Top Mine.fkh.view_1_2 (looseW Mine.fkh.view_1_2 [Str.ofString "EXACT_TOKEN_TYPES"]) mean mg mb h₀) (hk : cs.kind = .function)
    (hx : (x, listOf #[.int u tc0, .int v tc1, .int 0 tc2] nc) ∈ news) (hy : (y, listOf #[.int u' td0, .int v' td1, .int 0 td2] nd) ∈ news) (hd : dp + 2 < recursionLimit) (hu : un + 16 * 2 < cLine)
    (h : ∀ D r g b t0 t1 t2 n h' tk', Third u v u' v' r g b → Fr h₀ L h' m → News h₀ L h' ((D, listOf #[.int r t0, .int g t1, .int b t2] n) :: news) → AllNe D news → Q (.ref D) { s with heap := h', toks := tk' }) :
    wpAny (model PySem.Challenge.rw_rl0069_01.row.prog w) (ktrTop dp un gd cn cs L a ccd cl outer) (call (.ref 67) [.ref x, .ref y]) Q E s :=
  use_third B F X N T hk hx hy hd hu h
theorem use_on_t {x y : Addr} {c0 c1 c2 d0 d1 d2 : Int} {tc0 tc1 tc2 td0 td1 td2 : Tok} {nc nd : Nat}
    {w : World} {mean : ExcName → Option Value} {mg mb : Str → Option Value} {dp un : Nat} {gd : Option (List Code)} {cn : Str} {cs : Scope} {a : Addr} {ccd : Value} {cl : List (Str × Addr)} {outer : List Env} {A₀ : Around} {base h₀ : Heap} {L : Addr} {m : Str → Option Value} {s : Shared} {Q E : Value → Shared → Prop} {news : List (Addr × Obj)}
    (B : Below A₀ base outer h₀) (F : Fr h₀ L s.heap m) (X : (Mine.fkh.heap_1_1 w.params).In h₀) (N : News h₀ L s.heap news) (T : Top Mine.fkh.view_1_2 (looseW Mine.fkh.view_1_2 [Str.ofString "EXACT_TOKEN_TYPES"]) mean mg mb h₀) (hk : cs.kind = .function)
    (hx : (x, listOf #[.int c0 tc0, .int c1 tc1, .int c2 tc2] nc) ∈ news) (hy : (y, listOf #[.int d0 td0, .int d1 td1, .int d2 td2] nd) ∈ news) (hd : dp + 4 < recursionLimit) (hu : un + 16 * 4 < cLine)
    (hb : c0 - d0 ≤ c1 - d1 + 12 ∧ c1 - d1 ≤ c0 - d0 + 12 ∧ c0 - d0 ≤ c2 - d2 + 12 ∧ c2 - d2 ≤ c0 - d0 + 12 ∧ c1 - d1 ≤ c2 - d2 + 12 ∧ c2 - d2 ≤ c1 - d1 + 12) (ht : On3 (c0 - d0) (c1 - d1) (c2 - d2) = true)
    (h : ∀ h' tk', Fr h₀ L h' m → News h₀ L h' news → Q (.bool true) { s with heap := h', toks := tk' }) :
    wpAny (model PySem.Challenge.rw_rl0069_01.row.prog w) (ktrTop dp un gd cn cs L a ccd cl outer) (call (.ref 62) [.ref x, .ref y]) Q E s :=
  use_on B F X N T hk hx hy hd hu hb (by rw [ht]; exact h)
theorem use_way_h {x y : Addr} {c0 c1 c2 d0 d1 d2 : Int} {tc0 tc1 tc2 td0 td1 td2 : Tok} {nc nd : Nat}
    {w : World} {mean : ExcName → Option Value} {mg mb : Str → Option Value} {dp un : Nat} {gd : Option (List Code)} {cn : Str} {cs : Scope} {a : Addr} {ccd : Value} {cl : List (Str × Addr)} {outer : List Env} {A₀ : Around} {base h₀ : Heap} {L : Addr} {m : Str → Option Value} {s : Shared} {Q E : Value → Shared → Prop} {news : List (Addr × Obj)}
    (B : Below A₀ base outer h₀) (F : Fr h₀ L s.heap m) (X : (Mine.fkh.heap_1_1 w.params).In h₀) (N : News h₀ L s.heap news) (T : Top Mine.fkh.view_1_2 (looseW Mine.fkh.view_1_2 [Str.ofString "EXACT_TOKEN_TYPES"]) mean mg mb h₀) (hk : cs.kind = .function)
    (hx : (x, listOf #[.int c0 tc0, .int c1 tc1, .int c2 tc2] nc) ∈ news) (hy : (y, listOf #[.int d0 td0, .int d1 td1, .int d2 td2] nd) ∈ news) (hd : dp + 6 < recursionLimit) (hu : un + 16 * 6 < cLine)
    (hb : c0 - d0 ≤ c1 - d1 + 12 ∧ c1 - d1 ≤ c0 - d0 + 12 ∧ c0 - d0 ≤ c2 - d2 + 12 ∧ c2 - d2 ≤ c0 - d0 + 12 ∧ c1 - d1 ≤ c2 - d2 + 12 ∧ c2 - d2 ≤ c1 - d1 + 12)
    (hc1 : 1 ≤ 4 + c0 - c1 ∧ 4 + c0 - c1 ≤ 7) (hc2 : 1 ≤ 4 + c1 - c2 ∧ 4 + c1 - c2 ≤ 7) (hd1 : 1 ≤ 4 + d0 - d1 ∧ 4 + d0 - d1 ≤ 7) (hd2 : 1 ≤ 4 + d1 - d2 ∧ 4 + d1 - d2 ≤ 7)
    (h : ∀ v t h' tk', Hold (v = 2 * (max (c0 - d0) (max (c1 - d1) (c2 - d2)) - min (c0 - d0) (min (c1 - d1) (c2 - d2)))) → 0 ≤ v → Fr h₀ L h' m → News h₀ L h' news → Q (.int v t) { s with heap := h', toks := tk' }) :
    wpAny (model PySem.Challenge.rw_rl0069_01.row.prog w) (ktrTop dp un gd cn cs L a ccd cl outer) (call (.ref 74) [.ref x, .ref y]) Q E s :=
  use_way B F X N T hk hx hy hd hu hb hc1 hc2 hd1 hd2 fun t h' tk' => h _ t h' tk' rfl (by omega)
end Mine
namespace Mine
/-- all three colours lie on the star -/
def fall (u0 v0 u1 v1 u2 v2 d0 d1 d2 : Int) : Bool := On3 (u0 - d0) (v0 - d1) (0 - d2) && On3 (u1 - d0) (v1 - d1) (0 - d2) && On3 (u2 - d0) (v2 - d1) (0 - d2)
theorem kept_fall {u0 v0 u1 v1 u2 v2 d0 d1 d2 : Int} {ys : List Value} (h : Kept (fun j => [!(On3 (u0 - d0) (v0 - d1) (0 - d2)), !(On3 (u1 - d0) (v1 - d1) (0 - d2)), !(On3 (u2 - d0) (v2 - d1) (0 - d2))].getD j false) 3 ys) :
    decide (ys = []) = fall u0 v0 u1 v1 u2 v2 d0 d1 d2 := kept3 h
theorem use_on_k {x y : Addr} {c0 c1 c2 d0 d1 d2 : Int} {tc0 tc1 tc2 td0 td1 td2 : Tok} {nc nd : Nat}
    {w : World} {mean : ExcName → Option Value} {mg mb : Str → Option Value} {dp un : Nat} {gd : Option (List Code)} {cn : Str} {cs : Scope} {a : Addr} {ccd : Value} {cl : List (Str × Addr)} {outer : List Env} {A₀ : Around} {base h₀ : Heap} {L : Addr} {m : Str → Option Value} {s : Shared} {Q E : Value → Shared → Prop} {news : List (Addr × Obj)}
    (B : Below A₀ base outer h₀) (F : Fr h₀ L s.heap m) (X : (Mine.fkh.heap_1_1 w.params).In h₀) (N : News h₀ L s.heap news) (T : Top Mine.fkh.view_1_2 (looseW Mine.fkh.view_1_2 [Str.ofString "EXACT_TOKEN_TYPES"]) mean mg mb h₀) (hk : cs.kind = .function)
    (hx : (x, listOf #[.int c0 tc0, .int c1 tc1, .int c2 tc2] nc) ∈ news) (hy : (y, listOf #[.int d0 td0, .int d1 td1, .int d2 td2] nd) ∈ news) (hd : dp + 4 < recursionLimit) (hu : un + 16 * 4 < cLine)
    (hb : c0 - d0 ≤ c1 - d1 + 12 ∧ c1 - d1 ≤ c0 - d0 + 12 ∧ c0 - d0 ≤ c2 - d2 + 12 ∧ c2 - d2 ≤ c0 - d0 + 12 ∧ c1 - d1 ≤ c2 - d2 + 12 ∧ c2 - d2 ≤ c1 - d1 + 12)
    (h : ∀ h' tk', Keeps s.heap h' → Q (.bool (On3 (c0 - d0) (c1 - d1) (c2 - d2))) { s with heap := h', toks := tk' }) :
    wpAny (model PySem.Challenge.rw_rl0069_01.row.prog w) (ktrTop dp un gd cn cs L a ccd cl outer) (call (.ref 62) [.ref x, .ref y]) Q E s := by
  refine c_on x c0 c1 c2 tc0 tc1 tc2 nc y d0 d1 d2 td0 td1 td2 nd hb w mean mg mb dp un gd cn cs a ccd cl outer A₀ base h₀ L m s Q E B F X (fun p hp => ?_) T hk hd hu (fun r h' tk' hK ho => ?_)
  · simp only [List.mem_cons, List.not_mem_nil, or_false] at hp
    rcases hp with rfl | rfl
    · exact N _ hx
    · exact N _ hy
  · subst ho
    exact h h' tk' hK
theorem fall_on {u0 v0 u1 v1 u2 v2 d0 d1 d2 : Int} (h : fall u0 v0 u1 v1 u2 v2 d0 d1 d2 = true) : On3 (u0 - d0) (v0 - d1) (0 - d2) = true ∧ On3 (u1 - d0) (v1 - d1) (0 - d2) = true ∧ On3 (u2 - d0) (v2 - d1) (0 - d2) = true := by
  unfold fall at h
  rw [Bool.and_eq_true, Bool.and_eq_true] at h
  exact ⟨h.1.1, h.1.2, h.2⟩
theorem on_fall {u0 v0 u1 v1 u2 v2 d0 d1 d2 : Int} (h0 : On3 (u0 - d0) (v0 - d1) (0 - d2) = true) (h1 : On3 (u1 - d0) (v1 - d1) (0 - d2) = true) (h2 : On3 (u2 - d0) (v2 - d1) (0 - d2) = true) : fall u0 v0 u1 v1 u2 v2 d0 d1 d2 = true := by
  unfold fall; rw [h0, h1, h2]; rfl
theorem final_iff {u0 v0 u1 v1 u2 v2 r0 g0 z0 r1 g1 z1 r2 g2 z2 M : Int} {ys : List Value}
    (a : M = u0 + v1 ∨ M = u0 + v2 ∨ M = u1 + v0 ∨ M = u1 + v2 ∨ M = u2 + v0 ∨ M = u2 + v1) (b : u0 + v1 ≤ M ∧ u0 + v2 ≤ M ∧ u1 + v0 ≤ M ∧ u1 + v2 ≤ M ∧ u2 + v0 ≤ M ∧ u2 + v1 ≤ M)
    (hb0 : Bd u0 v0) (hb1 : Bd u1 v1) (hb2 : Bd u2 v2) (T01 : Third u0 v0 u1 v1 r0 g0 z0) (T02 : Third u0 v0 u2 v2 r1 g1 z1) (T12 : Third u1 v1 u2 v2 r2 g2 z2)
    (kept : Kept (fun i => [fall u0 v0 u1 v1 u2 v2 u0 v0 0, fall u0 v0 u1 v1 u2 v2 u1 v1 0, fall u0 v0 u1 v1 u2 v2 u2 v2 0, fall u0 v0 u1 v1 u2 v2 r0 g0 z0, fall u0 v0 u1 v1 u2 v2 r1 g1 z1, fall u0 v0 u1 v1 u2 v2 r2 g2 z2].getD i false) 6 ys) :
    (ys ≠ []) ↔ Two M (u0 + v1) (u0 + v2) (u1 + v0) (u1 + v2) (u2 + v0) (u2 + v1) := by
  have k := kept.2
  constructor
  · intro hy
    refine Classical.byContradiction fun hT => hy (k.mpr fun j hj => ?_)
    have no : ∀ {d0 d1 d2 : Int}, fall u0 v0 u1 v1 u2 v2 d0 d1 d2 = false := fun {d0 d1 d2} => by
      cases e : fall u0 v0 u1 v1 u2 v2 d0 d1 d2 with
      | false => rfl
      | true =>
        have q := fall_on e
        exact absurd (star_two ⟨a, b⟩ q.1 q.2.1 q.2.2) hT
    rcases (show j = 0 ∨ j = 1 ∨ j = 2 ∨ j = 3 ∨ j = 4 ∨ j = 5 by omega) with rfl | rfl | rfl | rfl | rfl | rfl <;> exact no
  · intro hT e
    have q := k.mp e
    have q3 : fall u0 v0 u1 v1 u2 v2 r0 g0 z0 = false := q 3 (by decide)
    have q4 : fall u0 v0 u1 v1 u2 v2 r1 g1 z1 = false := q 4 (by decide)
    have q5 : fall u0 v0 u1 v1 u2 v2 r2 g2 z2 = false := q 5 (by decide)
    rcases two_star b T01 T02 T12 hT with h | h | h
    · rw [on_fall (third_on1 T01 hb0 hb1) (third_on2 T01 hb0 hb1) h] at q3; cases q3
    · rw [on_fall (third_on1 T02 hb0 hb2) h (third_on2 T02 hb0 hb2)] at q4; cases q4
    · rw [on_fall h (third_on1 T12 hb1 hb2) (third_on2 T12 hb1 hb2)] at q5; cases q5
theorem final_true {u0 v0 u1 v1 u2 v2 r0 g0 z0 r1 g1 z1 r2 g2 z2 M : Int} {ys : List Value}
    (a : M = u0 + v1 + 0 ∨ M = u0 + v2 + 0 ∨ M = u1 + v0 + 0 ∨ M = u1 + v2 + 0 ∨ M = u2 + v0 + 0 ∨ M = u2 + v1 + 0) (b : u0 + v1 + 0 ≤ M ∧ u0 + v2 + 0 ≤ M ∧ u1 + v0 + 0 ≤ M ∧ u1 + v2 + 0 ≤ M ∧ u2 + v0 + 0 ≤ M ∧ u2 + v1 + 0 ≤ M)
    (hb0 : Bd u0 v0) (hb1 : Bd u1 v1) (hb2 : Bd u2 v2) (T01 : Third u0 v0 u1 v1 r0 g0 z0) (T02 : Third u0 v0 u2 v2 r1 g1 z1) (T12 : Third u1 v1 u2 v2 r2 g2 z2)
    (kept : Kept (fun i => [fall u0 v0 u1 v1 u2 v2 u0 v0 0, fall u0 v0 u1 v1 u2 v2 u1 v1 0, fall u0 v0 u1 v1 u2 v2 u2 v2 0, fall u0 v0 u1 v1 u2 v2 r0 g0 z0, fall u0 v0 u1 v1 u2 v2 r1 g1 z1, fall u0 v0 u1 v1 u2 v2 r2 g2 z2].getD i false) 6 ys) :
    (decide (ys ≠ []) == decide (1 < ((List.count M [u0 + v1 + 0, u0 + v2 + 0, u1 + v0 + 0, u1 + v2 + 0, u2 + v0 + 0, u2 + v1 + 0] : Nat) : Int))) = true := by
  simp only [Int.add_zero] at a b ⊢
  have e := (final_iff a b hb0 hb1 hb2 T01 T02 T12 kept).trans two_count
  have e' : (ys ≠ []) ↔ 1 < ((List.count M [u0 + v1, u0 + v2, u1 + v0, u1 + v2, u2 + v0, u2 + v1] : Nat) : Int) := e.trans (by omega)
  rw [decide_eq_decide.mpr e', beq_self_eq_true]
end Mine
namespace Mine
theorem len3 {α : Type} {l : List α} (h : l.length = 3) : ∃ a b c, l = [a, b, c] := by
  obtain ⟨a, t, rfl⟩ := List.exists_cons_of_length_eq_add_one h
  obtain ⟨b, t, rfl⟩ := List.exists_cons_of_length_eq_add_one (Nat.succ.inj h)
  obtain ⟨c, t, rfl⟩ := List.exists_cons_of_length_eq_add_one (Nat.succ.inj (Nat.succ.inj h))
  obtain rfl := List.eq_nil_of_length_eq_zero (Nat.succ.inj (Nat.succ.inj (Nat.succ.inj h)))
  exact ⟨a, b, c, rfl⟩
/-- a drawn colour -/
def Drawn (c : Col) : Prop := c.b = 0 ∧ -3 ≤ c.r - c.g ∧ c.r - c.g ≤ 3 ∧ -3 ≤ c.g ∧ c.g ≤ 3
/-- the third one of two -/
def Thd (c d e : Col) : Prop := Third c.r c.g d.r d.g e.r e.g e.b
section
variable {prog : Program} {w : World} {A : Around} {E : Value → Shared → Prop} {s : Shared} {env : Env} {h₀ : Heap} {Q : Flow → Shared → Prop} {body : List Stmt}
theorem listRest_inv {x : Str} {I : Addr} {lp : Addr × Obj} (J : List Value → (Str → Option Value) → List (Addr × Obj) → Prop) (lpJ : ∀ {r m nw}, J r m nw → lp ∈ nw)
    (turn : ∀ v r m nw (it : Obj) h tk, J (v :: r) m nw → Fr h₀ env.locals h (fun y => if y = x then some v else m y) → News h₀ env.locals h ((I, it) :: nw) →
      wpAny (model prog w) A (execs body env) (UnrPost h₀ env.locals { s with heap := h, toks := tk } I it (J r) Q) E { s with heap := h, toks := tk })
    (done : ∀ m nw h tk, J [] m nw → Fr h₀ env.locals h m → News h₀ env.locals h nw → Q .next { s with heap := h, toks := tk }) :
    ∀ {vs m nw}, J vs m nw → ListRest prog w A E h₀ env x body Q s I lp vs m nw
  | [], m, nw, hJ => fun h tk F N => done m nw h tk hJ F N
  | v :: r, m, nw, hJ => fun it h tk _ F N => by
    refine wpAny_mono (turn v r m nw it h tk hJ F N) (fun f s₂ p => ?_) fun _ _ e => e
    have up : UnrEnd h₀ env.locals { s with heap := h, toks := tk } I it (J r) s₂ → UnrEnd h₀ env.locals { s with heap := h, toks := tk } I it (fun m' n' => lp ∈ n' ∧ ListRest prog w A E h₀ env x body Q s I lp r m' n') s₂ := by
      rintro ⟨h', tk, m', n', e, F', N', o, j⟩
      exact ⟨h', tk, m', n', e, F', N', o, lpJ j, listRest_inv J lpJ turn done j⟩
    cases f with
    | ret v => exact p
    | brk => exact p
    | next => exact up p
    | cont => exact up p
theorem itemsRest_inv {target : PySem.Expr} {I : Addr} {lp : Addr × Obj} (J : List Value → (Str → Option Value) → List (Addr × Obj) → Prop) (lpJ : ∀ {r m nw}, J r m nw → lp ∈ nw)
    (turn : ∀ v r m nw (it : Obj) h tk, J (v :: r) m nw → Fr h₀ env.locals h m → News h₀ env.locals h ((I, it) :: nw) →
      wpAny (model prog w) A (assign target env v) (fun _ s₂ => wpAny (model prog w) A (execs body env) (UnrPostW h₀ env.locals { s with heap := h, toks := tk } [(I, it)] (J r) Q) E s₂) E { s with heap := h, toks := tk })
    (done : ∀ m nw h tk, J [] m nw → Fr h₀ env.locals h m → News h₀ env.locals h nw → Q .next { s with heap := h, toks := tk }) :
    ∀ {vs m nw}, J vs m nw → ItemsRest prog w A E h₀ env target body Q s [(I, "list_iterator")] [lp] (vs.map .val) m nw
  | [], m, nw, hJ => fun h tk F N => done m nw h tk hJ F N
  | v :: r, m, nw, hJ => ItemsRest.val fun h tk F => AllObj.cons fun it _ => AllObj.nil fun N => by
    refine wpAny_mono (turn v r m nw it h tk hJ F N) (fun _ s₁ q => wpAny_mono q (fun f s₂ p => ?_) fun _ _ e => e) fun _ _ e => e
    have up : UnrEndW h₀ env.locals { s with heap := h, toks := tk } [(I, it)] (J r) s₂ → UnrEndW h₀ env.locals { s with heap := h, toks := tk } [(I, it)] (fun m' n' => SubL [lp] n' ∧ ItemsRest prog w A E h₀ env target body Q s [(I, "list_iterator")] [lp] (r.map .val) m' n') s₂ := by
      rintro ⟨h', tk, m', n', e, F', N', o, j⟩
      exact ⟨h', tk, m', n', e, F', N', o, ⟨lpJ j, trivial⟩, itemsRest_inv J lpJ turn done j⟩
    cases f with
    | ret v => exact p
    | brk => exact p
    | next => exact up p
    | cont => exact up p
end
theorem item_lastK {prog : Program} {w : World} {A : Around} {E : Value → Shared → Prop} {s : Shared} {h₀ : Heap} {L l : Addr} {news : List (Addr × Obj)} {value slice : PySem.Expr} {its : Array Value} {v : Value} {k : Nat} {z : Int} {u : Tok} {Q : Value → Shared → Prop}
    (N : News h₀ L s.heap news) (hm : (l, listOf (its.push v) k) ∈ news) (hz : z = -1) (h : Q v s)
    (hs : subscripted slice false (.ref l) (.int z u) = operate [.ref l, .int z u] (getItem (.ref l) (.int z u)) := by with_unfolding_all rfl) :
    wpAny (model prog w) A (subscriptTail value slice (.ref l) (.int z u)) Q E s := by
  subst hz
  have hl : s.heap.IsList l (its.push v) := ⟨_, (N _ hm).1, rfl, k, rfl⟩
  refine tail_any hl.typeIs slot_list_getitem.lookup (wpAny_getItem_list_neg hl (by decide) (by rw [Array.size_push]; omega) (by decide) ?_ h) hs
  rw [Array.size_push, show (-1 + ((its.size + 1 : Nat) : Int)).toNat = its.size by omega, Array.getElem?_push_size]
end Mine
namespace Mine
/-- what the way from the one to the other tells -/
def Way (c d : Col) (v : Int) : Prop := v = 2 * (max (c.r - d.r) (max (c.g - d.g) (c.b - d.b)) - min (c.r - d.r) (min (c.g - d.g) (c.b - d.b)))
section
variable {w : World} {mean : ExcName → Option Value} {mg mb : Str → Option Value} {dp un : Nat} {gd : Option (List Code)} {cn : Str} {cs : Scope} {a : Addr} {ccd : Value} {cl : List (Str × Addr)} {outer : List Env} {A₀ : Around} {base h₀ : Heap} {L : Addr} {m : Str → Option Value} {s : Shared} {Q E : Value → Shared → Prop} {news : List (Addr × Obj)}
theorem use_third_c {c d : Col} (B : Below A₀ base outer h₀) (F : Fr h₀ L s.heap m) (X : (Mine.fkh.heap_1_1 w.params).In h₀) (N : News h₀ L s.heap news) (T : Top Mine.fkh.view_1_2 (looseW Mine.fkh.view_1_2 [Str.ofString "EXACT_TOKEN_TYPES"]) mean mg mb h₀) (hk : cs.kind = .function)
    (hx : c.e ∈ news) (hy : d.e ∈ news) (zc : Drawn c) (zd : Drawn d) (hd : dp + 2 < recursionLimit) (hu : un + 16 * 2 < cLine)
    (h : ∀ (e : Col) h' tk', Thd c d e → Fr h₀ L h' m → News h₀ L h' (e.e :: news) → AllNe e.a news → Q (.ref e.a) { s with heap := h', toks := tk' }) :
    wpAny (model PySem.Challenge.rw_rl0069_01.row.prog w) (ktrTop dp un gd cn cs L a ccd cl outer) (call (.ref 67) [.ref c.a, .ref d.a]) Q E s := by
  refine use_third B F X N T hk hx hy hd hu fun D r g b t0 t1 t2 n h' tk' he F' N' l => h ⟨D, r, g, b, t0, t1, t2, n⟩ h' tk' ?_ F' N' l
  have z1 := zc.1
  have z2 := zd.1
  rw [z1, z2] at he
  exact he
theorem use_on_c1 {c d e : Col} (B : Below A₀ base outer h₀) (F : Fr h₀ L s.heap m) (X : (Mine.fkh.heap_1_1 w.params).In h₀) (N : News h₀ L s.heap news) (T : Top Mine.fkh.view_1_2 (looseW Mine.fkh.view_1_2 [Str.ofString "EXACT_TOKEN_TYPES"]) mean mg mb h₀) (hk : cs.kind = .function)
    (hx : c.e ∈ news) (hy : e.e ∈ news) (zc : Drawn c) (zd : Drawn d) (ht : Thd c d e) (hd : dp + 4 < recursionLimit) (hu : un + 16 * 4 < cLine)
    (h : ∀ h' tk', Fr h₀ L h' m → News h₀ L h' news → Q (.bool true) { s with heap := h', toks := tk' }) :
    wpAny (model PySem.Challenge.rw_rl0069_01.row.prog w) (ktrTop dp un gd cn cs L a ccd cl outer) (call (.ref 62) [.ref c.a, .ref e.a]) Q E s :=
  use_on_t B F X N T hk hx hy hd hu (by rw [zc.1]; exact third_bd1 ht ⟨zc.2.1, zc.2.2.1, zc.2.2.2⟩ ⟨zd.2.1, zd.2.2.1, zd.2.2.2⟩) (by rw [zc.1]; exact third_on1 ht ⟨zc.2.1, zc.2.2.1, zc.2.2.2⟩ ⟨zd.2.1, zd.2.2.1, zd.2.2.2⟩) h
theorem use_on_c2 {c d e : Col} (B : Below A₀ base outer h₀) (F : Fr h₀ L s.heap m) (X : (Mine.fkh.heap_1_1 w.params).In h₀) (N : News h₀ L s.heap news) (T : Top Mine.fkh.view_1_2 (looseW Mine.fkh.view_1_2 [Str.ofString "EXACT_TOKEN_TYPES"]) mean mg mb h₀) (hk : cs.kind = .function)
    (hx : d.e ∈ news) (hy : e.e ∈ news) (zc : Drawn c) (zd : Drawn d) (ht : Thd c d e) (hd : dp + 4 < recursionLimit) (hu : un + 16 * 4 < cLine)
    (h : ∀ h' tk', Fr h₀ L h' m → News h₀ L h' news → Q (.bool true) { s with heap := h', toks := tk' }) :
    wpAny (model PySem.Challenge.rw_rl0069_01.row.prog w) (ktrTop dp un gd cn cs L a ccd cl outer) (call (.ref 62) [.ref d.a, .ref e.a]) Q E s :=
  use_on_t B F X N T hk hx hy hd hu (by rw [zd.1]; exact third_bd2 ht ⟨zc.2.1, zc.2.2.1, zc.2.2.2⟩ ⟨zd.2.1, zd.2.2.1, zd.2.2.2⟩) (by rw [zd.1]; exact third_on2 ht ⟨zc.2.1, zc.2.2.1, zc.2.2.2⟩ ⟨zd.2.1, zd.2.2.1, zd.2.2.2⟩) h
theorem use_way_c1 {c d e : Col} (B : Below A₀ base outer h₀) (F : Fr h₀ L s.heap m) (X : (Mine.fkh.heap_1_1 w.params).In h₀) (N : News h₀ L s.heap news) (T : Top Mine.fkh.view_1_2 (looseW Mine.fkh.view_1_2 [Str.ofString "EXACT_TOKEN_TYPES"]) mean mg mb h₀) (hk : cs.kind = .function)
    (hx : c.e ∈ news) (hy : e.e ∈ news) (zc : Drawn c) (zd : Drawn d) (ht : Thd c d e) (hd : dp + 6 < recursionLimit) (hu : un + 16 * 6 < cLine)
    (h : ∀ v t h' tk', Way c e v → 0 ≤ v → Fr h₀ L h' m → News h₀ L h' news → Q (.int v t) { s with heap := h', toks := tk' }) :
    wpAny (model PySem.Challenge.rw_rl0069_01.row.prog w) (ktrTop dp un gd cn cs L a ccd cl outer) (call (.ref 74) [.ref c.a, .ref e.a]) Q E s :=
  use_way_h B F X N T hk hx hy hd hu (by rw [zc.1]; exact third_bd1 ht ⟨zc.2.1, zc.2.2.1, zc.2.2.2⟩ ⟨zd.2.1, zd.2.2.1, zd.2.2.2⟩) (bd_w1 ⟨zc.2.1, zc.2.2.1, zc.2.2.2⟩) (by rw [zc.1]; exact bd_w2 ⟨zc.2.1, zc.2.2.1, zc.2.2.2⟩)
    (third_w1 ht ⟨zc.2.1, zc.2.2.1, zc.2.2.2⟩ ⟨zd.2.1, zd.2.2.1, zd.2.2.2⟩) (third_w2 ht ⟨zc.2.1, zc.2.2.1, zc.2.2.2⟩ ⟨zd.2.1, zd.2.2.1, zd.2.2.2⟩) h
theorem use_way_c2 {c d e : Col} (B : Below A₀ base outer h₀) (F : Fr h₀ L s.heap m) (X : (Mine.fkh.heap_1_1 w.params).In h₀) (N : News h₀ L s.heap news) (T : Top Mine.fkh.view_1_2 (looseW Mine.fkh.view_1_2 [Str.ofString "EXACT_TOKEN_TYPES"]) mean mg mb h₀) (hk : cs.kind = .function)
    (hx : e.e ∈ news) (hy : d.e ∈ news) (zc : Drawn c) (zd : Drawn d) (ht : Thd c d e) (hd : dp + 6 < recursionLimit) (hu : un + 16 * 6 < cLine)
    (h : ∀ v t h' tk', Way e d v → 0 ≤ v → Fr h₀ L h' m → News h₀ L h' news → Q (.int v t) { s with heap := h', toks := tk' }) :
    wpAny (model PySem.Challenge.rw_rl0069_01.row.prog w) (ktrTop dp un gd cn cs L a ccd cl outer) (call (.ref 74) [.ref e.a, .ref d.a]) Q E s :=
  use_way_h B F X N T hk hx hy hd hu (by rw [zd.1]; exact third_bd3 ht ⟨zc.2.1, zc.2.2.1, zc.2.2.2⟩ ⟨zd.2.1, zd.2.2.1, zd.2.2.2⟩) (third_w1 ht ⟨zc.2.1, zc.2.2.1, zc.2.2.2⟩ ⟨zd.2.1, zd.2.2.1, zd.2.2.2⟩) (third_w2 ht ⟨zc.2.1, zc.2.2.1, zc.2.2.2⟩ ⟨zd.2.1, zd.2.2.1, zd.2.2.2⟩)
    (bd_w1 ⟨zd.2.1, zd.2.2.1, zd.2.2.2⟩) (by rw [zd.1]; exact bd_w2 ⟨zd.2.1, zd.2.2.1, zd.2.2.2⟩) h
theorem use_way_c3 {c d : Col} (B : Below A₀ base outer h₀) (F : Fr h₀ L s.heap m) (X : (Mine.fkh.heap_1_1 w.params).In h₀) (N : News h₀ L s.heap news) (T : Top Mine.fkh.view_1_2 (looseW Mine.fkh.view_1_2 [Str.ofString "EXACT_TOKEN_TYPES"]) mean mg mb h₀) (hk : cs.kind = .function)
    (hx : c.e ∈ news) (hy : d.e ∈ news) (zc : Drawn c) (zd : Drawn d) (hd : dp + 6 < recursionLimit) (hu : un + 16 * 6 < cLine)
    (h : ∀ v t h' tk', Way c d v → 0 ≤ v → Fr h₀ L h' m → News h₀ L h' news → Q (.int v t) { s with heap := h', toks := tk' }) :
    wpAny (model PySem.Challenge.rw_rl0069_01.row.prog w) (ktrTop dp un gd cn cs L a ccd cl outer) (call (.ref 74) [.ref c.a, .ref d.a]) Q E s :=
  use_way_h B F X N T hk hx hy hd hu (by rw [zc.1, zd.1]; exact bd_bd ⟨zc.2.1, zc.2.2.1, zc.2.2.2⟩ ⟨zd.2.1, zd.2.2.1, zd.2.2.2⟩) (bd_w1 ⟨zc.2.1, zc.2.2.1, zc.2.2.2⟩) (by rw [zc.1]; exact bd_w2 ⟨zc.2.1, zc.2.2.1, zc.2.2.2⟩)
    (bd_w1 ⟨zd.2.1, zd.2.2.1, zd.2.2.2⟩) (by rw [zd.1]; exact bd_w2 ⟨zd.2.1, zd.2.2.1, zd.2.2.2⟩) h
end
theorem way_sum_c {c d e : Col} {w0 w1 w2 : Int} {P : Prop} (hn : w0 + w1 ≠ w2) (h0 : Way c e w0) (h1 : Way e d w1) (h2 : Way c d w2) (zc : Drawn c) (zd : Drawn d) (ht : Thd c d e) : P := by
  unfold Way at h0 h1 h2
  rw [zc.1] at h0
  rw [zd.1] at h1
  rw [zc.1, zd.1] at h2
  exact way_sum hn h0 h1 h2 ht ⟨zc.2.1, zc.2.2.1, zc.2.2.2⟩ ⟨zd.2.1, zd.2.2.1, zd.2.2.2⟩
end Mine
namespace Mine
abbrev tupE (T : Addr) (x y : Value) : Addr × Obj := (T, { cls := .type "tuple", data := .seq #[x, y] })
abbrev upS (S : Addr) (m : Str → Option Value) : Str → Option Value := fun y => if y = Str.ofString "stars" then some (.ref S) else m y
/-- the loop over the three pairs: what stands between its turns -/
def Seg3 (S I : Addr) (kp : List (Addr × Obj)) (base items : List Value) (pairs : List (Col × Col)) (r : List Value) (m : Str → Option Value) (nw : List (Addr × Obj)) : Prop :=
  ∃ (th : List Col) (k : Nat) (m' : Str → Option Value), r = items.drop th.length ∧ th.length ≤ 3 ∧ (∀ (i : Nat) (d : Col × Col) (e : Col), pairs[i]? = some d → th[i]? = some e → Thd d.1 d.2 e) ∧ m = upS S m' ∧
    nw = (S, listOf (base ++ th.map Col.v).toArray k) :: (th.reverse.map Col.e ++ kp) ∧ (∀ p ∈ th.reverse.map Col.e ++ kp, p.1 ≠ S) ∧ ∀ p ∈ th.reverse.map Col.e ++ kp, p.1 ≠ I
def Its (kp : List (Addr × Obj)) (items : List Value) (pairs : List (Col × Col)) : Prop :=
  ∀ (i : Nat) (v : Value), items[i]? = some v → ∃ (c d : Col) (T : Addr), pairs[i]? = some (c, d) ∧ v = .ref T ∧ tupE T c.v d.v ∈ kp ∧ c.e ∈ kp ∧ d.e ∈ kp ∧ Drawn c ∧ Drawn d
section
variable {J : List Value → (Str → Option Value) → List (Addr × Obj) → Prop} {S I : Addr} {kp : List (Addr × Obj)} {base items : List Value} {pairs : List (Col × Col)} {r : List Value} {m : Str → Option Value} {nw : List (Addr × Obj)}
theorem Seg3.mem {lp : Addr × Obj} (hl : lp ∈ kp) (hJ : J = Seg3 S I kp base items pairs) (h : J r m nw) : lp ∈ nw := by
  subst hJ
  obtain ⟨th, k, m', _, _, _, _, rfl, _⟩ := h
  exact .tail _ (List.mem_append.mpr (.inr hl))
theorem Seg3.start {k : Nat} (hJ : J = Seg3 S I kp base items pairs) (h1 : ∀ p ∈ kp, p.1 ≠ S) (h2 : ∀ p ∈ kp, p.1 ≠ I) : J items (upS S m) ((S, listOf base.toArray k) :: kp) := by
  subst hJ
  exact ⟨[], k, m, rfl, Nat.zero_le _, fun i d e _ h => by { rw [List.getElem?_nil] at h; cases h }, rfl, by rw [List.map_nil, List.append_nil]; rfl, h1, h2⟩
theorem Seg3.done {c0 c1 c2 : Col} {v0 v1 v2 : Value} (hJ : J = Seg3 S I kp base [v0, v1, v2] [(c0, c1), (c0, c2), (c1, c2)]) (h : J [] m nw) :
    ∃ (e0 e1 e2 : Col) (k : Nat) (m' : Str → Option Value), m = upS S m' ∧ nw = (S, listOf (base ++ [e0.v, e1.v, e2.v]).toArray k) :: e2.e :: e1.e :: e0.e :: kp ∧ Thd c0 c1 e0 ∧ Thd c0 c2 e1 ∧ Thd c1 c2 e2 := by
  subst hJ
  obtain ⟨th, k, m', e, hl, ht, rfl, rfl, _, _⟩ := h
  have hl' : 3 ≤ th.length := List.drop_eq_nil_iff.mp e.symm
  obtain ⟨e0, e1, e2, rfl⟩ := len3 (Nat.le_antisymm hl hl')
  exact ⟨e0, e1, e2, k, m', rfl, rfl, ht 0 _ _ rfl rfl, ht 1 _ _ rfl rfl, ht 2 _ _ rfl rfl⟩
theorem Seg3.open {v : Value} (hJ : J = Seg3 S I kp base items pairs) (hi : Its kp items pairs) (hb : base.length = 3) (hn : items.length = 3) (h : J (v :: r) m nw) :
    ∃ (c d : Col) (T : Addr) (its : Array Value) (k : Nat) (kk : List (Addr × Obj)) (m' : Str → Option Value),
      (∀ e : Col, Thd c d e → e.a ≠ S → e.a ≠ I → ∀ k' m'', J r (upS S m'') ((S, listOf (its.push e.v) k') :: e.e :: kk)) ∧ v = .ref T ∧ m = upS S m' ∧ nw = (S, listOf its k) :: kk ∧
      its.size ≤ 5 ∧ tupE T c.v d.v ∈ kk ∧ c.e ∈ kk ∧ d.e ∈ kk ∧ Drawn c ∧ Drawn d ∧ (∀ p ∈ kk, p.1 ≠ S) ∧ ∀ p ∈ kk, p.1 ≠ I := by
  subst hJ
  obtain ⟨th, k, m', e, hl, ht, rfl, rfl, h1, h2⟩ := h
  have hlt : th.length < items.length := Nat.lt_of_not_le fun q => by rw [List.drop_eq_nil_of_le q] at e; exact List.cons_ne_nil _ _ e
  rw [List.drop_eq_getElem_cons hlt] at e
  obtain ⟨rfl, rfl⟩ := List.cons.inj e
  obtain ⟨c, d, T, hp, hv, hT, hc, hd, zc, zd⟩ := hi th.length _ (List.getElem?_eq_getElem hlt)
  have up : ∀ {p}, p ∈ kp → p ∈ th.reverse.map Col.e ++ kp := fun h => List.mem_append.mpr (.inr h)
  refine ⟨c, d, T, _, k, _, m', fun x hx n1 n2 k' m'' => ⟨th ++ [x], k', m'', ?_, ?_, ?_, rfl, ?_, ?_, ?_⟩, hv, rfl, rfl, ?_, up hT, up hc, up hd, zc, zd, h1, h2⟩
  · rw [List.length_append]; rfl
  · rw [List.length_append]; exact hn ▸ hlt
  · intro i q y hq hy
    rcases Nat.lt_or_ge i th.length with hh | hh
    · rw [List.getElem?_append_left hh] at hy
      exact ht i q y hq hy
    · rw [List.getElem?_append_right hh] at hy
      have hi0 : i = th.length := by
        rcases Nat.eq_or_lt_of_le hh with h | h
        · exact h.symm
        · rw [List.getElem?_eq_none (by show 1 ≤ _; exact Nat.le_sub_of_add_le (by rw [Nat.add_comm]; exact h))] at hy; cases hy
      subst hi0
      rw [hp] at hq
      rw [Nat.sub_self] at hy
      obtain rfl := Option.some.inj hq
      obtain rfl := Option.some.inj hy
      exact hx
  · simp
  · rw [List.reverse_append]
    intro p hp
    rcases List.mem_cons.mp hp with rfl | hp
    · exact n1
    · exact h1 p hp
  · rw [List.reverse_append]
    intro p hp
    rcases List.mem_cons.mp hp with rfl | hp
    · exact n2
    · exact h2 p hp
  · rw [List.size_toArray, List.length_append, List.length_map, hb]
    rw [hn] at hlt
    omega
end
theorem seg3_end {J : List Value → (Str → Option Value) → List (Addr × Obj) → Prop} {h₀ h' : Heap} {L I S : Addr} {it : Obj} {s₁ : Shared} {tk : Nat} {m1 : Str → Option Value} {W : Addr × Obj} {kk : List (Addr × Obj)} {its : Array Value} {k : Nat} {r : List Value} {c d e : Col}
    (F : Fr h₀ L h' m1) (hm : m1 (Str.ofString "stars") = some (.ref S)) (N : News h₀ L h' (W :: e.e :: (I, it) :: (S, listOf (its.push e.v) k) :: kk)) (ht : Thd c d e) (n1 : S ≠ e.a) (n2 : I ≠ e.a) (n3 : S < I) (hk2 : ∀ p ∈ kk, p.1 ≠ I)
    (hr : ∀ e : Col, Thd c d e → e.a ≠ S → e.a ≠ I → ∀ k' m'', J r (upS S m'') ((S, listOf (its.push e.v) k') :: e.e :: kk)) : UnrEndW h₀ L s₁ [(I, it)] (J r) { s₁ with heap := h', toks := tk } := by
  refine ⟨h', tk, upS S m1, _, rfl, fr_canon_is _ F hm, fun p hp => N p ?_, fun p hp q hq => ?_, hr e ht n1.symm n2.symm k m1⟩
  · rcases List.mem_cons.mp hp with rfl | hp
    · exact .tail _ (.tail _ (.head _))
    · rcases List.mem_cons.mp hp with rfl | hp
      · exact .tail _ (.tail _ (.tail _ (.head _)))
      · rcases List.mem_cons.mp hp with rfl | hp
        · exact .tail _ (.head _)
        · exact .tail _ (.tail _ (.tail _ (.tail _ hp)))
  · rw [List.mem_singleton.mp hq]
    rcases List.mem_cons.mp hp with rfl | hp
    · exact Nat.ne_of_lt n3
    · rcases List.mem_cons.mp hp with rfl | hp
      · exact n2.symm
      · exact hk2 p hp
theorem seg3_news {h₀ h : Heap} {L : Addr} {s e2 e1 e0 l t2 t1 t0 : Addr × Obj} {r : List (Addr × Obj)} (N : News h₀ L h (s :: e2 :: e1 :: e0 :: l :: t2 :: t1 :: t0 :: r)) : News h₀ L h (s :: e2 :: e1 :: e0 :: r) := fun p hp => N p (by
  rcases List.mem_cons.mp hp with rfl | hp
  · exact .head _
  · rcases List.mem_cons.mp hp with rfl | hp
    · exact .tail _ (.head _)
    · rcases List.mem_cons.mp hp with rfl | hp
      · exact .tail _ (.tail _ (.head _))
      · rcases List.mem_cons.mp hp with rfl | hp
        · exact .tail _ (.tail _ (.tail _ (.head _)))
        · exact .tail _ (.tail _ (.tail _ (.tail _ (.tail _ (.tail _ (.tail _ (.tail _ hp))))))))
theorem its_of {T0 T1 T2 : Addr} {c0 c1 c2 : Col} {l a b : Addr × Obj} (z0 : Drawn c0) (z1 : Drawn c1) (z2 : Drawn c2) :
    Its [l, tupE T2 c1.v c2.v, tupE T1 c0.v c2.v, tupE T0 c0.v c1.v, a, b, c2.e, c1.e, c0.e] [.ref T0, .ref T1, .ref T2] [(c0, c1), (c0, c2), (c1, c2)] := by
  have m0 : c0.e ∈ [l, tupE T2 c1.v c2.v, tupE T1 c0.v c2.v, tupE T0 c0.v c1.v, a, b, c2.e, c1.e, c0.e] := by repeat (first | exact .head _ | refine .tail _ ?_)
  have m1 : c1.e ∈ [l, tupE T2 c1.v c2.v, tupE T1 c0.v c2.v, tupE T0 c0.v c1.v, a, b, c2.e, c1.e, c0.e] := .tail _ (.tail _ (.tail _ (.tail _ (.tail _ (.tail _ (.tail _ (.head _)))))))
  have m2 : c2.e ∈ [l, tupE T2 c1.v c2.v, tupE T1 c0.v c2.v, tupE T0 c0.v c1.v, a, b, c2.e, c1.e, c0.e] := .tail _ (.tail _ (.tail _ (.tail _ (.tail _ (.tail _ (.head _))))))
  intro i v h
  match i, h with
  | 0, h => exact ⟨c0, c1, T0, rfl, (Option.some.inj h).symm, .tail _ (.tail _ (.tail _ (.head _))), m0, m1, z0, z1⟩
  | 1, h => exact ⟨c0, c2, T1, rfl, (Option.some.inj h).symm, .tail _ (.tail _ (.head _)), m0, m2, z0, z2⟩
  | 2, h => exact ⟨c1, c2, T2, rfl, (Option.some.inj h).symm, .tail _ (.head _), m1, m2, z1, z2⟩
  | n + 3, h => cases h
theorem seg3_in {h₀ h : Heap} {L S l T2 T1 T0 D C a2 a1 a0 : Addr} {os ol o2 o1 o0 od oc q2 q1 q0 : Obj} (N : News h₀ L h [(l, ol), (T2, o2), (T1, o1), (T0, o0), (S, os), (D, od), (C, oc), (a2, q2), (a1, q1), (a0, q0)])
    (h1 : S < l) (h2 : S < T2) (h3 : S < T1) (h4 : S < T0) (h5 : D < S) (h6 : C < S) (h7 : a2 < S) (h8 : a1 < S) (h9 : a0 < S) :
    News h₀ L h [(S, os), (l, ol), (T2, o2), (T1, o1), (T0, o0), (D, od), (C, oc), (a2, q2), (a1, q1), (a0, q0)] ∧ ∀ p ∈ [(l, ol), (T2, o2), (T1, o1), (T0, o0), (D, od), (C, oc), (a2, q2), (a1, q1), (a0, q0)], p.1 ≠ S := by
  refine ⟨fun p hp => N p ?_, ?_⟩
  · rcases List.mem_cons.mp hp with rfl | hp
    · exact .tail _ (.tail _ (.tail _ (.tail _ (.head _))))
    · rcases List.mem_cons.mp hp with rfl | hp
      · exact .head _
      · rcases List.mem_cons.mp hp with rfl | hp
        · exact .tail _ (.head _)
        · rcases List.mem_cons.mp hp with rfl | hp
          · exact .tail _ (.tail _ (.head _))
          · rcases List.mem_cons.mp hp with rfl | hp
            · exact .tail _ (.tail _ (.tail _ (.head _)))
            · exact .tail _ (.tail _ (.tail _ (.tail _ (.tail _ hp))))
  · refine List.forall_mem_cons.mpr ⟨Nat.ne_of_gt h1, List.forall_mem_cons.mpr ⟨Nat.ne_of_gt h2, List.forall_mem_cons.mpr ⟨Nat.ne_of_gt h3, List.forall_mem_cons.mpr ⟨Nat.ne_of_gt h4, List.forall_mem_cons.mpr ⟨Nat.ne_of_lt h5, List.forall_mem_cons.mpr ⟨Nat.ne_of_lt h6, List.forall_mem_cons.mpr ⟨Nat.ne_of_lt h7, List.forall_mem_cons.mpr ⟨Nat.ne_of_lt h8, List.forall_mem_cons.mpr ⟨Nat.ne_of_lt h9, List.forall_mem_nil _⟩⟩⟩⟩⟩⟩⟩⟩⟩
theorem seg3_J {h₀ h : Heap} {L S : Addr} {n : Nat} {its : List Value} {kp : List (Addr × Obj)} (_ : News h₀ L h ((S, listOf its.toArray n) :: kp)) (I : Addr) (items : List Value) (pairs : List (Col × Col)) : ∃ J, J = Seg3 S I kp its items pairs := ⟨_, rfl⟩
end Mine
namespace Mine
def Near (c d : Col) : Prop := c.r - d.r ≤ c.g - d.g + 12 ∧ c.g - d.g ≤ c.r - d.r + 12 ∧ c.r - d.r ≤ c.b - d.b + 12 ∧ c.b - d.b ≤ c.r - d.r + 12 ∧ c.g - d.g ≤ c.b - d.b + 12 ∧ c.b - d.b ≤ c.g - d.g + 12
def onc (c d : Col) : Bool := On3 (c.r - d.r) (c.g - d.g) (c.b - d.b)
def fallc (c0 c1 c2 d : Col) : Bool := onc c0 d && onc c1 d && onc c2 d
def stars6 (c0 c1 c2 e0 e1 e2 : Col) (i : Nat) : Bool := [fallc c0 c1 c2 c0, fallc c0 c1 c2 c1, fallc c0 c1 c2 c2, fallc c0 c1 c2 e0, fallc c0 c1 c2 e1, fallc c0 c1 c2 e2].getD i false
def sums6 (c0 c1 c2 : Col) : List Int := [c0.r + c1.g + c2.b, c0.r + c2.g + c1.b, c1.r + c0.g + c2.b, c1.r + c2.g + c0.b, c2.r + c0.g + c1.b, c2.r + c1.g + c0.b]
theorem near_dd {c d : Col} (hc : Drawn c) (hd : Drawn d) : Near c d := by
  unfold Near; rw [hc.1, hd.1]; exact bd_bd hc.2 hd.2
theorem near_dt {c d e x : Col} (ht : Thd c d e) (hc : Drawn c) (hd : Drawn d) (hx : Drawn x) : Near x e := by
  unfold Near; rw [hx.1]; exact third_bd4 ht hc.2 hd.2 hx.2
theorem fall_c {c0 c1 c2 d : Col} (z0 : Drawn c0) (z1 : Drawn c1) (z2 : Drawn c2) : fall c0.r c0.g c1.r c1.g c2.r c2.g d.r d.g d.b = fallc c0 c1 c2 d := by
  unfold fall fallc onc; rw [z0.1, z1.1, z2.1]
theorem fall_d {c0 c1 c2 d : Col} (z0 : Drawn c0) (z1 : Drawn c1) (z2 : Drawn c2) (z : Drawn d) : fall c0.r c0.g c1.r c1.g c2.r c2.g d.r d.g 0 = fallc c0 c1 c2 d :=
  (congrArg (fun b => fall c0.r c0.g c1.r c1.g c2.r c2.g d.r d.g b) z.1).symm.trans (fall_c z0 z1 z2)
section
variable {c0 c1 c2 e0 e1 e2 : Col} (z0 : Drawn c0) (z1 : Drawn c1) (z2 : Drawn c2) (t0 : Thd c0 c1 e0) (t1 : Thd c0 c2 e1) (t2 : Thd c1 c2 e2)
include z0 z1 z2 t0 t1 t2
theorem star_key {nw : List (Addr × Obj)} (m0 : c0.e ∈ nw) (m1 : c1.e ∈ nw) (m2 : c2.e ∈ nw) (m3 : e0.e ∈ nw) (m4 : e1.e ∈ nw) (m5 : e2.e ∈ nw) {i : Nat} {v : Value} (hi : (#[c0.v, c1.v, c2.v, e0.v, e1.v, e2.v] : Array Value)[i]? = some v) :
    ∃ st : Col, v = .ref st.a ∧ st.e ∈ nw ∧ (Near c0 st ∧ Near c1 st ∧ Near c2 st) ∧ stars6 c0 c1 c2 e0 e1 e2 i = fallc c0 c1 c2 st := by
  have hi6 : i < 6 := (Array.getElem?_eq_some_iff.mp hi).1
  rcases (show i = 0 ∨ i = 1 ∨ i = 2 ∨ i = 3 ∨ i = 4 ∨ i = 5 by omega) with rfl | rfl | rfl | rfl | rfl | rfl
  · exact ⟨c0, (Option.some.inj hi).symm, m0, ⟨near_dd z0 z0, near_dd z1 z0, near_dd z2 z0⟩, rfl⟩
  · exact ⟨c1, (Option.some.inj hi).symm, m1, ⟨near_dd z0 z1, near_dd z1 z1, near_dd z2 z1⟩, rfl⟩
  · exact ⟨c2, (Option.some.inj hi).symm, m2, ⟨near_dd z0 z2, near_dd z1 z2, near_dd z2 z2⟩, rfl⟩
  · exact ⟨e0, (Option.some.inj hi).symm, m3, ⟨near_dt t0 z0 z1 z0, near_dt t0 z0 z1 z1, near_dt t0 z0 z1 z2⟩, rfl⟩
  · exact ⟨e1, (Option.some.inj hi).symm, m4, ⟨near_dt t1 z0 z2 z0, near_dt t1 z0 z2 z1, near_dt t1 z0 z2 z2⟩, rfl⟩
  · exact ⟨e2, (Option.some.inj hi).symm, m5, ⟨near_dt t2 z1 z2 z0, near_dt t2 z1 z2 z1, near_dt t2 z1 z2 z2⟩, rfl⟩
theorem final_c {M : Int} {ys : List Value} (a : M = c0.r + c1.g + c2.b ∨ M = c0.r + c2.g + c1.b ∨ M = c1.r + c0.g + c2.b ∨ M = c1.r + c2.g + c0.b ∨ M = c2.r + c0.g + c1.b ∨ M = c2.r + c1.g + c0.b)
    (b : c0.r + c1.g + c2.b ≤ M ∧ c0.r + c2.g + c1.b ≤ M ∧ c1.r + c0.g + c2.b ≤ M ∧ c1.r + c2.g + c0.b ≤ M ∧ c2.r + c0.g + c1.b ≤ M ∧ c2.r + c1.g + c0.b ≤ M) (kept : Kept (stars6 c0 c1 c2 e0 e1 e2) 6 ys) :
    (decide (ys ≠ []) == decide (1 < ((List.count M [c0.r + c1.g + c2.b, c0.r + c2.g + c1.b, c1.r + c0.g + c2.b, c1.r + c2.g + c0.b, c2.r + c0.g + c1.b, c2.r + c1.g + c0.b] : Nat) : Int))) = true := by
  rw [z0.1, z1.1, z2.1] at a b ⊢
  refine final_true a b z0.2 z1.2 z2.2 t0 t1 t2 ?_
  rw [fall_d z0 z1 z2 z0, fall_d z0 z1 z2 z1, fall_d z0 z1 z2 z2, fall_c z0 z1 z2, fall_c z0 z1 z2, fall_c z0 z1 z2]
  exact kept
end
theorem col_key {c0 c1 c2 st : Col} {nw : List (Addr × Obj)} (m0 : c0.e ∈ nw) (m1 : c1.e ∈ nw) (m2 : c2.e ∈ nw) (hn : Near c0 st ∧ Near c1 st ∧ Near c2 st) {j : Nat} {v : Value} (hj : (#[c0.v, c1.v, c2.v] : Array Value)[j]? = some v) :
    ∃ ca : Col, v = .ref ca.a ∧ ca.e ∈ nw ∧ Near ca st ∧ [!(onc c0 st), !(onc c1 st), !(onc c2 st)].getD j false = !(onc ca st) := by
  have hj3 : j < 3 := (Array.getElem?_eq_some_iff.mp hj).1
  rcases (show j = 0 ∨ j = 1 ∨ j = 2 by omega) with rfl | rfl | rfl
  · exact ⟨c0, (Option.some.inj hj).symm, m0, hn.1, rfl⟩
  · exact ⟨c1, (Option.some.inj hj).symm, m1, hn.2.1, rfl⟩
  · exact ⟨c2, (Option.some.inj hj).symm, m2, hn.2.2, rfl⟩
theorem kept_c {c0 c1 c2 d : Col} {ys : List Value} (h : Kept (fun j => [!(onc c0 d), !(onc c1 d), !(onc c2 d)].getD j false) 3 ys) : decide (ys = []) = fallc c0 c1 c2 d := kept3 h
theorem use_on_kc {c d : Col}
    {w : World} {mean : ExcName → Option Value} {mg mb : Str → Option Value} {dp un : Nat} {gd : Option (List Code)} {cn : Str} {cs : Scope} {a : Addr} {ccd : Value} {cl : List (Str × Addr)} {outer : List Env} {A₀ : Around} {base h₀ : Heap} {L : Addr} {m : Str → Option Value} {s : Shared} {Q E : Value → Shared → Prop} {news : List (Addr × Obj)}
    (B : Below A₀ base outer h₀) (F : Fr h₀ L s.heap m) (X : (Mine.fkh.heap_1_1 w.params).In h₀) (N : News h₀ L s.heap news) (T : Top Mine.fkh.view_1_2 (looseW Mine.fkh.view_1_2 [Str.ofString "EXACT_TOKEN_TYPES"]) mean mg mb h₀) (hk : cs.kind = .function)
    (hx : c.e ∈ news) (hy : d.e ∈ news) (hd : dp + 4 < recursionLimit) (hu : un + 16 * 4 < cLine) (hb : Near c d)
    (h : ∀ h' tk', Keeps s.heap h' → Q (.bool (onc c d)) { s with heap := h', toks := tk' }) :
    wpAny (model PySem.Challenge.rw_rl0069_01.row.prog w) (ktrTop dp un gd cn cs L a ccd cl outer) (call (.ref 62) [.ref c.a, .ref d.a]) Q E s := use_on_k B F X N T hk hx hy hd hu hb h
theorem news_drop7 {h₀ h : Heap} {L : Addr} {d a1 a2 a3 a4 a5 a6 a7 : Addr × Obj} {r : List (Addr × Obj)} (N : News h₀ L h (d :: a1 :: a2 :: a3 :: a4 :: a5 :: a6 :: a7 :: r)) : News h₀ L h (d :: r) := fun p hp => N p (by
  rcases List.mem_cons.mp hp with rfl | hp
  · exact .head _
  · exact .tail _ (.tail _ (.tail _ (.tail _ (.tail _ (.tail _ (.tail _ (.tail _ hp))))))))
theorem ints_sums {c0 c1 c2 : Col} {ys : List Value} (h : IntsAre ys (sums6 c0 c1 c2)) : ∃ w0 w1 w2 w3 w4 w5, ys = [.int (c0.r + c1.g + c2.b) w0, .int (c0.r + c2.g + c1.b) w1, .int (c1.r + c0.g + c2.b) w2, .int (c1.r + c2.g + c0.b) w3, .int (c2.r + c0.g + c1.b) w4, .int (c2.r + c1.g + c0.b) w5] := ints6 h
end Mine
namespace Mine
set_option pp.deepTerms false
set_option pp.deepTerms.threshold 10
abbrev lawEnv (c : Scope) (z : Z) : Env := envOfC (Str.ofString "law") c z.L z.a (.ref (z.n 0))
abbrev lawA (c : Scope) (z : Z) : Around := callerA.deeper (lawEnv c z)
abbrev lawM (z : Z) : Model := model PySem.Challenge.rw_rl0069_01.row.prog z.w
abbrev lawNums (z : Z) : Addr × Obj := (z.n 1, listOf #[.int (z.i 0) (z.n 2), .int (z.i 1) (z.n 3), .int (z.i 2) (z.n 4)] (z.n 5))
/-- what the law's text behind its first statement is given -/
structure LHyp (c : Scope) (z : Z) : Prop where
  P : PassesOwn (lawM z) (lawA c z) (lawEnv c z) z.E
  B : Below callerA z.h₀ [] z.h₀
  X : (Mine.fkh.heap_1_1 z.w.params).In z.h₀
  T : Top Mine.fkh.view_1_2 (looseW Mine.fkh.view_1_2 [Str.ofString "EXACT_TOKEN_TYPES"]) z.mean z.mg z.mb z.h₀
structure LHyp1 (c : Scope) (z : Z) : Prop extends LHyp c z where
  F : Fr z.h₀ z.L z.s.heap (fun y => if y = Str.ofString "numbers" then some (.ref (z.n 1)) else z.m y)
  N : News z.h₀ z.L z.s.heap [lawNums z, (z.L + 1 + 1, z.o 0), (z.L + 1, z.o 1)]
  dC : ∃ v, (z.o 0).data = .cell v
  n1 : z.L + 1 + 1 ≠ z.n 1
  n2 : z.L + 1 ≠ z.n 1
  hret : ∀ h tk m, Fr z.h₀ z.L h m → z.R (.ret (.bool true)) { z.s with heap := h, toks := tk }
abbrev lawSaid (bc : List Stmt × Scope) : Prop := ∀ P, ∃ oc od q ps dV kV doc pm an cdv ct osl, (Mine.fkh.heap_1_1 P).lookup 79 = some ⟨oc, od, .func (fnOf (Str.ofString "law") q ps bc.1 bc.2 dV kV doc pm an cdv ct), osl⟩
def lawBS : { bc : List Stmt × Scope // lawSaid bc } := by
  refine' ⟨(_, _), fun P => ⟨_, _, _, _, _, _, _, _, _, _, _, _, rfl⟩⟩
end Mine
namespace Mine
set_option pp.deepTerms false
set_option pp.deepTerms.threshold 10
abbrev lawB : List Stmt := lawBS.1.1
abbrev lawS : Scope := lawBS.1.2
/-- a part of the law's text -/
abbrev lawRun (z : Z) (l : List Stmt) : Prop := wpAny (lawM z) (lawA lawS z) (execs l (lawEnv lawS z)) z.R z.E z.s
@[irreducible] def runX (z : Z) (l : List Stmt) : Prop := lawRun z l
theorem execs_split {M : Model} {A : Around} {E : Value → Shared → Prop} {env : Env} {s : Shared} {l : List Stmt} {Q : Flow → Shared → Prop} (n : Nat)
    (h : wpAny M A (execs (l.take n) env) (fun f s' => match f with | .next => wpAny M A (execs (l.drop n) env) Q E s' | f => Q f s') E s) : wpAny M A (execs l env) Q E s := fun Γ p hΓ => by
  rw [← List.take_append_drop n l]
  refine execs_app_wp _ p s ?_
  refine Sem.wp_mono _ Γ _ (fun f p' s' h' => ?_) (fun _ _ _ h' => h') _ _ (h Γ p hΓ)
  cases f with
  | next => exact h' Γ p' hΓ
  | cont => exact h'
  | brk => exact h'
  | ret v => exact h'
def Seg2 (Dr I : Addr) (C : Addr × Obj) (lp : Addr × Obj) (r : List Value) (_ : Str → Option Value) (nw : List (Addr × Obj)) : Prop :=
  ∃ (cs : List Col) (k : Nat), nw = (Dr, listOf (cs.map Col.v).toArray k) :: C :: lp :: cs.reverse.map Col.e ∧ (∀ p ∈ lp :: cs.reverse.map Col.e, p.1 ≠ Dr) ∧ (∀ p ∈ lp :: cs.reverse.map Col.e, p.1 ≠ I) ∧ (∀ c ∈ cs, Drawn c) ∧ cs.length + r.length = 3 ∧ ∀ v ∈ r, ∃ x t, v = .int x t
theorem Seg2.mem {J : List Value → (Str → Option Value) → List (Addr × Obj) → Prop} {Dr I : Addr} {C : Addr × Obj} {lp : Addr × Obj} {r : List Value} {m : Str → Option Value} {nw : List (Addr × Obj)} (hJ : J = Seg2 Dr I C lp) (h : J r m nw) : lp ∈ nw := by
  subst hJ
  obtain ⟨cs, k, rfl, _⟩ := h
  exact .tail _ (.tail _ (.head _))
theorem Seg2.done {J : List Value → (Str → Option Value) → List (Addr × Obj) → Prop} {Dr I : Addr} {C : Addr × Obj} {lp : Addr × Obj} {m : Str → Option Value} {nw : List (Addr × Obj)} (hJ : J = Seg2 Dr I C lp) (h : J [] m nw) :
    ∃ (c0 c1 c2 : Col) (k : Nat), nw = [(Dr, listOf #[c0.v, c1.v, c2.v] k), C, lp, c2.e, c1.e, c0.e] ∧ Drawn c0 ∧ Drawn c1 ∧ Drawn c2 := by
  subst hJ
  obtain ⟨cs, k, rfl, _, _, h3, h4, _⟩ := h
  obtain ⟨c0, c1, c2, rfl⟩ := len3 (h4 : cs.length = 3)
  exact ⟨c0, c1, c2, k, rfl, h3 _ (.head _), h3 _ (.tail _ (.head _)), h3 _ (.tail _ (.tail _ (.head _)))⟩
theorem seg2_news {h₀ h : Heap} {L : Addr} {a b c d e f : Addr × Obj} (N : News h₀ L h [a, b, c, d, e, f]) : News h₀ L h [a, b, d, e, f] := fun p hp => N p (by
  rcases List.mem_cons.mp hp with rfl | hp
  · exact .head _
  · rcases List.mem_cons.mp hp with rfl | hp
    · exact .tail _ (.head _)
    · exact .tail _ (.tail _ (.tail _ hp)))
theorem seg2_end {J : List Value → (Str → Option Value) → List (Addr × Obj) → Prop} {h₀ h' : Heap} {L I Dr : Addr} {it : Obj} {s₁ : Shared} {tk : Nat} {m' : Str → Option Value} {e1 e2 e3 C lp : Addr × Obj} {kp : List (Addr × Obj)} {its : Array Value} {k : Nat} {r : List Value} (c : Col)
    (F : Fr h₀ L h' m') (N : News h₀ L h' (e1 :: e2 :: e3 :: c.e :: (I, it) :: (Dr, listOf (its.push c.v) k) :: C :: lp :: kp)) (hc : Drawn c) (n1 : c.a ≠ Dr) (n2 : c.a ≠ I) (n3 : Dr ≠ I) (n4 : C.1 ≠ I) (hk2 : ∀ p ∈ lp :: kp, p.1 ≠ I)
    (hr : ∀ c : Col, Drawn c → c.a ≠ Dr → c.a ≠ I → ∀ k' m', J r m' ((Dr, listOf (its.push c.v) k') :: C :: lp :: c.e :: kp)) : UnrEnd h₀ L s₁ I it (J r) { s₁ with heap := h', toks := tk } := by
  refine ⟨h', tk, m', _, rfl, F, fun p hp => N p ?_, fun p hp => ?_, hr c hc n1 n2 k m'⟩
  · have mv : p = (I, it) ∨ p = (Dr, listOf (its.push c.v) k) ∨ p = C ∨ p = lp ∨ p = c.e ∨ p ∈ kp := by simpa only [List.mem_cons] using hp
    rcases mv with h | h | h | h | h | h <;> simp [h]
  · have mv : p = (Dr, listOf (its.push c.v) k) ∨ p = C ∨ p = lp ∨ p = c.e ∨ p ∈ kp := by simpa only [List.mem_cons] using hp
    rcases mv with rfl | rfl | rfl | rfl | h
    · exact n3
    · exact n4
    · exact hk2 _ (.head _)
    · exact n2
    · exact hk2 _ (.tail _ h)
theorem drawn_of {a : Addr} {x : Int} {t0 t1 t2 : Tok} {k : Nat} : Drawn ⟨a, x % 7 - 3 + (x / 7 % 7 - 3), x / 7 % 7 - 3, 0, t0, t1, t2, k⟩ :=
  ⟨rfl, by show -3 ≤ x % 7 - 3 + (x / 7 % 7 - 3) - (x / 7 % 7 - 3); omega, by show x % 7 - 3 + (x / 7 % 7 - 3) - (x / 7 % 7 - 3) ≤ 3; omega, by show -3 ≤ x / 7 % 7 - 3; omega, by show x / 7 % 7 - 3 ≤ 3; omega⟩
theorem turn2_tab : ∀ p : Nat, p < 7 → ∀ q : Nat, q < 7 → (((((4 + ((p : Int) - 3 + ((q : Int) - 3)) - ((q : Int) - 3)).toNat : Nat) : Int) - 4 + ((((4 + ((q : Int) - 3) - 0).toNat : Nat) : Int) - 4) == (p : Int) - 3 + ((q : Int) - 3)) && ((((4 + ((q : Int) - 3) - 0).toNat : Nat) : Int) - 4 == (q : Int) - 3) &&
    (((((4 + ((p : Int) - 3 + ((q : Int) - 3)) - ((q : Int) - 3)).toNat + 1) / 2 + ((4 + ((q : Int) - 3) - 0).toNat + 1) / 2 : Nat) : Int) == ((p : Int) + 2) / 2 + ((q : Int) - 3 + 5) / 2)) = true := by decide +kernel
theorem turn2_no {x : Int} {P : Prop} (h : (((((4 + (x % 7 - 3 + (x / 7 % 7 - 3)) - (x / 7 % 7 - 3)).toNat : Nat) : Int) - 4 + ((((4 + (x / 7 % 7 - 3) - 0).toNat : Nat) : Int) - 4) == x % 7 - 3 + (x / 7 % 7 - 3)) && ((((4 + (x / 7 % 7 - 3) - 0).toNat : Nat) : Int) - 4 == x / 7 % 7 - 3) &&
    (((((4 + (x % 7 - 3 + (x / 7 % 7 - 3)) - (x / 7 % 7 - 3)).toNat + 1) / 2 + ((4 + (x / 7 % 7 - 3) - 0).toNat + 1) / 2 : Nat) : Int) == (x % 7 + 2) / 2 + (x / 7 % 7 - 3 + 5) / 2)) = false) : P := by
  obtain ⟨p, hp⟩ : ∃ p, x % 7 = p := ⟨_, rfl⟩
  obtain ⟨q, hq⟩ : ∃ q, x / 7 % 7 = q := ⟨_, rfl⟩
  rw [hp, hq] at h
  have h1 : 0 ≤ p ∧ p < 7 := by omega
  have h2 : 0 ≤ q ∧ q < 7 := by omega
  clear hp hq
  have t := turn2_tab p.toNat (by omega) q.toNat (by omega)
  rw [Int.toNat_of_nonneg h1.1, Int.toNat_of_nonneg h2.1] at t
  exact Bool.noConfusion (h.symm.trans t)
theorem Seg2.start {Dr I : Addr} {C : Addr × Obj} {D : Addr} {o : Obj} {x0 x1 x2 : Int} {t0 t1 t2 : Tok} {m : Str → Option Value} (hI : D ≠ I) (hD : D < Dr) :
    Seg2 Dr I C (D, o) [.int x0 t0, .int x1 t1, .int x2 t2] m [(Dr, listOf #[] 0), C, (D, o)] :=
  ⟨[], 0, rfl, fun p hp => by rw [List.mem_singleton.mp hp]; exact Nat.ne_of_lt hD, fun p hp => by rw [List.mem_singleton.mp hp]; exact hI, fun c hc => (List.not_mem_nil hc).elim, rfl, fun v hv => by
    rcases List.mem_cons.mp hv with rfl | hv
    · exact ⟨_, _, rfl⟩
    · rcases List.mem_cons.mp hv with rfl | hv
      · exact ⟨_, _, rfl⟩
      · rw [List.mem_singleton.mp hv]; exact ⟨_, _, rfl⟩⟩
theorem Seg2.open {J : List Value → (Str → Option Value) → List (Addr × Obj) → Prop} {Dr I : Addr} {C : Addr × Obj} {lp : Addr × Obj} {v : Value} {r : List Value} {m : Str → Option Value} {nw : List (Addr × Obj)} (hJ : J = Seg2 Dr I C lp) (h : J (v :: r) m nw) :
    ∃ (x : Int) (t : Tok) (its : Array Value) (k : Nat) (kp : List (Addr × Obj)), (∀ c : Col, Drawn c → c.a ≠ Dr → c.a ≠ I → ∀ k' m', J r m' ((Dr, listOf (its.push c.v) k') :: C :: lp :: c.e :: kp)) ∧ v = .int x t ∧ nw = (Dr, listOf its k) :: C :: lp :: kp ∧ its.size ≤ 2 ∧ (∀ p ∈ lp :: kp, p.1 ≠ Dr) ∧ (∀ p ∈ lp :: kp, p.1 ≠ I) := by
  subst hJ
  obtain ⟨cs, k, rfl, h1, h2, h3, h4, h5⟩ := h
  obtain ⟨x, t, rfl⟩ := h5 _ (.head _)
  have h4' : cs.length + (r.length + 1) = 3 := h4
  refine ⟨x, t, _, k, _, fun c hc n1 n2 k' m' => ⟨cs ++ [c], k', ?_, ?_, ?_, ?_, ?_, fun v hv => h5 v (.tail _ hv)⟩, rfl, rfl, ?_, h1, h2⟩
  · simp
  · rw [List.reverse_append]
    intro p hp
    rcases List.mem_cons.mp hp with rfl | hp
    · exact h1 _ (.head _)
    · rcases List.mem_cons.mp hp with rfl | hp
      · exact n1
      · exact h1 p (.tail _ hp)
  · rw [List.reverse_append]
    intro p hp
    rcases List.mem_cons.mp hp with rfl | hp
    · exact h2 _ (.head _)
    · rcases List.mem_cons.mp hp with rfl | hp
      · exact n2
      · exact h2 p (.tail _ hp)
  · intro d hd
    rcases List.mem_append.mp hd with hd | hd
    · exact h3 d hd
    · rw [List.mem_singleton.mp hd]; exact hc
  · rw [List.length_append]; show cs.length + 1 + r.length = 3; omega
  · simp; omega
theorem seg2_in {h₀ h : Heap} {L D Dr C C' : Addr} {lo oD x' : Obj} {n : Nat} {m : Str → Option Value} (F : Fr h₀ L h m) (N : News h₀ L h [(Dr, listOf #[] n), (D, lo), (C, oD), (C', x')]) (hoD : oD.data = .cell (some (.ref Dr))) (h1 : D < Dr) (h2 : C < Dr) :
    ∃ Dr oD, Fr h₀ L h m ∧ News h₀ L h [(Dr, listOf #[] n), (C, oD), (D, lo)] ∧ oD.data = .cell (some (.ref Dr)) ∧ @LT.lt Nat _ D Dr ∧ @LT.lt Nat _ C Dr :=
  ⟨Dr, oD, F, fun p hp => N p (by simp only [List.mem_cons, List.not_mem_nil, or_false] at hp ⊢; rcases hp with h | h | h <;> simp [h]), hoD, h1, h2⟩
theorem seg2_J {h₀ h : Heap} {L Dr : Addr} {n : Nat} {C lp : Addr × Obj} (_ : News h₀ L h [(Dr, listOf #[] n), C, lp]) (I : Addr) : ∃ J, J = Seg2 Dr I C lp := ⟨_, rfl⟩
@[irreducible] def LawQ2 (z : Z) : Prop := LHyp1 lawS z →
  (∀ (Dr : Addr) (c0 c1 c2 : Col) (k : Nat) (oD : Obj) (h : Heap) (tk : Nat) (m : Str → Option Value), Fr z.h₀ z.L h m → News z.h₀ z.L h [(Dr, listOf #[c0.v, c1.v, c2.v] k), (z.L + 1 + 1, oD), c2.e, c1.e, c0.e] → oD.data = .cell (some (.ref Dr)) → Drawn c0 → Drawn c1 → Drawn c2 → z.R .next { z.s with heap := h, toks := tk }) →
  runX z ((lawB.drop 1).take 2)
@[irreducible] noncomputable def law2C : Z := eps LawQ2
section
theorem words40 : True := by
  k_with "exec Assign cons ListComp" => (k_here; (with_reducible show wpAny _ _ (exec (Stmt.Assign _ (Expr.ListComp _ [⟨Expr.Name _ _, Expr.Call _ [Expr.Constant _ _ _] _ _, [], _⟩] _ _) _) _) _ _ _); lcf_look; lcg_calm; k_dflt (refine LCg.Assign_ListComp_U (F₀ := by k_asm) (by rfl) (by with_unfolding_all rfl) (by with_unfolding_all rfl) (by decide) (by rfl) (by decide) (by rfl) (by rfl) (by rfl) ?_); k_dflt lcg_toSrc)
  trivial
theorem words41 : True := by
  k_with "CompSrc" => (k_here; k_dflt (refine LCg.CompSrc.range (by rfl) (by k_asm) (by k_asm) (by assumption) (by first | decide | rfl) (by first | rfl | decide) (by first | size_fits | exact Nat.le_of_ble_eq_true rfl) ?_; intro g'; lcg_lit))
  trivial
theorem words42 : True := by
  k_with "CompEnd" => lcg_end
  trivial
theorem words43 : True := by
  k_with "call builtin:sum" => (k_here; (with_reducible show wpAny _ _ (call (Value.builtin "sum") [Value.ref _]) _ _ _); k_dflt (refine' sum_some ?k1 ?k2 ?k3 ?k5 ?_; (case k1 => k_asm); (case k2 => k_asm); (case k3 => rfl); (case k5 => exact slice_some (by assumption)); k_whole); intro z' h' tk' t' F' N')
  trivial
theorem words44 : True := by
  k_with "binaryOp Mod int int" => (k_here; (with_reducible show wpAny _ _ (binaryOp Operator.Mod (Value.int _ _) (Value.int _ _)) _ _ _); k_dflt (refine fmod_lit (by decide) ?_); intro t' k')
  trivial
theorem words45 : True := by
  k_with "binaryOp FloorDiv int int" => (k_here; (with_reducible show wpAny _ _ (binaryOp Operator.FloorDiv (Value.int _ _) (Value.int _ _)) _ _ _); k_dflt (refine' fdiv_lit (by decide) ?hp ?_; (case hp => first | exact Or.inl (PyProof.noPylong_small (by omega)) | exact Or.inr (PySem.PylongRoom.of (PySem.Heap.NoLimit.keeps (PyProof.Rows.Top.nolimit (by assumption)) (PyProof.Rows.Fr.keep (by assumption))) (of_decide_eq_true (by with_unfolding_all rfl)))); k_whole); intro t' k')
  trivial
theorem words46 : True := by
  k_with "UnrEnd" => ((with_reducible show UnrEnd _ _ _ _ _ _ _); (with_reducible rename Fr _ _ _ _ => F'); (with_reducible rename News _ _ _ _ => N'); refine unr_drop3 F' N' (by simp only [AllNe, and_true]; omega) ⟨by k_mem, ?_⟩)
  trivial
theorem words47 : True := by
  k_with "call ref" => (k_here; (with_reducible show wpAny _ _ (call (Value.ref 62) _) _ _ _); k_dflt (refine' use_on_t ?k1 ?k2 ?k3 ?k4 ?k5 ?kK ?ka ?kb ?kd ?ku ?kc ?kt ?_; (case k1 => k_asm); (case k2 => k_asm); (case k3 => k_asm); (case k4 => k_asm); (case k5 => k_asm); (case kK => first | exact rfl | assumption); (case ka => k_mem); (case kb => k_mem); (case kd => ktr_room); (case ku => ktr_units); (case kt => first | exact third_on1 (by assumption) (by assumption) (by assumption) | exact third_on2 (by assumption) (by assumption) (by assumption)); (case kc => first | exact third_bd1 (by assumption) (by assumption) (by assumption) | exact third_bd2 (by assumption) (by assumption) (by assumption)); k_whole); intro h' tk' F' N'; (try k_sweep))
  trivial
theorem words48 : True := by
  k_with "call ref" => (k_here; (with_reducible show wpAny _ _ (call (Value.ref 74) _) _ _ _); k_dflt (refine' use_way_h ?k1 ?k2 ?k3 ?k4 ?k5 ?kK ?ka ?kb ?kd ?ku ?kc ?ke ?kf ?kg ?kh ?_; (case k1 => k_asm); (case k2 => k_asm); (case k3 => k_asm); (case k4 => k_asm); (case k5 => k_asm); (case kK => first | exact rfl | assumption); (case ka => k_mem); (case kb => k_mem); (case kd => ktr_room); (case ku => ktr_units); (case kc => first | exact bd_bd (by assumption) (by assumption) | exact third_bd1 (by assumption) (by assumption) (by assumption) | exact third_bd3 (by assumption) (by assumption) (by assumption)); (case ke => first | exact bd_w1 (by assumption) | exact third_w1 (by assumption) (by assumption) (by assumption)); (case kf => first | exact bd_w2 (by assumption) | exact third_w2 (by assumption) (by assumption) (by assumption)); (case kg => first | exact bd_w1 (by assumption) | exact third_w1 (by assumption) (by assumption) (by assumption)); (case kh => first | exact bd_w2 (by assumption) | exact third_w2 (by assumption) (by assumption) (by assumption)); k_whole); intro v' t' h' tk' hv' hp' F' N'; (try k_sweep))
  trivial
theorem words49 : True := by
  k_with "call ref" => (k_here; (with_reducible show wpAny _ _ (call (Value.ref 67) _) _ _ _); k_dflt (refine' use_third_t ?k1 ?k2 ?k3 ?k4 ?k5 ?kK ?ka ?kb ?kd ?ku ?_; (case k1 => k_asm); (case k2 => k_asm); (case k3 => k_asm); (case k4 => k_asm); (case k5 => k_asm); (case kK => first | exact rfl | assumption); (case ka => k_mem); (case kb => k_mem); (case kd => ktr_room); (case ku => ktr_units); k_whole); intro D' r' g' b' t0' t1' t2' n' h' tk' he' F' N' l1'; (try simp only [AllNe, and_true] at l1'); (repeat (obtain ⟨_, l1'⟩ := l1')); (try k_sweep))
  trivial
local macro_rules | `(tactic| k_lt $h:ident) => `(tactic| (replace $h := allLt_of $h; simp only [AllLt, and_true] at $h:ident; repeat (obtain ⟨_, $h:ident⟩ := $h:ident)))
local macro_rules | `(tactic| k_ne) => `(tactic| (refine neN ?_; (try dsimp only); first | with_reducible assumption | exact Ne.symm (by with_reducible assumption) | exact Nat.ne_of_lt (by with_reducible assumption) | exact Nat.ne_of_gt (by with_reducible assumption) | omega))
theorem words50 : True := by
  k_with "UnrEndW" => ((with_reducible show UnrEndW _ _ _ _ _ _); (with_reducible rename Fr _ _ _ _ => F'); (with_reducible rename News _ _ _ _ => N'); (try ((with_reducible rename (_ = _ ∨ _ = _ ∨ _ = _) => h9'); clear h9')); refine unr_dropW F' N' (by (simp only [AllNe, and_true]); (repeat' (refine And.intro ?_ ?_)); all_goals k_ne) ⟨by k_subL, ?_⟩)
  trivial
theorem words51 : True := by
  k_with "exec Assign cons ListComp" => ((with_reducible show wpAny _ _ (exec (Stmt.Assign _ (Expr.ListComp _ [⟨Expr.Tuple _ _ _, _, _, _⟩] _ _) _) _) _ _ _); refine hold_in ?_)
  trivial
theorem words52 : True := by
  k_with "exec Assign cons ListComp" => ((with_reducible show wpAny _ _ (exec (Stmt.Assign _ (Expr.ListComp _ [⟨Expr.Name _ _, Expr.Name _ _, [_], _⟩] _ _) _) _) _ _ _); refine hold_in ?_)
  trivial
theorem words53 : True := by
  k_with "call ref" => (k_here; (with_reducible show wpAny _ _ (call (Value.ref 62) _) (fun _ _ => wpAny _ _ (truthy _) _ _ _) _ _); k_dflt (refine' use_on_k ?k1 ?k2 ?k3 ?k4 ?k5 ?kK ?ka ?kb ?kd ?ku ?kc ?_; (case k1 => k_asm); (case k2 => k_asm); (case k3 => k_asm); (case k4 => k_asm); (case k5 => k_asm); (case kK => first | exact rfl | assumption); (case ka => k_mem); (case kb => k_mem); (case kd => ktr_room); (case ku => ktr_units); (case kc => assumption); k_whole); intro h' tk' hKK'; refine hold_in ?_)
  trivial
theorem words54 : True := by
  k_with "compareOp NotEq ref ref" => (k_here; (with_reducible show wpAny _ _ (compareOp CmpOp.NotEq (Value.ref _) (Value.ref _)) _ _ _); k_dflt (refine' ne_nilN ?k1 ?k2 ?k3 ?k4 ?k5 ?k6 ?_; (case k1 => k_asm); (case k2 => k_mem); (case k3 => assumption); (case k4 => assumption); (case k5 => k_mem); (case k6 => ktr_units); k_whole))
  trivial
theorem words55 : True := by
  k_with "pyIter ref" => ((with_reducible show wpAny _ _ (pyIter (Value.ref _)) (fun it s₂ => LoopAtV _ _ _ _ _ _ _ _ _ it s₂) _ _); refine hold_in ?_)
  trivial
local macro_rules | `(tactic| k_all) => `(tactic| with_reducible assumption)
theorem words56 : True := by
  k_with "subscriptTail Name UnaryOp ref int" => (k_here; (with_reducible show wpAny _ _ (subscriptTail _ _ (Value.ref _) (Value.int _ _)) _ _ _); (with_unfolding_all refine' item_lastK ?k1 ?k2 ?k3 ?_ ?k6; (case k1 => k_asm); (case k2 => k_mem); (case k3 => decide); (case k6 => with_unfolding_all rfl); k_whole))
  trivial
theorem words57 : True := by
  k_with "pyIter ref" => ((with_reducible show wpAny _ _ (pyIter (Value.ref _)) (fun it s₂ => TurnsAt _ _ _ _ _ _ _ _ _ it s₂) _ _); refine hold_in ?_)
  trivial
local macro_rules | `(tactic| k_mem) => `(tactic| with_reducible_and_instances assumption)
theorem words58 : True := by
  k_with "call ref" => (k_here; (with_reducible show wpAny _ _ (call (Value.ref 62) _) _ _ _); k_dflt (first | (refine' use_on_c1 ?k1 ?k2 ?k3 ?k4 ?k5 ?kK ?ka ?kb ?kz ?ky ?kt ?kd ?ku ?_; (case kt => with_reducible assumption); (case kz => with_reducible assumption); (case ky => with_reducible assumption); (case k1 => k_asm); (case k2 => k_asm); (case k3 => k_asm); (case k4 => k_asm); (case k5 => k_asm); (case kK => first | exact rfl | assumption); (case ka => k_mem); (case kb => k_mem); (case kd => ktr_room); (case ku => ktr_units); k_whole) | (refine' use_on_c2 ?k1 ?k2 ?k3 ?k4 ?k5 ?kK ?ka ?kb ?kz ?ky ?kt ?kd ?ku ?_; (case kt => with_reducible assumption); (case kz => with_reducible assumption); (case ky => with_reducible assumption); (case k1 => k_asm); (case k2 => k_asm); (case k3 => k_asm); (case k4 => k_asm); (case k5 => k_asm); (case kK => first | exact rfl | assumption); (case ka => k_mem); (case kb => k_mem); (case kd => ktr_room); (case ku => ktr_units); k_whole)); intro h' tk' F' N'; (try k_sweep))
  trivial
theorem words59 : True := by
  k_with "call ref" => (k_here; (with_reducible show wpAny _ _ (call (Value.ref 74) _) _ _ _); k_dflt (first | (refine' use_way_c1 ?k1 ?k2 ?k3 ?k4 ?k5 ?kK ?ka ?kb ?kz ?ky ?kt ?kd ?ku ?_; (case kt => with_reducible assumption); (case kz => with_reducible assumption); (case ky => with_reducible assumption); (case k1 => k_asm); (case k2 => k_asm); (case k3 => k_asm); (case k4 => k_asm); (case k5 => k_asm); (case kK => first | exact rfl | assumption); (case ka => k_mem); (case kb => k_mem); (case kd => ktr_room); (case ku => ktr_units); k_whole) | (refine' use_way_c2 ?k1 ?k2 ?k3 ?k4 ?k5 ?kK ?ka ?kb ?kz ?ky ?kt ?kd ?ku ?_; (case kt => with_reducible assumption); (case kz => with_reducible assumption); (case ky => with_reducible assumption); (case k1 => k_asm); (case k2 => k_asm); (case k3 => k_asm); (case k4 => k_asm); (case k5 => k_asm); (case kK => first | exact rfl | assumption); (case ka => k_mem); (case kb => k_mem); (case kd => ktr_room); (case ku => ktr_units); k_whole) | (refine' use_way_c3 ?k1 ?k2 ?k3 ?k4 ?k5 ?kK ?ka ?kb ?kz ?ky ?kd ?ku ?_; (case kz => with_reducible assumption); (case ky => with_reducible assumption); (case k1 => k_asm); (case k2 => k_asm); (case k3 => k_asm); (case k4 => k_asm); (case k5 => k_asm); (case kK => first | exact rfl | assumption); (case ka => k_mem); (case kb => k_mem); (case kd => ktr_room); (case ku => ktr_units); k_whole)); intro v' t' h' tk' hv' hp' F' N'; (try k_sweep))
  trivial
theorem words60 : True := by
  k_with "call ref" => (k_here; (with_reducible show wpAny _ _ (call (Value.ref 67) _) _ _ _); k_dflt (refine' use_third_c ?k1 ?k2 ?k3 ?k4 ?k5 ?kK ?ka ?kb ?kz ?ky ?kd ?ku ?_; (case k1 => k_asm); (case k2 => k_asm); (case k3 => k_asm); (case k4 => k_asm); (case k5 => k_asm); (case kK => first | exact rfl | assumption); (case kz => with_reducible assumption); (case ky => with_reducible assumption); (case ka => k_mem); (case kb => k_mem); (case kd => ktr_room); (case ku => ktr_units); k_whole); intro e' h' tk' he' F' N' l1'; (try simp only [AllNe, and_true] at l1'); (repeat (obtain ⟨_, l1'⟩ := l1')); (try k_sweep))
  trivial
set_option maxHeartbeats 20000000 in
theorem law2_walk : LawQ2 law2C := by
  unfold LawQ2 runX
  intro H hret
  obtain ⟨⟨hPE, B0, X0, T0⟩, F1, N1, ⟨v0, hC0⟩, hn1, hn2, _⟩ := H
  dsimp only [lawNums] at N1
  revert X0; show _ → wpAny (model PySem.Challenge.rw_rl0069_01.row.prog _) _ _ _ _ _; k_fill; intro X0
  show wpAny _ _ (execs (_ :: _ :: []) _) _ _ _
  k_fold
  repeat' (first | (k_unfold; (try dsimp only)) | walk1 | (dsimp only; walk1) | (leave1; (try dsimp only)) | fail "no step")
  unfold Hold
  (rename Fr _ _ _ _ => F2); (rename News _ _ _ _ => N2)
  obtain ⟨Dr, oD, F2, N2, hoD, hd1, hd2⟩ := seg2_in F2 N2 (by assumption) (by assumption) (by assumption)
  refine iter_listUnr (vs := [.int _ _, .int _ _, .int _ _]) rfl F2 N2 (List.Mem.tail _ (List.Mem.tail _ (List.Mem.head _))) rfl rfl fun I hI => ?_
  have hI1 := hI _ (List.Mem.head _)
  have hI2 := hI _ (List.Mem.tail _ (List.Mem.head _))
  obtain ⟨J, hJ⟩ := seg2_J N2 I
  refine listRest_inv J (fun hj => Seg2.mem hJ hj) ?_ ?_ (hJ ▸ Seg2.start (fun e => Nat.lt_irrefl _ (e ▸ hI _ (List.Mem.tail _ (List.Mem.tail _ (List.Mem.head _))))) hd1)
  · intro v r m nw it h tk hj F3 N3
    obtain ⟨x, t, its, k, kp, hr, rfl, rfl, hlen, hk1, hk2⟩ := Seg2.open hJ hj
    clear F2 N2 hI hj hJ hret
    try k_fold
    repeat' (first | (k_unfold; (try dsimp only)) | walk1 | (dsimp only; walk1) | (leave1; (try dsimp only)) | fail "no step")
    · (rename Fr _ _ _ _ => F9); (rename News _ _ _ _ => N9)
      exact seg2_end ⟨_, _, _, _, _, _, _, _⟩ F9 N9 drawn_of (Nat.ne_of_gt (by with_reducible assumption)) (Nat.ne_of_gt (by with_reducible assumption)) (Nat.ne_of_lt hI1) (Nat.ne_of_lt hI2) hk2 hr
    · exact turn2_no (by with_reducible assumption)
  · intro m nw h tk hj F3 N3
    obtain ⟨c0, c1, c2, k, rfl, z0, z1, z2⟩ := Seg2.done hJ hj
    clear F2 N2 hI hj hJ
    try k_fold
    repeat' (first | (k_unfold; (try dsimp only)) | walk1 | (dsimp only; walk1) | (leave1; (try dsimp only)) | fail "no step")
    (rename Fr _ _ _ _ => F9); (rename News _ _ _ _ => N9)
    exact hret Dr c0 c1 c2 k oD _ _ _ F9 (seg2_news N9) hoD z0 z1 z2
end
theorem words61 : True := by
  k_with_none
  k_with "call builtin:max" => (k_here; (with_reducible show wpAny _ _ (call (Value.builtin "max") [Value.int _ _, Value.int _ _, Value.int _ _]) _ _ _); k_dflt (refine' max3_K ?k1 ?k2 ?k3 ?_; (case k1 => k_asm); (case k2 => k_asm); (case k3 => exact rfl); k_whole); intro h' tk' t' F' N'; (try k_sweep))
  k_with "call builtin:min" => (k_here; (with_reducible show wpAny _ _ (call (Value.builtin "min") [Value.int _ _, Value.int _ _, Value.int _ _]) _ _ _); k_dflt (refine' min3_K ?k1 ?k2 ?k3 ?_; (case k1 => k_asm); (case k2 => k_asm); (case k3 => exact rfl); k_whole); intro h' tk' t' F' N'; (try k_sweep))
  k_with "exec While BoolOp cons nil" => ((with_reducible show wpAny _ _ (exec (Stmt.While _ _ _ _) _) _ _ _); refine hold_in ?_)
  k_with "exec While Compare cons nil" => ((with_reducible show wpAny _ _ (exec (Stmt.While _ _ _ _) _) _ _ _); refine hold_in ?_)
  k_with "subscriptTail Name Slice str ref" => ((with_reducible show wpAny _ _ (subscriptTail _ (Expr.Slice none (some (Expr.BoolOp _ _ _)) none _) _ _) _ _ _); (with_reducible rename Fr _ _ _ _ => F'); (with_reducible rename News _ _ _ _ => N'); refine slice_none_K (s := ⟨_, _, _, _, _⟩) F' N' ?_; intro _ _ _ _ _)
  k_with "eval Subscript" => (k_here; (with_reducible show wpAny _ _ (eval (Expr.Subscript (Expr.Name _ _) (Expr.Slice none (some (Expr.BoolOp _ _ _)) none _) _) _) _ _ _); k_dflt (refine' cutEnd ?k1 ?k2 ?k3 ?k4 ?k5 ?k6 ?k7 ?_; (case k1 => k_asm); (case k2 => k_asm); (case k3 => exact rfl); (case k4 => exact rfl); (case k5 => omega); (case k6 => omega); (case k7 => omega); k_whole); intro h' t' k' F' N'; (try k_sweep))
  k_with "execs cons" => (k_here; (with_reducible refine any_toks ?_); intro tk'; (with_reducible refine wpAny_execs_cons ?_); (try dsimp only))
  k_with "execs nil" => (k_here; (with_reducible refine any_toks ?_); intro tk'; (with_reducible refine wpAny_execs_nil ?_); (try dsimp only))
  k_with "call ref" => (k_here; (with_reducible show wpAny _ _ (call (Value.ref 31) _) _ _ _); k_dflt (refine' use_ct (c_subst _ _ _ _ ?kc) ?k1 ?k2 ?k3 ?k4 ?k5 ?kK ?kS ?kd ?ku ?_; (case kc => assumption); (case k1 => k_asm); (case k2 => k_asm); (case k3 => k_asm); (case k4 => k_asm); (case k5 => k_asm); (case kK => first | exact rfl | assumption); (case kS => intro p hp; cases hp); (case kd => ktr_room); (case ku => ktr_units); k_whole); intro r' h' tk' hK' F' N' ho'; (refine Exists.elim ho' ?_); clear ho' hK'; intro t9 e9; subst e9; (try dsimp only); (try k_sweep))
  k_with "binaryOp Mult str int" => (k_here; (with_reducible show wpAny _ _ (binaryOp Operator.Mult (Value.str _ _) (Value.int _ _)) _ _ _); (first | refine mul_lt (by first | omega | (dsimp only [List.getD_cons_zero, List.getD_cons_succ, Int.toNat]; omega)) (by omega) ?_ | refine mul_gt (by omega) (by omega) ?_); intro t' n')
  k_with "binaryOp Add str str" => (k_here; (with_reducible show wpAny _ _ (binaryOp Operator.Add (Value.str (Wd _ _) _) (Value.str (Wd _ _) _)) _ _ _); (refine add_wd (by omega) (by omega) ?_); intro t' n')
  k_with "subscriptTail Name Constant ref int" => (k_here; (with_reducible show wpAny _ _ (subscriptTail _ (Expr.Constant _ _ _) (Value.ref _) (Value.int _ _)) _ _ _); k_dflt (first | ((with_reducible show wpAny _ _ (subscriptTail _ _ (Value.ref _) (Value.int 0 _)) _ _ _); refine' sub3_0 ?k1 ?k2 ?_ ?k7; (case k1 => k_asm); (case k2 => k_mem); (case k7 => with_unfolding_all rfl); k_whole) | ((with_reducible show wpAny _ _ (subscriptTail _ _ (Value.ref _) (Value.int 1 _)) _ _ _); refine' sub3_1 ?k1 ?k2 ?_ ?k7; (case k1 => k_asm); (case k2 => k_mem); (case k7 => with_unfolding_all rfl); k_whole) | ((with_reducible show wpAny _ _ (subscriptTail _ _ (Value.ref _) (Value.int 2 _)) _ _ _); refine' sub3_2 ?k1 ?k2 ?_ ?k7; (case k1 => k_asm); (case k2 => k_mem); (case k7 => with_unfolding_all rfl); k_whole)))
  k_with "call ref" => (k_here; (with_reducible show wpAny _ _ (call (Value.ref 45) _) _ _ _); k_dflt (refine' use_ct (c_word _ _ _ _ _ _ _ _ ?kc ?ke) ?k1 ?k2 ?k3 ?k4 ?k5 ?kK ?kS ?kd ?ku ?_; (case k1 => k_asm); (case k2 => k_asm); (case k3 => k_asm); (case k4 => k_asm); (case k5 => k_asm); (case kK => first | exact rfl | assumption); (case kS => intro p hp; rw [List.mem_singleton.mp hp]; k_mem); (case kd => ktr_room); (case ku => ktr_units); (case kc => omega); (case ke => omega); k_whole); intro r' h' tk' hK' F' N' ho'; (refine Exists.elim ho' ?_); clear ho' hK'; intro t9 e9; subst e9; (try dsimp only); (try k_sweep))
  k_with "exec Assign cons ListComp" => (k_here; (with_reducible show wpAny _ _ (exec (Stmt.Assign _ (Expr.ListComp _ [⟨Expr.Tuple _ _ _, Expr.Call _ [Expr.Name _ _, Expr.Name _ _] _ _, _, _⟩] _ _) _) _) _ _ _); with_unfolding_all refine wpAny_Assign_Name ?_)
  k_with "eval ListComp" => (k_here; (with_reducible show wpAny _ _ (eval (Expr.ListComp (Expr.BinOp _ _ _ _) [⟨Expr.Tuple _ _ _, Expr.Call _ [Expr.Name _ _, Expr.Name _ _] _ _, _, _⟩] _ _) _) _ _ _); k_dflt (refine ListComp_zip (by k_asm) (by rfl) (by decide) (by rfl) (by decide) (by rfl) (by rfl) (by decide) (by decide) (by decide) ?_))
  k_with "call type:zip" => (k_here; (with_reducible show wpAny _ _ (call (Value.type "zip") [Value.ref _, Value.ref _]) (ZipSrc _ _ _ _ _) _ _); k_dflt (refine' zip_call ?k1 ?k2 ?k3 ?k4 ?k5 ?_; (case k1 => exact rfl); (case k2 => k_asm); (case k3 => k_asm); (case k4 => k_mem); (case k5 => k_mem); k_whole); intro D' t0' t1' t2' h' tk' F' N' l1'; (try simp only [AllNe, and_true] at l1'); (try k_sweep))
  k_with "subscriptTail Name Slice str ref" => ((with_reducible show wpAny _ _ (subscriptTail _ (Expr.Slice none (some _) none _) (Value.str (Wd _ _) _) _) _ _ _); (with_reducible rename Fr _ _ _ _ => F'); (with_reducible rename News _ _ _ _ => N'); refine slice_to_K (s := ⟨_, _, _, _, _⟩) (by assumption) F' N' ?_; intro h' t' k' F' N')
  k_with "eval ListComp" => (k_here; (with_reducible show wpAny _ _ (eval (Expr.ListComp _ [⟨Expr.Name _ _, Expr.Tuple _ _ _, [_], _⟩] _ _) _) _ _ _); k_dflt (refine ListComp_Tup (by k_asm) (by with_unfolding_all rfl) (by decide) (by rfl) (by decide) (by rfl) ?_))
  k_with "SrcTup" => (k_here; k_dflt (refine SrcTup.ledger (by rfl) (by k_asm) (by k_asm) (by k_mem) (by first | exact Nat.le_of_ble_eq_true rfl | size_fits) ?_; intro g'; lct_lit))
  k_with "call ref" => (k_here; (with_reducible show wpAny _ _ (call (Value.ref 50) _) _ _ _); k_dflt (refine' use_read ?k1 ?k2 ?k3 ?k4 ?k5 ?kK ?kd ?ku ?ka ?kb ?_; (case k1 => k_asm); (case k2 => k_asm); (case k3 => k_asm); (case k4 => k_asm); (case k5 => k_asm); (case kK => first | exact rfl | assumption); (case kd => ktr_room); (case ku => ktr_units); (case ka => omega); (case kb => omega); k_whole); intro T' D' t0' t1' t2' t3' n' m' h' tk' F' N' ne' l1' l2'; (try simp only [AllNe, and_true] at l1'); (try simp only [AllNe, and_true] at l2'); (try k_sweep))
  k_with "call ref" => (k_here; (with_reducible show wpAny _ _ (call (Value.ref 21) _) _ _ _); k_dflt (refine' use_obj (c_hsv _ _ _ _ _ _ ?ka ?kb ?kc ?ke ?kf ?kg) ?k1 ?k2 ?k3 ?k4 ?k5 ?kK ?kS ?kd ?ku ?_; (case k1 => k_asm); (case k2 => k_asm); (case k3 => k_asm); (case k4 => k_asm); (case k5 => k_asm); (case kK => first | exact rfl | assumption); (case kS => intro p hp; cases hp); (case kd => ktr_room); (case ku => ktr_units); (case ka => omega); (case kb => omega); (case kc => omega); (case ke => omega); (case kf => omega); (case kg => omega); k_whole); intro D' o' h' tk' F' N' l1' ho'; (try simp only [AllNe, and_true] at l1'); (refine Exists.elim ho' ?_); clear ho'; intro st9 ho'; (refine Exists.elim ho' ?_); clear ho'; intro t91 ho'; (refine Exists.elim ho' ?_); clear ho'; intro t92 ho'; (refine Exists.elim ho' ?_); clear ho'; intro t93 ho'; (refine Exists.elim ho' ?_); clear ho'; intro n9 e9; subst e9; (try dsimp only); (try k_sweep))
  k_with "call ref" => (k_here; (with_reducible show wpAny _ _ (call (Value.ref 55) _) _ _ _); k_dflt (refine' use_less ?k1 ?k2 ?k3 ?k4 ?k5 ?kK ?ka ?kb ?kd ?ku ?kc ?_; (case k1 => k_asm); (case k2 => k_asm); (case k3 => k_asm); (case k4 => k_asm); (case k5 => k_asm); (case kK => first | exact rfl | assumption); (case ka => k_mem); (case kb => k_mem); (case kd => ktr_room); (case ku => ktr_units); (case kc => omega); k_whole); intro D' r' g' b' t0' t1' t2' n' h' tk' hl' hf' F' N' l1'; (try simp only [AllNe, and_true] at l1'); (try k_sweep))
  k_with "call ref" => (k_here; (with_reducible show wpAny _ _ (call (Value.ref 62) _) _ _ _); k_dflt (refine' use_on ?k1 ?k2 ?k3 ?k4 ?k5 ?kK ?ka ?kb ?kd ?ku ?kc ?_; (case k1 => k_asm); (case k2 => k_asm); (case k3 => k_asm); (case k4 => k_asm); (case k5 => k_asm); (case kK => first | exact rfl | assumption); (case ka => k_mem); (case kb => k_mem); (case kd => ktr_room); (case ku => ktr_units); (case kc => omega); k_whole); intro h' tk' F' N'; (try k_sweep))
  k_with "call ref" => (k_here; (with_reducible show wpAny _ _ (call (Value.ref 74) _) _ _ _); k_dflt (refine' use_way ?k1 ?k2 ?k3 ?k4 ?k5 ?kK ?ka ?kb ?kd ?ku ?kc ?ke ?kf ?kg ?kh ?_; (case k1 => k_asm); (case k2 => k_asm); (case k3 => k_asm); (case k4 => k_asm); (case k5 => k_asm); (case kK => first | exact rfl | assumption); (case ka => k_mem); (case kb => k_mem); (case kd => ktr_room); (case ku => ktr_units); (case kc => omega); (case ke => omega); (case kf => omega); (case kg => omega); (case kh => omega); k_whole); intro t' h' tk' F' N'; (try k_sweep))
  k_with "call ref" => (k_here; (with_reducible show wpAny _ _ (call (Value.ref 67) _) _ _ _); k_dflt (refine' use_third ?k1 ?k2 ?k3 ?k4 ?k5 ?kK ?ka ?kb ?kd ?ku ?_; (case k1 => k_asm); (case k2 => k_asm); (case k3 => k_asm); (case k4 => k_asm); (case k5 => k_asm); (case kK => first | exact rfl | assumption); (case ka => k_mem); (case kb => k_mem); (case kd => ktr_room); (case ku => ktr_units); k_whole); intro D' r' g' b' t0' t1' t2' n' h' tk' he' F' N' l1'; (try simp only [AllNe, and_true] at l1'); (try k_sweep))
  trivial
end Mine
namespace Mine
set_option pp.deepTerms false
set_option pp.deepTerms.threshold 10
abbrev nw3 (z : Z) : List (Addr × Obj) := [(z.n 1, listOf #[(z.c 0).v, (z.c 1).v, (z.c 2).v] (z.n 2)), (z.L + 1 + 1, z.o 0), (z.c 2).e, (z.c 1).e, (z.c 0).e]
structure LHyp3 (c : Scope) (z : Z) : Prop extends LHyp c z where
  dC : (z.o 0).data = .cell (some (.ref (z.n 1)))
  d0 : Drawn (z.c 0)
  d1 : Drawn (z.c 1)
  d2 : Drawn (z.c 2)
@[irreducible] def LawQ3 (z : Z) : Prop := LHyp3 lawS z → Fr z.h₀ z.L z.s.heap z.m → News z.h₀ z.L z.s.heap (nw3 z) →
  (∀ (S : Addr) (e0 e1 e2 : Col) (q : Nat) (h : Heap) (tk : Nat) (m : Str → Option Value), Fr z.h₀ z.L h (upS S m) → News z.h₀ z.L h ((S, listOf #[(z.c 0).v, (z.c 1).v, (z.c 2).v, e0.v, e1.v, e2.v] q) :: e2.e :: e1.e :: e0.e :: nw3 z) → Thd (z.c 0) (z.c 1) e0 → Thd (z.c 0) (z.c 2) e1 → Thd (z.c 1) (z.c 2) e2 → z.R .next { z.s with heap := h, toks := tk }) →
  runX z ((lawB.drop 3).take 2)
@[irreducible] noncomputable def law3C : Z := eps LawQ3
section
theorem words62 : True := by
  k_with "exec Assign cons ListComp" => (k_here; (with_reducible show wpAny _ _ (exec (Stmt.Assign _ (Expr.ListComp _ [⟨Expr.Name _ _, Expr.Call _ [Expr.Constant _ _ _] _ _, [], _⟩] _ _) _) _) _ _ _); lcf_look; lcg_calm; k_dflt (refine LCg.Assign_ListComp_U (F₀ := by k_asm) (by rfl) (by with_unfolding_all rfl) (by with_unfolding_all rfl) (by decide) (by rfl) (by decide) (by rfl) (by rfl) (by rfl) ?_); k_dflt lcg_toSrc)
  trivial
theorem words63 : True := by
  k_with "CompSrc" => (k_here; k_dflt (refine LCg.CompSrc.range (by rfl) (by k_asm) (by k_asm) (by assumption) (by first | decide | rfl) (by first | rfl | decide) (by first | size_fits | exact Nat.le_of_ble_eq_true rfl) ?_; intro g'; lcg_lit))
  trivial
theorem words64 : True := by
  k_with "CompEnd" => lcg_end
  trivial
theorem words65 : True := by
  k_with "call builtin:sum" => (k_here; (with_reducible show wpAny _ _ (call (Value.builtin "sum") [Value.ref _]) _ _ _); k_dflt (refine' sum_some ?k1 ?k2 ?k3 ?k5 ?_; (case k1 => k_asm); (case k2 => k_asm); (case k3 => rfl); (case k5 => exact slice_some (by assumption)); k_whole); intro z' h' tk' t' F' N')
  trivial
theorem words66 : True := by
  k_with "binaryOp Mod int int" => (k_here; (with_reducible show wpAny _ _ (binaryOp Operator.Mod (Value.int _ _) (Value.int _ _)) _ _ _); k_dflt (refine fmod_lit (by decide) ?_); intro t' k')
  trivial
theorem words67 : True := by
  k_with "binaryOp FloorDiv int int" => (k_here; (with_reducible show wpAny _ _ (binaryOp Operator.FloorDiv (Value.int _ _) (Value.int _ _)) _ _ _); k_dflt (refine' fdiv_lit (by decide) ?hp ?_; (case hp => first | exact Or.inl (PyProof.noPylong_small (by omega)) | exact Or.inr (PySem.PylongRoom.of (PySem.Heap.NoLimit.keeps (PyProof.Rows.Top.nolimit (by assumption)) (PyProof.Rows.Fr.keep (by assumption))) (of_decide_eq_true (by with_unfolding_all rfl)))); k_whole); intro t' k')
  trivial
theorem words68 : True := by
  k_with "UnrEnd" => ((with_reducible show UnrEnd _ _ _ _ _ _ _); (with_reducible rename Fr _ _ _ _ => F'); (with_reducible rename News _ _ _ _ => N'); refine unr_drop3 F' N' (by simp only [AllNe, and_true]; omega) ⟨by k_mem, ?_⟩)
  trivial
theorem words69 : True := by
  k_with "call ref" => (k_here; (with_reducible show wpAny _ _ (call (Value.ref 62) _) _ _ _); k_dflt (refine' use_on_t ?k1 ?k2 ?k3 ?k4 ?k5 ?kK ?ka ?kb ?kd ?ku ?kc ?kt ?_; (case k1 => k_asm); (case k2 => k_asm); (case k3 => k_asm); (case k4 => k_asm); (case k5 => k_asm); (case kK => first | exact rfl | assumption); (case ka => k_mem); (case kb => k_mem); (case kd => ktr_room); (case ku => ktr_units); (case kt => first | exact third_on1 (by assumption) (by assumption) (by assumption) | exact third_on2 (by assumption) (by assumption) (by assumption)); (case kc => first | exact third_bd1 (by assumption) (by assumption) (by assumption) | exact third_bd2 (by assumption) (by assumption) (by assumption)); k_whole); intro h' tk' F' N'; (try k_sweep))
  trivial
theorem words70 : True := by
  k_with "call ref" => (k_here; (with_reducible show wpAny _ _ (call (Value.ref 74) _) _ _ _); k_dflt (refine' use_way_h ?k1 ?k2 ?k3 ?k4 ?k5 ?kK ?ka ?kb ?kd ?ku ?kc ?ke ?kf ?kg ?kh ?_; (case k1 => k_asm); (case k2 => k_asm); (case k3 => k_asm); (case k4 => k_asm); (case k5 => k_asm); (case kK => first | exact rfl | assumption); (case ka => k_mem); (case kb => k_mem); (case kd => ktr_room); (case ku => ktr_units); (case kc => first | exact bd_bd (by assumption) (by assumption) | exact third_bd1 (by assumption) (by assumption) (by assumption) | exact third_bd3 (by assumption) (by assumption) (by assumption)); (case ke => first | exact bd_w1 (by assumption) | exact third_w1 (by assumption) (by assumption) (by assumption)); (case kf => first | exact bd_w2 (by assumption) | exact third_w2 (by assumption) (by assumption) (by assumption)); (case kg => first | exact bd_w1 (by assumption) | exact third_w1 (by assumption) (by assumption) (by assumption)); (case kh => first | exact bd_w2 (by assumption) | exact third_w2 (by assumption) (by assumption) (by assumption)); k_whole); intro v' t' h' tk' hv' hp' F' N'; (try k_sweep))
  trivial
theorem words71 : True := by
  k_with "call ref" => (k_here; (with_reducible show wpAny _ _ (call (Value.ref 67) _) _ _ _); k_dflt (refine' use_third_t ?k1 ?k2 ?k3 ?k4 ?k5 ?kK ?ka ?kb ?kd ?ku ?_; (case k1 => k_asm); (case k2 => k_asm); (case k3 => k_asm); (case k4 => k_asm); (case k5 => k_asm); (case kK => first | exact rfl | assumption); (case ka => k_mem); (case kb => k_mem); (case kd => ktr_room); (case ku => ktr_units); k_whole); intro D' r' g' b' t0' t1' t2' n' h' tk' he' F' N' l1'; (try simp only [AllNe, and_true] at l1'); (repeat (obtain ⟨_, l1'⟩ := l1')); (try k_sweep))
  trivial
local macro_rules | `(tactic| k_lt $h:ident) => `(tactic| (replace $h := allLt_of $h; simp only [AllLt, and_true] at $h:ident; repeat (obtain ⟨_, $h:ident⟩ := $h:ident)))
local macro_rules | `(tactic| k_ne) => `(tactic| (refine neN ?_; (try dsimp only); first | with_reducible assumption | exact Ne.symm (by with_reducible assumption) | exact Nat.ne_of_lt (by with_reducible assumption) | exact Nat.ne_of_gt (by with_reducible assumption) | omega))
theorem words72 : True := by
  k_with "UnrEndW" => ((with_reducible show UnrEndW _ _ _ _ _ _); (with_reducible rename Fr _ _ _ _ => F'); (with_reducible rename News _ _ _ _ => N'); (try ((with_reducible rename (_ = _ ∨ _ = _ ∨ _ = _) => h9'); clear h9')); refine unr_dropW F' N' (by (simp only [AllNe, and_true]); (repeat' (refine And.intro ?_ ?_)); all_goals k_ne) ⟨by k_subL, ?_⟩)
  trivial
theorem words73 : True := by
  k_with "exec Assign cons ListComp" => ((with_reducible show wpAny _ _ (exec (Stmt.Assign _ (Expr.ListComp _ [⟨Expr.Tuple _ _ _, _, _, _⟩] _ _) _) _) _ _ _); refine hold_in ?_)
  trivial
theorem words74 : True := by
  k_with "exec Assign cons ListComp" => ((with_reducible show wpAny _ _ (exec (Stmt.Assign _ (Expr.ListComp _ [⟨Expr.Name _ _, Expr.Name _ _, [_], _⟩] _ _) _) _) _ _ _); refine hold_in ?_)
  trivial
theorem words75 : True := by
  k_with "call ref" => (k_here; (with_reducible show wpAny _ _ (call (Value.ref 62) _) (fun _ _ => wpAny _ _ (truthy _) _ _ _) _ _); k_dflt (refine' use_on_k ?k1 ?k2 ?k3 ?k4 ?k5 ?kK ?ka ?kb ?kd ?ku ?kc ?_; (case k1 => k_asm); (case k2 => k_asm); (case k3 => k_asm); (case k4 => k_asm); (case k5 => k_asm); (case kK => first | exact rfl | assumption); (case ka => k_mem); (case kb => k_mem); (case kd => ktr_room); (case ku => ktr_units); (case kc => assumption); k_whole); intro h' tk' hKK'; refine hold_in ?_)
  trivial
theorem words76 : True := by
  k_with "compareOp NotEq ref ref" => (k_here; (with_reducible show wpAny _ _ (compareOp CmpOp.NotEq (Value.ref _) (Value.ref _)) _ _ _); k_dflt (refine' ne_nilN ?k1 ?k2 ?k3 ?k4 ?k5 ?k6 ?_; (case k1 => k_asm); (case k2 => k_mem); (case k3 => assumption); (case k4 => assumption); (case k5 => k_mem); (case k6 => ktr_units); k_whole))
  trivial
theorem words77 : True := by
  k_with "pyIter ref" => ((with_reducible show wpAny _ _ (pyIter (Value.ref _)) (fun it s₂ => LoopAtV _ _ _ _ _ _ _ _ _ it s₂) _ _); refine hold_in ?_)
  trivial
local macro_rules | `(tactic| k_all) => `(tactic| with_reducible assumption)
theorem words78 : True := by
  k_with "subscriptTail Name UnaryOp ref int" => (k_here; (with_reducible show wpAny _ _ (subscriptTail _ _ (Value.ref _) (Value.int _ _)) _ _ _); (with_unfolding_all refine' item_lastK ?k1 ?k2 ?k3 ?_ ?k6; (case k1 => k_asm); (case k2 => k_mem); (case k3 => decide); (case k6 => with_unfolding_all rfl); k_whole))
  trivial
theorem words79 : True := by
  k_with "pyIter ref" => ((with_reducible show wpAny _ _ (pyIter (Value.ref _)) (fun it s₂ => TurnsAt _ _ _ _ _ _ _ _ _ it s₂) _ _); refine hold_in ?_)
  trivial
local macro_rules | `(tactic| k_mem) => `(tactic| with_reducible_and_instances assumption)
theorem words80 : True := by
  k_with "call ref" => (k_here; (with_reducible show wpAny _ _ (call (Value.ref 62) _) _ _ _); k_dflt (first | (refine' use_on_c1 ?k1 ?k2 ?k3 ?k4 ?k5 ?kK ?ka ?kb ?kz ?ky ?kt ?kd ?ku ?_; (case kt => with_reducible assumption); (case kz => with_reducible assumption); (case ky => with_reducible assumption); (case k1 => k_asm); (case k2 => k_asm); (case k3 => k_asm); (case k4 => k_asm); (case k5 => k_asm); (case kK => first | exact rfl | assumption); (case ka => k_mem); (case kb => k_mem); (case kd => ktr_room); (case ku => ktr_units); k_whole) | (refine' use_on_c2 ?k1 ?k2 ?k3 ?k4 ?k5 ?kK ?ka ?kb ?kz ?ky ?kt ?kd ?ku ?_; (case kt => with_reducible assumption); (case kz => with_reducible assumption); (case ky => with_reducible assumption); (case k1 => k_asm); (case k2 => k_asm); (case k3 => k_asm); (case k4 => k_asm); (case k5 => k_asm); (case kK => first | exact rfl | assumption); (case ka => k_mem); (case kb => k_mem); (case kd => ktr_room); (case ku => ktr_units); k_whole)); intro h' tk' F' N'; (try k_sweep))
  trivial
theorem words81 : True := by
  k_with "call ref" => (k_here; (with_reducible show wpAny _ _ (call (Value.ref 74) _) _ _ _); k_dflt (first | (refine' use_way_c1 ?k1 ?k2 ?k3 ?k4 ?k5 ?kK ?ka ?kb ?kz ?ky ?kt ?kd ?ku ?_; (case kt => with_reducible assumption); (case kz => with_reducible assumption); (case ky => with_reducible assumption); (case k1 => k_asm); (case k2 => k_asm); (case k3 => k_asm); (case k4 => k_asm); (case k5 => k_asm); (case kK => first | exact rfl | assumption); (case ka => k_mem); (case kb => k_mem); (case kd => ktr_room); (case ku => ktr_units); k_whole) | (refine' use_way_c2 ?k1 ?k2 ?k3 ?k4 ?k5 ?kK ?ka ?kb ?kz ?ky ?kt ?kd ?ku ?_; (case kt => with_reducible assumption); (case kz => with_reducible assumption); (case ky => with_reducible assumption); (case k1 => k_asm); (case k2 => k_asm); (case k3 => k_asm); (case k4 => k_asm); (case k5 => k_asm); (case kK => first | exact rfl | assumption); (case ka => k_mem); (case kb => k_mem); (case kd => ktr_room); (case ku => ktr_units); k_whole) | (refine' use_way_c3 ?k1 ?k2 ?k3 ?k4 ?k5 ?kK ?ka ?kb ?kz ?ky ?kd ?ku ?_; (case kz => with_reducible assumption); (case ky => with_reducible assumption); (case k1 => k_asm); (case k2 => k_asm); (case k3 => k_asm); (case k4 => k_asm); (case k5 => k_asm); (case kK => first | exact rfl | assumption); (case ka => k_mem); (case kb => k_mem); (case kd => ktr_room); (case ku => ktr_units); k_whole)); intro v' t' h' tk' hv' hp' F' N'; (try k_sweep))
  trivial
theorem words82 : True := by
  k_with "call ref" => (k_here; (with_reducible show wpAny _ _ (call (Value.ref 67) _) _ _ _); k_dflt (refine' use_third_c ?k1 ?k2 ?k3 ?k4 ?k5 ?kK ?ka ?kb ?kz ?ky ?kd ?ku ?_; (case k1 => k_asm); (case k2 => k_asm); (case k3 => k_asm); (case k4 => k_asm); (case k5 => k_asm); (case kK => first | exact rfl | assumption); (case kz => with_reducible assumption); (case ky => with_reducible assumption); (case ka => k_mem); (case kb => k_mem); (case kd => ktr_room); (case ku => ktr_units); k_whole); intro e' h' tk' he' F' N' l1'; (try simp only [AllNe, and_true] at l1'); (repeat (obtain ⟨_, l1'⟩ := l1')); (try k_sweep))
  trivial
set_option maxHeartbeats 20000000 in
theorem law3_walk : LawQ3 law3C := by
  unfold LawQ3 runX
  intro H F1 N1 hret
  obtain ⟨⟨hPE, B0, X0, T0⟩, hoD, z0, z1, z2⟩ := H
  dsimp only [nw3] at N1
  revert X0; show _ → wpAny (model PySem.Challenge.rw_rl0069_01.row.prog _) _ _ _ _ _; k_fill; intro X0
  show wpAny _ _ (execs (_ :: _ :: []) _) _ _ _
  k_fold
  repeat' (first | (k_unfold; (try dsimp only)) | walk1 | (dsimp only; walk1) | (leave1; (try dsimp only)) | fail "no step")
  unfold Hold
  (rename Fr _ _ _ _ => F3); (rename News _ _ _ _ => N3)
  have hq := seg3_in N3 (by with_reducible assumption) (by with_reducible assumption) (by with_reducible assumption) (by with_reducible assumption) (by with_reducible assumption) (by with_reducible assumption) (by with_reducible assumption) (by with_reducible assumption) (by with_reducible assumption)
  obtain ⟨N4, hkS⟩ := hq
  refine iter_listTurns (lo := _) (vs := [.ref _, .ref _, .ref _]) rfl F3 N4 (List.Mem.tail _ (List.Mem.head _)) rfl rfl fun I hI => ?_
  have hIS := hI _ (List.Mem.head _)
  obtain ⟨J, hJ⟩ := seg3_J N4 I [.ref _, .ref _, .ref _] [(law3C.c 0, law3C.c 1), (law3C.c 0, law3C.c 2), (law3C.c 1, law3C.c 2)]
  refine itemsRest_inv J (fun hj => Seg3.mem (List.Mem.head _) hJ hj) ?_ ?_ (Seg3.start hJ hkS (fun p hp => Nat.ne_of_lt (hI p (List.Mem.tail _ hp))))
  · intro v r m nw it h tk hj F5 N5
    obtain ⟨c, d, T, its, k, kk, m', hr, rfl, rfl, rfl, hlen, hT, hc, hd, zc, zd, hk1, hk2⟩ := Seg3.open hJ (its_of z0 z1 z2) rfl rfl hj
    clear F3 N3 N4 hI hj hJ hkS hret z0 z1 z2
    try k_fold
    repeat' (first | (k_unfold; (try dsimp only)) | walk1 | (dsimp only; walk1) | (leave1; (try dsimp only)) | fail "no step")
    · exact way_sum_c (by with_reducible assumption) (by with_reducible assumption) (by with_reducible assumption) (by with_reducible assumption) zc zd (by with_reducible assumption)
    · (rename Fr _ _ _ _ => F9); (rename News _ _ _ _ => N9)
      exact seg3_end F9 rfl N9 (by with_reducible assumption) (by with_reducible assumption) (by with_reducible assumption) hIS hk2 hr
  · intro m nw h tk hj F5 N5
    obtain ⟨e0, e1, e2, q, m', rfl, rfl, w0, w1, w2⟩ := Seg3.done hJ hj
    clear F3 N3 N4 hI hj hJ hkS
    try k_fold
    repeat' (first | (k_unfold; (try dsimp only)) | walk1 | (dsimp only; walk1) | (leave1; (try dsimp only)) | fail "no step")
    (rename Fr _ _ _ _ => F9); (rename News _ _ _ _ => N9)
    exact hret _ e0 e1 e2 q _ _ _ F9 (seg3_news N9) w0 w1 w2
end
theorem words83 : True := by
  k_with_none
  k_with "call builtin:max" => (k_here; (with_reducible show wpAny _ _ (call (Value.builtin "max") [Value.int _ _, Value.int _ _, Value.int _ _]) _ _ _); k_dflt (refine' max3_K ?k1 ?k2 ?k3 ?_; (case k1 => k_asm); (case k2 => k_asm); (case k3 => exact rfl); k_whole); intro h' tk' t' F' N'; (try k_sweep))
  k_with "call builtin:min" => (k_here; (with_reducible show wpAny _ _ (call (Value.builtin "min") [Value.int _ _, Value.int _ _, Value.int _ _]) _ _ _); k_dflt (refine' min3_K ?k1 ?k2 ?k3 ?_; (case k1 => k_asm); (case k2 => k_asm); (case k3 => exact rfl); k_whole); intro h' tk' t' F' N'; (try k_sweep))
  k_with "exec While BoolOp cons nil" => ((with_reducible show wpAny _ _ (exec (Stmt.While _ _ _ _) _) _ _ _); refine hold_in ?_)
  k_with "exec While Compare cons nil" => ((with_reducible show wpAny _ _ (exec (Stmt.While _ _ _ _) _) _ _ _); refine hold_in ?_)
  k_with "subscriptTail Name Slice str ref" => ((with_reducible show wpAny _ _ (subscriptTail _ (Expr.Slice none (some (Expr.BoolOp _ _ _)) none _) _ _) _ _ _); (with_reducible rename Fr _ _ _ _ => F'); (with_reducible rename News _ _ _ _ => N'); refine slice_none_K (s := ⟨_, _, _, _, _⟩) F' N' ?_; intro _ _ _ _ _)
  k_with "eval Subscript" => (k_here; (with_reducible show wpAny _ _ (eval (Expr.Subscript (Expr.Name _ _) (Expr.Slice none (some (Expr.BoolOp _ _ _)) none _) _) _) _ _ _); k_dflt (refine' cutEnd ?k1 ?k2 ?k3 ?k4 ?k5 ?k6 ?k7 ?_; (case k1 => k_asm); (case k2 => k_asm); (case k3 => exact rfl); (case k4 => exact rfl); (case k5 => omega); (case k6 => omega); (case k7 => omega); k_whole); intro h' t' k' F' N'; (try k_sweep))
  k_with "execs cons" => (k_here; (with_reducible refine any_toks ?_); intro tk'; (with_reducible refine wpAny_execs_cons ?_); (try dsimp only))
  k_with "execs nil" => (k_here; (with_reducible refine any_toks ?_); intro tk'; (with_reducible refine wpAny_execs_nil ?_); (try dsimp only))
  k_with "call ref" => (k_here; (with_reducible show wpAny _ _ (call (Value.ref 31) _) _ _ _); k_dflt (refine' use_ct (c_subst _ _ _ _ ?kc) ?k1 ?k2 ?k3 ?k4 ?k5 ?kK ?kS ?kd ?ku ?_; (case kc => assumption); (case k1 => k_asm); (case k2 => k_asm); (case k3 => k_asm); (case k4 => k_asm); (case k5 => k_asm); (case kK => first | exact rfl | assumption); (case kS => intro p hp; cases hp); (case kd => ktr_room); (case ku => ktr_units); k_whole); intro r' h' tk' hK' F' N' ho'; (refine Exists.elim ho' ?_); clear ho' hK'; intro t9 e9; subst e9; (try dsimp only); (try k_sweep))
  k_with "binaryOp Mult str int" => (k_here; (with_reducible show wpAny _ _ (binaryOp Operator.Mult (Value.str _ _) (Value.int _ _)) _ _ _); (first | refine mul_lt (by first | omega | (dsimp only [List.getD_cons_zero, List.getD_cons_succ, Int.toNat]; omega)) (by omega) ?_ | refine mul_gt (by omega) (by omega) ?_); intro t' n')
  k_with "binaryOp Add str str" => (k_here; (with_reducible show wpAny _ _ (binaryOp Operator.Add (Value.str (Wd _ _) _) (Value.str (Wd _ _) _)) _ _ _); (refine add_wd (by omega) (by omega) ?_); intro t' n')
  k_with "subscriptTail Name Constant ref int" => (k_here; (with_reducible show wpAny _ _ (subscriptTail _ (Expr.Constant _ _ _) (Value.ref _) (Value.int _ _)) _ _ _); k_dflt (first | ((with_reducible show wpAny _ _ (subscriptTail _ _ (Value.ref _) (Value.int 0 _)) _ _ _); refine' sub3_0 ?k1 ?k2 ?_ ?k7; (case k1 => k_asm); (case k2 => k_mem); (case k7 => with_unfolding_all rfl); k_whole) | ((with_reducible show wpAny _ _ (subscriptTail _ _ (Value.ref _) (Value.int 1 _)) _ _ _); refine' sub3_1 ?k1 ?k2 ?_ ?k7; (case k1 => k_asm); (case k2 => k_mem); (case k7 => with_unfolding_all rfl); k_whole) | ((with_reducible show wpAny _ _ (subscriptTail _ _ (Value.ref _) (Value.int 2 _)) _ _ _); refine' sub3_2 ?k1 ?k2 ?_ ?k7; (case k1 => k_asm); (case k2 => k_mem); (case k7 => with_unfolding_all rfl); k_whole)))
  k_with "call ref" => (k_here; (with_reducible show wpAny _ _ (call (Value.ref 45) _) _ _ _); k_dflt (refine' use_ct (c_word _ _ _ _ _ _ _ _ ?kc ?ke) ?k1 ?k2 ?k3 ?k4 ?k5 ?kK ?kS ?kd ?ku ?_; (case k1 => k_asm); (case k2 => k_asm); (case k3 => k_asm); (case k4 => k_asm); (case k5 => k_asm); (case kK => first | exact rfl | assumption); (case kS => intro p hp; rw [List.mem_singleton.mp hp]; k_mem); (case kd => ktr_room); (case ku => ktr_units); (case kc => omega); (case ke => omega); k_whole); intro r' h' tk' hK' F' N' ho'; (refine Exists.elim ho' ?_); clear ho' hK'; intro t9 e9; subst e9; (try dsimp only); (try k_sweep))
  k_with "exec Assign cons ListComp" => (k_here; (with_reducible show wpAny _ _ (exec (Stmt.Assign _ (Expr.ListComp _ [⟨Expr.Tuple _ _ _, Expr.Call _ [Expr.Name _ _, Expr.Name _ _] _ _, _, _⟩] _ _) _) _) _ _ _); with_unfolding_all refine wpAny_Assign_Name ?_)
  k_with "eval ListComp" => (k_here; (with_reducible show wpAny _ _ (eval (Expr.ListComp (Expr.BinOp _ _ _ _) [⟨Expr.Tuple _ _ _, Expr.Call _ [Expr.Name _ _, Expr.Name _ _] _ _, _, _⟩] _ _) _) _ _ _); k_dflt (refine ListComp_zip (by k_asm) (by rfl) (by decide) (by rfl) (by decide) (by rfl) (by rfl) (by decide) (by decide) (by decide) ?_))
  k_with "call type:zip" => (k_here; (with_reducible show wpAny _ _ (call (Value.type "zip") [Value.ref _, Value.ref _]) (ZipSrc _ _ _ _ _) _ _); k_dflt (refine' zip_call ?k1 ?k2 ?k3 ?k4 ?k5 ?_; (case k1 => exact rfl); (case k2 => k_asm); (case k3 => k_asm); (case k4 => k_mem); (case k5 => k_mem); k_whole); intro D' t0' t1' t2' h' tk' F' N' l1'; (try simp only [AllNe, and_true] at l1'); (try k_sweep))
  k_with "subscriptTail Name Slice str ref" => ((with_reducible show wpAny _ _ (subscriptTail _ (Expr.Slice none (some _) none _) (Value.str (Wd _ _) _) _) _ _ _); (with_reducible rename Fr _ _ _ _ => F'); (with_reducible rename News _ _ _ _ => N'); refine slice_to_K (s := ⟨_, _, _, _, _⟩) (by assumption) F' N' ?_; intro h' t' k' F' N')
  k_with "eval ListComp" => (k_here; (with_reducible show wpAny _ _ (eval (Expr.ListComp _ [⟨Expr.Name _ _, Expr.Tuple _ _ _, [_], _⟩] _ _) _) _ _ _); k_dflt (refine ListComp_Tup (by k_asm) (by with_unfolding_all rfl) (by decide) (by rfl) (by decide) (by rfl) ?_))
  k_with "SrcTup" => (k_here; k_dflt (refine SrcTup.ledger (by rfl) (by k_asm) (by k_asm) (by k_mem) (by first | exact Nat.le_of_ble_eq_true rfl | size_fits) ?_; intro g'; lct_lit))
  k_with "call ref" => (k_here; (with_reducible show wpAny _ _ (call (Value.ref 50) _) _ _ _); k_dflt (refine' use_read ?k1 ?k2 ?k3 ?k4 ?k5 ?kK ?kd ?ku ?ka ?kb ?_; (case k1 => k_asm); (case k2 => k_asm); (case k3 => k_asm); (case k4 => k_asm); (case k5 => k_asm); (case kK => first | exact rfl | assumption); (case kd => ktr_room); (case ku => ktr_units); (case ka => omega); (case kb => omega); k_whole); intro T' D' t0' t1' t2' t3' n' m' h' tk' F' N' ne' l1' l2'; (try simp only [AllNe, and_true] at l1'); (try simp only [AllNe, and_true] at l2'); (try k_sweep))
  k_with "call ref" => (k_here; (with_reducible show wpAny _ _ (call (Value.ref 21) _) _ _ _); k_dflt (refine' use_obj (c_hsv _ _ _ _ _ _ ?ka ?kb ?kc ?ke ?kf ?kg) ?k1 ?k2 ?k3 ?k4 ?k5 ?kK ?kS ?kd ?ku ?_; (case k1 => k_asm); (case k2 => k_asm); (case k3 => k_asm); (case k4 => k_asm); (case k5 => k_asm); (case kK => first | exact rfl | assumption); (case kS => intro p hp; cases hp); (case kd => ktr_room); (case ku => ktr_units); (case ka => omega); (case kb => omega); (case kc => omega); (case ke => omega); (case kf => omega); (case kg => omega); k_whole); intro D' o' h' tk' F' N' l1' ho'; (try simp only [AllNe, and_true] at l1'); (refine Exists.elim ho' ?_); clear ho'; intro st9 ho'; (refine Exists.elim ho' ?_); clear ho'; intro t91 ho'; (refine Exists.elim ho' ?_); clear ho'; intro t92 ho'; (refine Exists.elim ho' ?_); clear ho'; intro t93 ho'; (refine Exists.elim ho' ?_); clear ho'; intro n9 e9; subst e9; (try dsimp only); (try k_sweep))
  k_with "call ref" => (k_here; (with_reducible show wpAny _ _ (call (Value.ref 55) _) _ _ _); k_dflt (refine' use_less ?k1 ?k2 ?k3 ?k4 ?k5 ?kK ?ka ?kb ?kd ?ku ?kc ?_; (case k1 => k_asm); (case k2 => k_asm); (case k3 => k_asm); (case k4 => k_asm); (case k5 => k_asm); (case kK => first | exact rfl | assumption); (case ka => k_mem); (case kb => k_mem); (case kd => ktr_room); (case ku => ktr_units); (case kc => omega); k_whole); intro D' r' g' b' t0' t1' t2' n' h' tk' hl' hf' F' N' l1'; (try simp only [AllNe, and_true] at l1'); (try k_sweep))
  k_with "call ref" => (k_here; (with_reducible show wpAny _ _ (call (Value.ref 62) _) _ _ _); k_dflt (refine' use_on ?k1 ?k2 ?k3 ?k4 ?k5 ?kK ?ka ?kb ?kd ?ku ?kc ?_; (case k1 => k_asm); (case k2 => k_asm); (case k3 => k_asm); (case k4 => k_asm); (case k5 => k_asm); (case kK => first | exact rfl | assumption); (case ka => k_mem); (case kb => k_mem); (case kd => ktr_room); (case ku => ktr_units); (case kc => omega); k_whole); intro h' tk' F' N'; (try k_sweep))
  k_with "call ref" => (k_here; (with_reducible show wpAny _ _ (call (Value.ref 74) _) _ _ _); k_dflt (refine' use_way ?k1 ?k2 ?k3 ?k4 ?k5 ?kK ?ka ?kb ?kd ?ku ?kc ?ke ?kf ?kg ?kh ?_; (case k1 => k_asm); (case k2 => k_asm); (case k3 => k_asm); (case k4 => k_asm); (case k5 => k_asm); (case kK => first | exact rfl | assumption); (case ka => k_mem); (case kb => k_mem); (case kd => ktr_room); (case ku => ktr_units); (case kc => omega); (case ke => omega); (case kf => omega); (case kg => omega); (case kh => omega); k_whole); intro t' h' tk' F' N'; (try k_sweep))
  k_with "call ref" => (k_here; (with_reducible show wpAny _ _ (call (Value.ref 67) _) _ _ _); k_dflt (refine' use_third ?k1 ?k2 ?k3 ?k4 ?k5 ?kK ?ka ?kb ?kd ?ku ?_; (case k1 => k_asm); (case k2 => k_asm); (case k3 => k_asm); (case k4 => k_asm); (case k5 => k_asm); (case kK => first | exact rfl | assumption); (case ka => k_mem); (case kb => k_mem); (case kd => ktr_room); (case ku => ktr_units); k_whole); intro D' r' g' b' t0' t1' t2' n' h' tk' he' F' N' l1'; (try simp only [AllNe, and_true] at l1'); (try k_sweep))
  trivial
end Mine
namespace Mine
set_option pp.deepTerms false
set_option pp.deepTerms.threshold 10
structure LHyp4 (c : Scope) (z : Z) : Prop extends LHyp3 c z where
  t0 : Thd (z.c 0) (z.c 1) (z.c 3)
  t1 : Thd (z.c 0) (z.c 2) (z.c 4)
  t2 : Thd (z.c 1) (z.c 2) (z.c 5)
  hret : ∀ h tk m, Fr z.h₀ z.L h m → z.R (.ret (.bool true)) { z.s with heap := h, toks := tk }
abbrev nw4 (z : Z) : List (Addr × Obj) := (z.n 3, listOf #[(z.c 0).v, (z.c 1).v, (z.c 2).v, (z.c 3).v, (z.c 4).v, (z.c 5).v] (z.n 4)) :: (z.c 5).e :: (z.c 4).e :: (z.c 3).e :: nw3 z
@[irreducible] def LawQ4 (z : Z) : Prop := LHyp4 lawS z → Fr z.h₀ z.L z.s.heap (upS (z.n 3) z.m) → News z.h₀ z.L z.s.heap (nw4 z) → runX z (lawB.drop 5)
@[irreducible] noncomputable def law4C : Z := eps LawQ4
section
theorem words84 : True := by
  k_with "exec Assign cons ListComp" => (k_here; (with_reducible show wpAny _ _ (exec (Stmt.Assign _ (Expr.ListComp _ [⟨Expr.Name _ _, Expr.Call _ [Expr.Constant _ _ _] _ _, [], _⟩] _ _) _) _) _ _ _); lcf_look; lcg_calm; k_dflt (refine LCg.Assign_ListComp_U (F₀ := by k_asm) (by rfl) (by with_unfolding_all rfl) (by with_unfolding_all rfl) (by decide) (by rfl) (by decide) (by rfl) (by rfl) (by rfl) ?_); k_dflt lcg_toSrc)
  trivial
theorem words85 : True := by
  k_with "CompSrc" => (k_here; k_dflt (refine LCg.CompSrc.range (by rfl) (by k_asm) (by k_asm) (by assumption) (by first | decide | rfl) (by first | rfl | decide) (by first | size_fits | exact Nat.le_of_ble_eq_true rfl) ?_; intro g'; lcg_lit))
  trivial
theorem words86 : True := by
  k_with "CompEnd" => lcg_end
  trivial
theorem words87 : True := by
  k_with "call builtin:sum" => (k_here; (with_reducible show wpAny _ _ (call (Value.builtin "sum") [Value.ref _]) _ _ _); k_dflt (refine' sum_some ?k1 ?k2 ?k3 ?k5 ?_; (case k1 => k_asm); (case k2 => k_asm); (case k3 => rfl); (case k5 => exact slice_some (by assumption)); k_whole); intro z' h' tk' t' F' N')
  trivial
theorem words88 : True := by
  k_with "binaryOp Mod int int" => (k_here; (with_reducible show wpAny _ _ (binaryOp Operator.Mod (Value.int _ _) (Value.int _ _)) _ _ _); k_dflt (refine fmod_lit (by decide) ?_); intro t' k')
  trivial
theorem words89 : True := by
  k_with "binaryOp FloorDiv int int" => (k_here; (with_reducible show wpAny _ _ (binaryOp Operator.FloorDiv (Value.int _ _) (Value.int _ _)) _ _ _); k_dflt (refine' fdiv_lit (by decide) ?hp ?_; (case hp => first | exact Or.inl (PyProof.noPylong_small (by omega)) | exact Or.inr (PySem.PylongRoom.of (PySem.Heap.NoLimit.keeps (PyProof.Rows.Top.nolimit (by assumption)) (PyProof.Rows.Fr.keep (by assumption))) (of_decide_eq_true (by with_unfolding_all rfl)))); k_whole); intro t' k')
  trivial
theorem words90 : True := by
  k_with "UnrEnd" => ((with_reducible show UnrEnd _ _ _ _ _ _ _); (with_reducible rename Fr _ _ _ _ => F'); (with_reducible rename News _ _ _ _ => N'); refine unr_drop3 F' N' (by simp only [AllNe, and_true]; omega) ⟨by k_mem, ?_⟩)
  trivial
theorem words91 : True := by
  k_with "call ref" => (k_here; (with_reducible show wpAny _ _ (call (Value.ref 62) _) _ _ _); k_dflt (refine' use_on_t ?k1 ?k2 ?k3 ?k4 ?k5 ?kK ?ka ?kb ?kd ?ku ?kc ?kt ?_; (case k1 => k_asm); (case k2 => k_asm); (case k3 => k_asm); (case k4 => k_asm); (case k5 => k_asm); (case kK => first | exact rfl | assumption); (case ka => k_mem); (case kb => k_mem); (case kd => ktr_room); (case ku => ktr_units); (case kt => first | exact third_on1 (by assumption) (by assumption) (by assumption) | exact third_on2 (by assumption) (by assumption) (by assumption)); (case kc => first | exact third_bd1 (by assumption) (by assumption) (by assumption) | exact third_bd2 (by assumption) (by assumption) (by assumption)); k_whole); intro h' tk' F' N'; (try k_sweep))
  trivial
theorem words92 : True := by
  k_with "call ref" => (k_here; (with_reducible show wpAny _ _ (call (Value.ref 74) _) _ _ _); k_dflt (refine' use_way_h ?k1 ?k2 ?k3 ?k4 ?k5 ?kK ?ka ?kb ?kd ?ku ?kc ?ke ?kf ?kg ?kh ?_; (case k1 => k_asm); (case k2 => k_asm); (case k3 => k_asm); (case k4 => k_asm); (case k5 => k_asm); (case kK => first | exact rfl | assumption); (case ka => k_mem); (case kb => k_mem); (case kd => ktr_room); (case ku => ktr_units); (case kc => first | exact bd_bd (by assumption) (by assumption) | exact third_bd1 (by assumption) (by assumption) (by assumption) | exact third_bd3 (by assumption) (by assumption) (by assumption)); (case ke => first | exact bd_w1 (by assumption) | exact third_w1 (by assumption) (by assumption) (by assumption)); (case kf => first | exact bd_w2 (by assumption) | exact third_w2 (by assumption) (by assumption) (by assumption)); (case kg => first | exact bd_w1 (by assumption) | exact third_w1 (by assumption) (by assumption) (by assumption)); (case kh => first | exact bd_w2 (by assumption) | exact third_w2 (by assumption) (by assumption) (by assumption)); k_whole); intro v' t' h' tk' hv' hp' F' N'; (try k_sweep))
  trivial
theorem words93 : True := by
  k_with "call ref" => (k_here; (with_reducible show wpAny _ _ (call (Value.ref 67) _) _ _ _); k_dflt (refine' use_third_t ?k1 ?k2 ?k3 ?k4 ?k5 ?kK ?ka ?kb ?kd ?ku ?_; (case k1 => k_asm); (case k2 => k_asm); (case k3 => k_asm); (case k4 => k_asm); (case k5 => k_asm); (case kK => first | exact rfl | assumption); (case ka => k_mem); (case kb => k_mem); (case kd => ktr_room); (case ku => ktr_units); k_whole); intro D' r' g' b' t0' t1' t2' n' h' tk' he' F' N' l1'; (try simp only [AllNe, and_true] at l1'); (repeat (obtain ⟨_, l1'⟩ := l1')); (try k_sweep))
  trivial
local macro_rules | `(tactic| k_lt $h:ident) => `(tactic| (replace $h := allLt_of $h; simp only [AllLt, and_true] at $h:ident; repeat (obtain ⟨_, $h:ident⟩ := $h:ident)))
local macro_rules | `(tactic| k_ne) => `(tactic| (refine neN ?_; (try dsimp only); first | with_reducible assumption | exact Ne.symm (by with_reducible assumption) | exact Nat.ne_of_lt (by with_reducible assumption) | exact Nat.ne_of_gt (by with_reducible assumption) | omega))
theorem words94 : True := by
  k_with "UnrEndW" => ((with_reducible show UnrEndW _ _ _ _ _ _); (with_reducible rename Fr _ _ _ _ => F'); (with_reducible rename News _ _ _ _ => N'); (try ((with_reducible rename (_ = _ ∨ _ = _ ∨ _ = _) => h9'); clear h9')); refine unr_dropW F' N' (by (simp only [AllNe, and_true]); (repeat' (refine And.intro ?_ ?_)); all_goals k_ne) ⟨by k_subL, ?_⟩)
  trivial
theorem words95 : True := by
  k_with "exec Assign cons ListComp" => ((with_reducible show wpAny _ _ (exec (Stmt.Assign _ (Expr.ListComp _ [⟨Expr.Tuple _ _ _, _, _, _⟩] _ _) _) _) _ _ _); refine hold_in ?_)
  trivial
theorem words96 : True := by
  k_with "exec Assign cons ListComp" => ((with_reducible show wpAny _ _ (exec (Stmt.Assign _ (Expr.ListComp _ [⟨Expr.Name _ _, Expr.Name _ _, [_], _⟩] _ _) _) _) _ _ _); refine hold_in ?_)
  trivial
theorem words97 : True := by
  k_with "call ref" => (k_here; (with_reducible show wpAny _ _ (call (Value.ref 62) _) (fun _ _ => wpAny _ _ (truthy _) _ _ _) _ _); k_dflt (refine' use_on_k ?k1 ?k2 ?k3 ?k4 ?k5 ?kK ?ka ?kb ?kd ?ku ?kc ?_; (case k1 => k_asm); (case k2 => k_asm); (case k3 => k_asm); (case k4 => k_asm); (case k5 => k_asm); (case kK => first | exact rfl | assumption); (case ka => k_mem); (case kb => k_mem); (case kd => ktr_room); (case ku => ktr_units); (case kc => assumption); k_whole); intro h' tk' hKK'; refine hold_in ?_)
  trivial
theorem words98 : True := by
  k_with "compareOp NotEq ref ref" => (k_here; (with_reducible show wpAny _ _ (compareOp CmpOp.NotEq (Value.ref _) (Value.ref _)) _ _ _); k_dflt (refine' ne_nilN ?k1 ?k2 ?k3 ?k4 ?k5 ?k6 ?_; (case k1 => k_asm); (case k2 => k_mem); (case k3 => assumption); (case k4 => assumption); (case k5 => k_mem); (case k6 => ktr_units); k_whole))
  trivial
theorem words99 : True := by
  k_with "pyIter ref" => ((with_reducible show wpAny _ _ (pyIter (Value.ref _)) (fun it s₂ => LoopAtV _ _ _ _ _ _ _ _ _ it s₂) _ _); refine hold_in ?_)
  trivial
local macro_rules | `(tactic| k_all) => `(tactic| with_reducible assumption)
theorem words100 : True := by
  k_with "subscriptTail Name UnaryOp ref int" => (k_here; (with_reducible show wpAny _ _ (subscriptTail _ _ (Value.ref _) (Value.int _ _)) _ _ _); (with_unfolding_all refine' item_lastK ?k1 ?k2 ?k3 ?_ ?k6; (case k1 => k_asm); (case k2 => k_mem); (case k3 => decide); (case k6 => with_unfolding_all rfl); k_whole))
  trivial
theorem words101 : True := by
  k_with "pyIter ref" => ((with_reducible show wpAny _ _ (pyIter (Value.ref _)) (fun it s₂ => TurnsAt _ _ _ _ _ _ _ _ _ it s₂) _ _); refine hold_in ?_)
  trivial
local macro_rules | `(tactic| k_mem) => `(tactic| with_reducible_and_instances assumption)
theorem words102 : True := by
  k_with "call ref" => (k_here; (with_reducible show wpAny _ _ (call (Value.ref 62) _) _ _ _); k_dflt (first | (refine' use_on_c1 ?k1 ?k2 ?k3 ?k4 ?k5 ?kK ?ka ?kb ?kz ?ky ?kt ?kd ?ku ?_; (case kt => with_reducible assumption); (case kz => with_reducible assumption); (case ky => with_reducible assumption); (case k1 => k_asm); (case k2 => k_asm); (case k3 => k_asm); (case k4 => k_asm); (case k5 => k_asm); (case kK => first | exact rfl | assumption); (case ka => k_mem); (case kb => k_mem); (case kd => ktr_room); (case ku => ktr_units); k_whole) | (refine' use_on_c2 ?k1 ?k2 ?k3 ?k4 ?k5 ?kK ?ka ?kb ?kz ?ky ?kt ?kd ?ku ?_; (case kt => with_reducible assumption); (case kz => with_reducible assumption); (case ky => with_reducible assumption); (case k1 => k_asm); (case k2 => k_asm); (case k3 => k_asm); (case k4 => k_asm); (case k5 => k_asm); (case kK => first | exact rfl | assumption); (case ka => k_mem); (case kb => k_mem); (case kd => ktr_room); (case ku => ktr_units); k_whole)); intro h' tk' F' N'; (try k_sweep))
  trivial
theorem words103 : True := by
  k_with "call ref" => (k_here; (with_reducible show wpAny _ _ (call (Value.ref 74) _) _ _ _); k_dflt (first | (refine' use_way_c1 ?k1 ?k2 ?k3 ?k4 ?k5 ?kK ?ka ?kb ?kz ?ky ?kt ?kd ?ku ?_; (case kt => with_reducible assumption); (case kz => with_reducible assumption); (case ky => with_reducible assumption); (case k1 => k_asm); (case k2 => k_asm); (case k3 => k_asm); (case k4 => k_asm); (case k5 => k_asm); (case kK => first | exact rfl | assumption); (case ka => k_mem); (case kb => k_mem); (case kd => ktr_room); (case ku => ktr_units); k_whole) | (refine' use_way_c2 ?k1 ?k2 ?k3 ?k4 ?k5 ?kK ?ka ?kb ?kz ?ky ?kt ?kd ?ku ?_; (case kt => with_reducible assumption); (case kz => with_reducible assumption); (case ky => with_reducible assumption); (case k1 => k_asm); (case k2 => k_asm); (case k3 => k_asm); (case k4 => k_asm); (case k5 => k_asm); (case kK => first | exact rfl | assumption); (case ka => k_mem); (case kb => k_mem); (case kd => ktr_room); (case ku => ktr_units); k_whole) | (refine' use_way_c3 ?k1 ?k2 ?k3 ?k4 ?k5 ?kK ?ka ?kb ?kz ?ky ?kd ?ku ?_; (case kz => with_reducible assumption); (case ky => with_reducible assumption); (case k1 => k_asm); (case k2 => k_asm); (case k3 => k_asm); (case k4 => k_asm); (case k5 => k_asm); (case kK => first | exact rfl | assumption); (case ka => k_mem); (case kb => k_mem); (case kd => ktr_room); (case ku => ktr_units); k_whole)); intro v' t' h' tk' hv' hp' F' N'; (try k_sweep))
  trivial
theorem words104 : True := by
  k_with "call ref" => (k_here; (with_reducible show wpAny _ _ (call (Value.ref 67) _) _ _ _); k_dflt (refine' use_third_c ?k1 ?k2 ?k3 ?k4 ?k5 ?kK ?ka ?kb ?kz ?ky ?kd ?ku ?_; (case k1 => k_asm); (case k2 => k_asm); (case k3 => k_asm); (case k4 => k_asm); (case k5 => k_asm); (case kK => first | exact rfl | assumption); (case kz => with_reducible assumption); (case ky => with_reducible assumption); (case ka => k_mem); (case kb => k_mem); (case kd => ktr_room); (case ku => ktr_units); k_whole); intro e' h' tk' he' F' N' l1'; (try simp only [AllNe, and_true] at l1'); (repeat (obtain ⟨_, l1'⟩ := l1')); (try k_sweep))
  trivial
theorem words105 : True := by
  k_with "call ref" => (k_here; (with_reducible show wpAny _ _ (call (Value.ref 62) _) (fun _ _ => wpAny _ _ (truthy _) _ _ _) _ _); k_dflt (refine' use_on_kc ?k1 ?k2 ?k3 ?k4 ?k5 ?kK ?ka ?kb ?kd ?ku ?kc ?_; (case k1 => k_asm); (case k2 => k_asm); (case k3 => k_asm); (case k4 => k_asm); (case k5 => k_asm); (case kK => first | exact rfl | assumption); (case ka => k_mem); (case kb => k_mem); (case kd => ktr_room); (case ku => ktr_units); (case kc => with_reducible assumption); k_whole); intro h' tk' hKK'; refine hold_in ?_)
  trivial
set_option maxHeartbeats 20000000 in
theorem law4_walk : LawQ4 law4C := by
  unfold LawQ4 runX
  intro H F1 N1
  obtain ⟨⟨⟨hPE, B0, X0, T0⟩, hoD, z0, z1, z2⟩, t0, t1, t2, hret⟩ := H
  dsimp only [nw3, nw4] at N1
  revert X0; show _ → wpAny (model PySem.Challenge.rw_rl0069_01.row.prog _) _ _ _ _ _; k_fill; intro X0
  show wpAny _ _ (execs (_ :: _ :: _ :: _ :: []) _) _ _ _
  k_fold
  repeat' (first | (k_unfold; (try dsimp only)) | walk1 | (dsimp only; walk1) | (leave1; (try dsimp only)) | fail "no step")
  unfold Hold
  (rename Fr _ _ _ _ => F5); (rename News _ _ _ _ => N5)
  refine Assign_map (val := fun i => (sums6 (law4C.c 0) (law4C.c 1) (law4C.c 2)).getD i 0) F5.ns (by rfl) (by with_unfolding_all rfl) (by decide) (by rfl) (by decide) (by rfl) (by rfl) ?_
  first | walk1 | (dsimp only; walk1)
  refine ⟨_, _, rfl, rfl, News.isList N5 (by k_mem), (by first | size_fits | exact Nat.le_of_ble_eq_true rfl), F5.ns, ?_, ?_⟩
  · intro i v h tk C mm EE hi hK hC hn
    have hi6 : i < 6 := (Array.getElem?_eq_some_iff.mp hi).1
    clear hret
    rcases (show i = 0 ∨ i = 1 ∨ i = 2 ∨ i = 3 ∨ i = 4 ∨ i = 5 by omega) with rfl | rfl | rfl | rfl | rfl | rfl
    all_goals (
      obtain rfl := (Option.some.inj hi).symm
      refine' sum_turn rfl rfl rfl (by decide) rfl rfl rfl rfl rfl (by decide) (by decide) (by decide) (by decide) (by decide) (by decide) hK hC hn ?gK ?gD ?gT ?n1 ?n2 ?n3 ?y1 ?y2 ?y3 ?z1 ?z2 ?z3 ?e1 ?e2 ?e3 ?ee
      (case gT => exact tup_of N5 (by k_mem)); (case gK => exact cell_of hoD N5 (by k_mem)); (case gD => exact News.isList N5 (by k_mem))
      (case n1 => exact ⟨by decide, by decide⟩); (case n2 => exact ⟨by decide, by decide⟩); (case n3 => exact ⟨by decide, by decide⟩); (case y1 => exact rfl); (case y2 => exact rfl); (case y3 => exact rfl)
      (case z1 => exact News.isList N5 (by k_mem)); (case z2 => exact News.isList N5 (by k_mem)); (case z3 => exact News.isList N5 (by k_mem)); (case e1 => exact rfl); (case e2 => exact rfl); (case e3 => exact rfl); (case ee => exact rfl))
  · intro D6 ys h6 tk6 hk6 hD6 hDL6 hn6 hl6 hys
    obtain ⟨w0, w1, w2, w3, w4, w5, rfl⟩ := ints_sums hys
    have F6 := map_fr F5 hk6 hn6
    have N6 := news_drop7 (map_news F5 N5 hk6 hD6 hDL6 hl6)
    clear hk6 hn6 hD6 hl6 hys F5 N5
    try dsimp only
    repeat' (first | (k_unfold; (try dsimp only)) | walk1 | (dsimp only; walk1) | (leave1; (try dsimp only)) | fail "no step")
    unfold Hold
    refine Assign_filtC (f := stars6 (law4C.c 0) (law4C.c 1) (law4C.c 2) (law4C.c 3) (law4C.c 4) (law4C.c 5)) F6.ns (by rfl) (by with_unfolding_all rfl) (by rfl) (by decide) (by intro n; rfl) (by intro h; rfl) (by rfl) (by decide) (by rfl) (by rfl) ?_
    first | walk1 | (dsimp only; walk1)
    refine ⟨_, _, rfl, rfl, News.isList N6 (by k_mem), (by first | size_fits | exact Nat.le_of_ble_eq_true rfl), F6.ns, ?_, ?_⟩
    · intro i v h tk C Ks EE hi hK hC hKs hhas
      obtain ⟨K, rfl, hcell⟩ := hhas
      have hKn := hKs K (List.mem_singleton.mpr rfl)
      obtain ⟨nw, hnw, NW⟩ := name_news N6
      have m0 : (law4C.c 0).e ∈ nw := mem_eq hnw (by k_mem)
      have m1 : (law4C.c 1).e ∈ nw := mem_eq hnw (by k_mem)
      have m2 : (law4C.c 2).e ∈ nw := mem_eq hnw (by k_mem)
      obtain ⟨st, rfl, hst, hbd, hf⟩ := star_key z0 z1 z2 t0 t1 t2 m0 m1 m2 (mem_eq hnw (by k_mem)) (mem_eq hnw (by k_mem)) (mem_eq hnw (by k_mem)) hi
      clear hret
      refine wpAny_isTrue_Compare1 ?_
      refine ListComp_filt (f := fun j => [!(onc (law4C.c 0) st), !(onc (law4C.c 1) st), !(onc (law4C.c 2) st)].getD j false) (by with_unfolding_all rfl) (by decide) (by rfl) (by decide) (by rfl) (by decide) ?_
      refine wpAny_Name (wpAny_loadName_cell rfl rfl rfl (cell_up (cell_of hoD N6 (by k_mem)) hK) ?_) (by decide)
      refine ⟨_, _, rfl, rfl, list_up (News.isList N6 (by k_mem)) hK, (by first | size_fits | exact Nat.le_of_ble_eq_true rfl), ?_, ?_⟩
      · intro j cv h2 tk2 C2 Ks2 E2 hj hK2 hC2 _ hhas2
        obtain ⟨m2', hn2, hm2⟩ := hhas2
        obtain ⟨ca, rfl, hca, hbdc, hfj⟩ := col_key m0 m1 m2 hbd hj
        obtain ⟨oC, heC, hoC⟩ := PyProof.Rows.LCg.ns_obj hn2
        obtain ⟨oK, heK, hoK⟩ := hcell
        have hKK2 := hK.trans hK2
        have F8 := F6.keeps hKK2
        have hC2' : h6.get? C2 = none := by
          cases q : h6.get? C2 with
          | none => rfl
          | some o' => have := hK _ _ q; rw [hC2] at this; cases this
        have N8 := news4 F6 NW hKK2 hC2' heC hKn (hK2 _ _ heK) hca hst
        clear N6 F6 NW hca hst hbd hj hi hnw m0 m1 m2 z0 z1 z2 t0 t1 t2
        refine isTrue_not (isTrue_plain ?_)
        repeat' (first | (k_unfold; (try dsimp only)) | walk1 | (dsimp only; walk1) | (leave1; (try dsimp only)) | fail "no step")
        unfold Hold
        exact wpAny_truthy_bool ⟨hfj.symm, _, _, rfl, by assumption⟩
      · intro D ys h2 tk2 hK2 hD2 hl2 kept
        refine List_nil' ?_
        refine eq_nil (list_up hl2 fun b o e => Heap.get?_push_of_some _ e) ⟨_, Heap.get?_push_size _ rfl, rfl, _, rfl⟩ (by ktr_units) ?_
        exact wpAny_truthy_bool ⟨(kept_c kept).trans hf.symm, _, _, rfl, fun b o e => Heap.get?_push_of_some _ (hK2 b o e)⟩
    · intro D7 ys h7 tk7 hk7 hD7 hDL7 hn7 hl7 kept
      have F9 := map_fr F6 hk7 hn7
      obtain ⟨oD7, eD7, cD7, nD7, dD7⟩ := hl7
      have N9 := news_pick2 (map_news F6 N6 hk7 hD7 hDL7 eD7)
      clear F6 N6 hk7 hD7 hn7 eD7
      try dsimp only
      repeat' (first | (k_unfold; (try dsimp only)) | walk1 | (dsimp only; walk1) | (leave1; (try dsimp only)) | fail "no step")
      rw [final_c z0 z1 z2 t0 t1 t2 (by assumption) (by assumption) kept]
      (rename Fr _ _ _ _ => F10)
      exact hret _ _ _ F10
end
theorem words106 : True := by
  k_with_none
  k_with "call builtin:max" => (k_here; (with_reducible show wpAny _ _ (call (Value.builtin "max") [Value.int _ _, Value.int _ _, Value.int _ _]) _ _ _); k_dflt (refine' max3_K ?k1 ?k2 ?k3 ?_; (case k1 => k_asm); (case k2 => k_asm); (case k3 => exact rfl); k_whole); intro h' tk' t' F' N'; (try k_sweep))
  k_with "call builtin:min" => (k_here; (with_reducible show wpAny _ _ (call (Value.builtin "min") [Value.int _ _, Value.int _ _, Value.int _ _]) _ _ _); k_dflt (refine' min3_K ?k1 ?k2 ?k3 ?_; (case k1 => k_asm); (case k2 => k_asm); (case k3 => exact rfl); k_whole); intro h' tk' t' F' N'; (try k_sweep))
  k_with "exec While BoolOp cons nil" => ((with_reducible show wpAny _ _ (exec (Stmt.While _ _ _ _) _) _ _ _); refine hold_in ?_)
  k_with "exec While Compare cons nil" => ((with_reducible show wpAny _ _ (exec (Stmt.While _ _ _ _) _) _ _ _); refine hold_in ?_)
  k_with "subscriptTail Name Slice str ref" => ((with_reducible show wpAny _ _ (subscriptTail _ (Expr.Slice none (some (Expr.BoolOp _ _ _)) none _) _ _) _ _ _); (with_reducible rename Fr _ _ _ _ => F'); (with_reducible rename News _ _ _ _ => N'); refine slice_none_K (s := ⟨_, _, _, _, _⟩) F' N' ?_; intro _ _ _ _ _)
  k_with "eval Subscript" => (k_here; (with_reducible show wpAny _ _ (eval (Expr.Subscript (Expr.Name _ _) (Expr.Slice none (some (Expr.BoolOp _ _ _)) none _) _) _) _ _ _); k_dflt (refine' cutEnd ?k1 ?k2 ?k3 ?k4 ?k5 ?k6 ?k7 ?_; (case k1 => k_asm); (case k2 => k_asm); (case k3 => exact rfl); (case k4 => exact rfl); (case k5 => omega); (case k6 => omega); (case k7 => omega); k_whole); intro h' t' k' F' N'; (try k_sweep))
  k_with "execs cons" => (k_here; (with_reducible refine any_toks ?_); intro tk'; (with_reducible refine wpAny_execs_cons ?_); (try dsimp only))
  k_with "execs nil" => (k_here; (with_reducible refine any_toks ?_); intro tk'; (with_reducible refine wpAny_execs_nil ?_); (try dsimp only))
  k_with "call ref" => (k_here; (with_reducible show wpAny _ _ (call (Value.ref 31) _) _ _ _); k_dflt (refine' use_ct (c_subst _ _ _ _ ?kc) ?k1 ?k2 ?k3 ?k4 ?k5 ?kK ?kS ?kd ?ku ?_; (case kc => assumption); (case k1 => k_asm); (case k2 => k_asm); (case k3 => k_asm); (case k4 => k_asm); (case k5 => k_asm); (case kK => first | exact rfl | assumption); (case kS => intro p hp; cases hp); (case kd => ktr_room); (case ku => ktr_units); k_whole); intro r' h' tk' hK' F' N' ho'; (refine Exists.elim ho' ?_); clear ho' hK'; intro t9 e9; subst e9; (try dsimp only); (try k_sweep))
  k_with "binaryOp Mult str int" => (k_here; (with_reducible show wpAny _ _ (binaryOp Operator.Mult (Value.str _ _) (Value.int _ _)) _ _ _); (first | refine mul_lt (by first | omega | (dsimp only [List.getD_cons_zero, List.getD_cons_succ, Int.toNat]; omega)) (by omega) ?_ | refine mul_gt (by omega) (by omega) ?_); intro t' n')
  k_with "binaryOp Add str str" => (k_here; (with_reducible show wpAny _ _ (binaryOp Operator.Add (Value.str (Wd _ _) _) (Value.str (Wd _ _) _)) _ _ _); (refine add_wd (by omega) (by omega) ?_); intro t' n')
  k_with "subscriptTail Name Constant ref int" => (k_here; (with_reducible show wpAny _ _ (subscriptTail _ (Expr.Constant _ _ _) (Value.ref _) (Value.int _ _)) _ _ _); k_dflt (first | ((with_reducible show wpAny _ _ (subscriptTail _ _ (Value.ref _) (Value.int 0 _)) _ _ _); refine' sub3_0 ?k1 ?k2 ?_ ?k7; (case k1 => k_asm); (case k2 => k_mem); (case k7 => with_unfolding_all rfl); k_whole) | ((with_reducible show wpAny _ _ (subscriptTail _ _ (Value.ref _) (Value.int 1 _)) _ _ _); refine' sub3_1 ?k1 ?k2 ?_ ?k7; (case k1 => k_asm); (case k2 => k_mem); (case k7 => with_unfolding_all rfl); k_whole) | ((with_reducible show wpAny _ _ (subscriptTail _ _ (Value.ref _) (Value.int 2 _)) _ _ _); refine' sub3_2 ?k1 ?k2 ?_ ?k7; (case k1 => k_asm); (case k2 => k_mem); (case k7 => with_unfolding_all rfl); k_whole)))
  k_with "call ref" => (k_here; (with_reducible show wpAny _ _ (call (Value.ref 45) _) _ _ _); k_dflt (refine' use_ct (c_word _ _ _ _ _ _ _ _ ?kc ?ke) ?k1 ?k2 ?k3 ?k4 ?k5 ?kK ?kS ?kd ?ku ?_; (case k1 => k_asm); (case k2 => k_asm); (case k3 => k_asm); (case k4 => k_asm); (case k5 => k_asm); (case kK => first | exact rfl | assumption); (case kS => intro p hp; rw [List.mem_singleton.mp hp]; k_mem); (case kd => ktr_room); (case ku => ktr_units); (case kc => omega); (case ke => omega); k_whole); intro r' h' tk' hK' F' N' ho'; (refine Exists.elim ho' ?_); clear ho' hK'; intro t9 e9; subst e9; (try dsimp only); (try k_sweep))
  k_with "exec Assign cons ListComp" => (k_here; (with_reducible show wpAny _ _ (exec (Stmt.Assign _ (Expr.ListComp _ [⟨Expr.Tuple _ _ _, Expr.Call _ [Expr.Name _ _, Expr.Name _ _] _ _, _, _⟩] _ _) _) _) _ _ _); with_unfolding_all refine wpAny_Assign_Name ?_)
  k_with "eval ListComp" => (k_here; (with_reducible show wpAny _ _ (eval (Expr.ListComp (Expr.BinOp _ _ _ _) [⟨Expr.Tuple _ _ _, Expr.Call _ [Expr.Name _ _, Expr.Name _ _] _ _, _, _⟩] _ _) _) _ _ _); k_dflt (refine ListComp_zip (by k_asm) (by rfl) (by decide) (by rfl) (by decide) (by rfl) (by rfl) (by decide) (by decide) (by decide) ?_))
  k_with "call type:zip" => (k_here; (with_reducible show wpAny _ _ (call (Value.type "zip") [Value.ref _, Value.ref _]) (ZipSrc _ _ _ _ _) _ _); k_dflt (refine' zip_call ?k1 ?k2 ?k3 ?k4 ?k5 ?_; (case k1 => exact rfl); (case k2 => k_asm); (case k3 => k_asm); (case k4 => k_mem); (case k5 => k_mem); k_whole); intro D' t0' t1' t2' h' tk' F' N' l1'; (try simp only [AllNe, and_true] at l1'); (try k_sweep))
  k_with "subscriptTail Name Slice str ref" => ((with_reducible show wpAny _ _ (subscriptTail _ (Expr.Slice none (some _) none _) (Value.str (Wd _ _) _) _) _ _ _); (with_reducible rename Fr _ _ _ _ => F'); (with_reducible rename News _ _ _ _ => N'); refine slice_to_K (s := ⟨_, _, _, _, _⟩) (by assumption) F' N' ?_; intro h' t' k' F' N')
  k_with "eval ListComp" => (k_here; (with_reducible show wpAny _ _ (eval (Expr.ListComp _ [⟨Expr.Name _ _, Expr.Tuple _ _ _, [_], _⟩] _ _) _) _ _ _); k_dflt (refine ListComp_Tup (by k_asm) (by with_unfolding_all rfl) (by decide) (by rfl) (by decide) (by rfl) ?_))
  k_with "SrcTup" => (k_here; k_dflt (refine SrcTup.ledger (by rfl) (by k_asm) (by k_asm) (by k_mem) (by first | exact Nat.le_of_ble_eq_true rfl | size_fits) ?_; intro g'; lct_lit))
  k_with "call ref" => (k_here; (with_reducible show wpAny _ _ (call (Value.ref 50) _) _ _ _); k_dflt (refine' use_read ?k1 ?k2 ?k3 ?k4 ?k5 ?kK ?kd ?ku ?ka ?kb ?_; (case k1 => k_asm); (case k2 => k_asm); (case k3 => k_asm); (case k4 => k_asm); (case k5 => k_asm); (case kK => first | exact rfl | assumption); (case kd => ktr_room); (case ku => ktr_units); (case ka => omega); (case kb => omega); k_whole); intro T' D' t0' t1' t2' t3' n' m' h' tk' F' N' ne' l1' l2'; (try simp only [AllNe, and_true] at l1'); (try simp only [AllNe, and_true] at l2'); (try k_sweep))
  k_with "call ref" => (k_here; (with_reducible show wpAny _ _ (call (Value.ref 21) _) _ _ _); k_dflt (refine' use_obj (c_hsv _ _ _ _ _ _ ?ka ?kb ?kc ?ke ?kf ?kg) ?k1 ?k2 ?k3 ?k4 ?k5 ?kK ?kS ?kd ?ku ?_; (case k1 => k_asm); (case k2 => k_asm); (case k3 => k_asm); (case k4 => k_asm); (case k5 => k_asm); (case kK => first | exact rfl | assumption); (case kS => intro p hp; cases hp); (case kd => ktr_room); (case ku => ktr_units); (case ka => omega); (case kb => omega); (case kc => omega); (case ke => omega); (case kf => omega); (case kg => omega); k_whole); intro D' o' h' tk' F' N' l1' ho'; (try simp only [AllNe, and_true] at l1'); (refine Exists.elim ho' ?_); clear ho'; intro st9 ho'; (refine Exists.elim ho' ?_); clear ho'; intro t91 ho'; (refine Exists.elim ho' ?_); clear ho'; intro t92 ho'; (refine Exists.elim ho' ?_); clear ho'; intro t93 ho'; (refine Exists.elim ho' ?_); clear ho'; intro n9 e9; subst e9; (try dsimp only); (try k_sweep))
  k_with "call ref" => (k_here; (with_reducible show wpAny _ _ (call (Value.ref 55) _) _ _ _); k_dflt (refine' use_less ?k1 ?k2 ?k3 ?k4 ?k5 ?kK ?ka ?kb ?kd ?ku ?kc ?_; (case k1 => k_asm); (case k2 => k_asm); (case k3 => k_asm); (case k4 => k_asm); (case k5 => k_asm); (case kK => first | exact rfl | assumption); (case ka => k_mem); (case kb => k_mem); (case kd => ktr_room); (case ku => ktr_units); (case kc => omega); k_whole); intro D' r' g' b' t0' t1' t2' n' h' tk' hl' hf' F' N' l1'; (try simp only [AllNe, and_true] at l1'); (try k_sweep))
  k_with "call ref" => (k_here; (with_reducible show wpAny _ _ (call (Value.ref 62) _) _ _ _); k_dflt (refine' use_on ?k1 ?k2 ?k3 ?k4 ?k5 ?kK ?ka ?kb ?kd ?ku ?kc ?_; (case k1 => k_asm); (case k2 => k_asm); (case k3 => k_asm); (case k4 => k_asm); (case k5 => k_asm); (case kK => first | exact rfl | assumption); (case ka => k_mem); (case kb => k_mem); (case kd => ktr_room); (case ku => ktr_units); (case kc => omega); k_whole); intro h' tk' F' N'; (try k_sweep))
  k_with "call ref" => (k_here; (with_reducible show wpAny _ _ (call (Value.ref 74) _) _ _ _); k_dflt (refine' use_way ?k1 ?k2 ?k3 ?k4 ?k5 ?kK ?ka ?kb ?kd ?ku ?kc ?ke ?kf ?kg ?kh ?_; (case k1 => k_asm); (case k2 => k_asm); (case k3 => k_asm); (case k4 => k_asm); (case k5 => k_asm); (case kK => first | exact rfl | assumption); (case ka => k_mem); (case kb => k_mem); (case kd => ktr_room); (case ku => ktr_units); (case kc => omega); (case ke => omega); (case kf => omega); (case kg => omega); (case kh => omega); k_whole); intro t' h' tk' F' N'; (try k_sweep))
  k_with "call ref" => (k_here; (with_reducible show wpAny _ _ (call (Value.ref 67) _) _ _ _); k_dflt (refine' use_third ?k1 ?k2 ?k3 ?k4 ?k5 ?kK ?ka ?kb ?kd ?ku ?_; (case k1 => k_asm); (case k2 => k_asm); (case k3 => k_asm); (case k4 => k_asm); (case k5 => k_asm); (case kK => first | exact rfl | assumption); (case ka => k_mem); (case kb => k_mem); (case kd => ktr_room); (case ku => ktr_units); k_whole); intro D' r' g' b' t0' t1' t2' n' h' tk' he' F' N' l1'; (try simp only [AllNe, and_true] at l1'); (try k_sweep))
  trivial
end Mine
namespace Mine
theorem law2_all (z : Z) : LawQ2 z := eps_all (P := LawQ2) (by unfold law2C; rfl) law2_walk z
theorem law3_all (z : Z) : LawQ3 z := eps_all (P := LawQ3) (by unfold law3C; rfl) law3_walk z
theorem law4_all (z : Z) : LawQ4 z := eps_all (P := LawQ4) (by unfold law4C; rfl) law4_walk z
theorem law2_use (z : Z) : LHyp1 lawS z →
  (∀ (Dr : Addr) (c0 c1 c2 : Col) (k : Nat) (oD : Obj) (h : Heap) (tk : Nat) (m : Str → Option Value), Fr z.h₀ z.L h m → News z.h₀ z.L h [(Dr, listOf #[c0.v, c1.v, c2.v] k), (z.L + 1 + 1, oD), c2.e, c1.e, c0.e] → oD.data = .cell (some (.ref Dr)) → Drawn c0 → Drawn c1 → Drawn c2 → z.R .next { z.s with heap := h, toks := tk }) →
  runX z ((lawB.drop 1).take 2) := by
  have h := law2_all z
  unfold LawQ2 at h
  with_reducible exact h
theorem law3_use (z : Z) : LHyp3 lawS z → Fr z.h₀ z.L z.s.heap z.m → News z.h₀ z.L z.s.heap (nw3 z) →
  (∀ (S : Addr) (e0 e1 e2 : Col) (q : Nat) (h : Heap) (tk : Nat) (m : Str → Option Value), Fr z.h₀ z.L h (upS S m) → News z.h₀ z.L h ((S, listOf #[(z.c 0).v, (z.c 1).v, (z.c 2).v, e0.v, e1.v, e2.v] q) :: e2.e :: e1.e :: e0.e :: nw3 z) → Thd (z.c 0) (z.c 1) e0 → Thd (z.c 0) (z.c 2) e1 → Thd (z.c 1) (z.c 2) e2 → z.R .next { z.s with heap := h, toks := tk }) →
  runX z ((lawB.drop 3).take 2) := by
  have h := law3_all z
  unfold LawQ3 at h
  with_reducible exact h
theorem law4_use (z : Z) : LHyp4 lawS z → Fr z.h₀ z.L z.s.heap (upS (z.n 3) z.m) → News z.h₀ z.L z.s.heap (nw4 z) → runX z (lawB.drop 5) := by
  have h := law4_all z
  unfold LawQ4 at h
  with_reducible exact h
/-- what the law's text behind a part of it still has to do -/
def then_ (z : Z) (l : List Stmt) : Flow → Shared → Prop := fun f s' => match f with | .next => runX { z with s := s' } l | f => z.R f s'
theorem run_split {z : Z} {l : List Stmt} (n : Nat) (h : runX { z with R := then_ z (l.drop n) } (l.take n)) : runX z l := by
  unfold runX at h ⊢
  refine execs_split n (wpAny_mono h (fun f s' q => ?_) fun _ _ e => e)
  cases f with
  | next => have q : runX { z with s := s' } (l.drop n) := q; unfold runX at q; exact q
  | cont => exact q
  | brk => exact q
  | ret v => exact q
theorem LHyp.up {c : Scope} {z : Z} (z' : Z) (H : LHyp c z) (e1 : z'.w = z.w) (e2 : z'.L = z.L) (e3 : z'.a = z.a) (e4 : z'.n 0 = z.n 0) (e5 : z'.E = z.E) (e6 : z'.h₀ = z.h₀) (e7 : z'.mean = z.mean) (e8 : z'.mg = z.mg) (e9 : z'.mb = z.mb) : LHyp c z' := by
  obtain ⟨P, B, X, T⟩ := H
  refine ⟨?_, ?_, ?_, ?_⟩
  · show PassesOwn (model _ z'.w) (callerA.deeper (envOfC _ c z'.L z'.a (.ref (z'.n 0)))) (envOfC _ c z'.L z'.a (.ref (z'.n 0))) z'.E
    rw [e1, e2, e3, e4, e5]; exact P
  · rw [e6]; exact B
  · rw [e1, e6]; exact X
  · rw [e6, e7, e8, e9]; exact T
theorem runX.to {z z' : Z} {l : List Stmt} (h : runX z l) (e1 : z'.w = z.w) (e2 : z'.L = z.L) (e3 : z'.a = z.a) (e4 : z'.n 0 = z.n 0) (e5 : z'.E = z.E) (e6 : z'.R = z.R) (e7 : z'.s = z.s) : runX z' l := by
  unfold runX at h ⊢
  show wpAny (model _ z'.w) (callerA.deeper (envOfC _ lawS z'.L z'.a (.ref (z'.n 0)))) (execs l (envOfC _ lawS z'.L z'.a (.ref (z'.n 0)))) z'.R z'.E z'.s
  rw [e1, e2, e3, e4, e5, e6, e7]; exact h
theorem drop12 {l : List Stmt} : (l.drop 1).drop 2 = l.drop 3 := List.drop_drop
theorem drop32 {l : List Stmt} : (l.drop 3).drop 2 = l.drop 5 := List.drop_drop
theorem law_rest (z : Z) (H : LHyp1 lawS z) : runX z (lawB.drop 1) := by
  refine run_split 2 ?_
  rw [drop12]
  refine law2_use { z with R := then_ z (lawB.drop 3) } ⟨H.toLHyp.up _ rfl rfl rfl rfl rfl rfl rfl rfl rfl, H.F, H.N, H.dC, H.n1, H.n2, H.hret⟩ ?_
  intro Dr c0 c1 c2 k oD h tk m F N hoD z0 z1 z2
  show runX { z with s := { z.s with heap := h, toks := tk } } (lawB.drop 3)
  have q : runX { z with n := fun i => [z.n 0, Dr, k].getD i 0, c := fun i => [c0, c1, c2].getD i c0, o := fun _ => oD, m := m, s := { z.s with heap := h, toks := tk } } (lawB.drop 3) := by
    refine run_split 2 ?_
    rw [drop32]
    refine law3_use _ ⟨H.toLHyp.up _ rfl rfl rfl rfl rfl rfl rfl rfl rfl, hoD, z0, z1, z2⟩ F N ?_
    intro S e0 e1 e2 q h tk m F N t0 t1 t2
    have q5 := law4_use { z with n := fun i => [z.n 0, Dr, k, S, q].getD i 0, c := fun i => [c0, c1, c2, e0, e1, e2].getD i c0, o := fun _ => oD, m := m, s := { z.s with heap := h, toks := tk } }
      ⟨⟨H.toLHyp.up _ rfl rfl rfl rfl rfl rfl rfl rfl rfl, hoD, z0, z1, z2⟩, t0, t1, t2, fun h tk m F => H.hret h tk m F⟩ F N
    show runX _ (lawB.drop 5)
    exact q5.to rfl rfl rfl rfl rfl rfl rfl
  exact q.to rfl rfl rfl rfl rfl rfl rfl
theorem law_rest' (z : Z) (H : LHyp1 lawS z) : wpAny (lawM z) (lawA lawS z) (execs (lawB.drop 1) (lawEnv lawS z)) z.R z.E z.s := by
  have h := law_rest z H
  unfold runX at h
  with_reducible exact h
end Mine
namespace Mine
set_option pp.deepTerms false
set_option pp.deepTerms.threshold 10
theorem lawH.tw13054440799852798285 : True := trivial
theorem lawH.tw10390810905116366281 : True := trivial
theorem lawH.tw12262082585659903310 : True := trivial
theorem lawH.tw16357360818901633086 : True := trivial
theorem lawH.tw5898399449353122808 : True := trivial
theorem lawH.tw17890464019529152888 : True := trivial
theorem lawH.tw10921738003485052184 : True := trivial
theorem lawH.tw6534550556941180592 : True := trivial
theorem lawH.tw16138429234268778340 : True := trivial
theorem lawH.tw11196713833724734804 : True := trivial
theorem lawH.tw3178375446108467176 : True := trivial
theorem lawH.tw7156294845640945255 : True := trivial
theorem lawH.tw17137597225475010626 : True := trivial
theorem lawH.tw9335047310945559721 : True := trivial
theorem lawH.tw3972650643426560015 : True := trivial
theorem lawH.tw6452232002704356630 : True := trivial
theorem lawH.tw12693320092240205266 : True := trivial
theorem lawH.tw1091524868244822527 : True := trivial
theorem lawH.tw5912599030361196321 : True := trivial
theorem lawH.tw5949577251061220336 : True := trivial
theorem lawH.tw1099323467295411052 : True := trivial
theorem lawH.tw7668520562220497142 : True := trivial
theorem lawH.tw7498671149718858886 : True := trivial
theorem lawH.tw6628364169398131207 : True := trivial
theorem lawH.tw4868590309645327321 : True := trivial
theorem lawH.tw11614572089096259972 : True := trivial
theorem lawH.tw5884458346390820225 : True := trivial
theorem lawH.tw16472329432140788984 : True := trivial
theorem lawH.tw127627590893065071 : True := trivial
theorem lawH.tw5732855559856679518 : True := trivial
theorem lawH.tw5103195750596394526 : True := trivial
theorem lawH.tw2281525765336106284 : True := trivial
theorem lawH.tw1484750996479203182 : True := trivial
theorem lawH.tw16844689584408500620 : True := trivial
theorem lawH.tw8398545437299491445 : True := trivial
theorem lawH.tw13171051641719327681 : True := trivial
theorem lawH.tw14889850387592061233 : True := trivial
theorem lawH.tw4295317378465367221 : True := trivial
theorem lawH.tw5267315850101766070 : True := trivial
theorem lawH.tw13451137733885948720 : True := trivial
theorem lawH.tw601475574025220072 : True := trivial
theorem lawH.tw17577445566788143070 : True := trivial
theorem lawH.tw12426477920057256202 : True := trivial
theorem lawH.tw8447096926790540721 : True := trivial
theorem lawH.tw6421845477262030707 : True := trivial
theorem lawH.tw3836410689640262996 : True := trivial
theorem lawH.tw4999322871831887846 : True := trivial
theorem lawH.tw4473556345705218726 : True := trivial
theorem lawH.tw6228240388193403126 : True := trivial
theorem lawH.tw9991236883262693514 : True := trivial
theorem lawH.tw8048213760292911443 : True := trivial
theorem lawH.tw991831955348905426 : True := trivial
theorem lawH.tw4056960312805423640 : True := trivial
theorem lawH.tw16472107894579248901 : True := trivial
theorem lawH.tw10665838339552865837 : True := trivial
theorem lawH.tw16834376501933842035 : True := trivial
theorem lawH.tw6181421149001904178 : True := trivial
theorem lawH.tw10700022275471275823 : True := trivial
theorem lawH.tw13399348780466672680 : True := trivial
theorem lawH.tw15402328494646149949 : True := trivial
theorem lawH.tw14007924205901598723 : True := trivial
theorem lawH.tw11085852791721984367 : True := trivial
theorem lawH.tw7009710863392854572 : True := trivial
theorem lawH.tw17660194982211619674 : True := trivial
theorem lawH.tw7524445381936356570 : True := trivial
theorem lawH.tw13024096041562480921 : True := trivial
theorem lawH.tw8946107889559283755 : True := trivial
theorem lawH.tw14003951696795285437 : True := trivial
theorem lawH.tw9825972469878260886 : True := trivial
theorem lawH.tw9615057268890986004 : True := trivial
theorem lawH.tw17161956674935883296 : True := trivial
theorem lawH.tw13728408572186165845 : True := trivial
theorem lawH.tw10896271914397049700 : True := trivial
theorem lawH.tw12586613360250132377 : True := trivial
theorem lawH.tw6114401710086431633 : True := trivial
theorem lawH.tw12446368241181669589 : True := trivial
theorem lawH.tw16385514327237675740 : True := trivial
section
theorem words107 : True := by
  k_with "exec Assign cons ListComp" => (k_here; (with_reducible show wpAny _ _ (exec (Stmt.Assign _ (Expr.ListComp _ [⟨Expr.Name _ _, Expr.Call _ [Expr.Constant _ _ _] _ _, [], _⟩] _ _) _) _) _ _ _); lcf_look; lcg_calm; k_dflt (refine LCg.Assign_ListComp_U (F₀ := by k_asm) (by rfl) (by with_unfolding_all rfl) (by with_unfolding_all rfl) (by decide) (by rfl) (by decide) (by rfl) (by rfl) (by rfl) ?_); k_dflt lcg_toSrc)
  trivial
theorem words108 : True := by
  k_with "CompSrc" => (k_here; k_dflt (refine LCg.CompSrc.range (by rfl) (by k_asm) (by k_asm) (by assumption) (by first | decide | rfl) (by first | rfl | decide) (by first | size_fits | exact Nat.le_of_ble_eq_true rfl) ?_; intro g'; lcg_lit))
  trivial
theorem words109 : True := by
  k_with "CompEnd" => lcg_end
  trivial
theorem words110 : True := by
  k_with "call builtin:sum" => (k_here; (with_reducible show wpAny _ _ (call (Value.builtin "sum") [Value.ref _]) _ _ _); k_dflt (refine' sum_some ?k1 ?k2 ?k3 ?k5 ?_; (case k1 => k_asm); (case k2 => k_asm); (case k3 => rfl); (case k5 => exact slice_some (by assumption)); k_whole); intro z' h' tk' t' F' N')
  trivial
local macro_rules | `(tactic| k_lt $h:ident) => `(tactic| (replace $h := allLt_of $h; simp only [AllLt, and_true] at $h:ident; repeat (obtain ⟨_, $h:ident⟩ := $h:ident)))
local macro_rules | `(tactic| k_ne) => `(tactic| (refine neN ?_; (try dsimp only); first | with_reducible assumption | exact Ne.symm (by with_reducible assumption) | exact Nat.ne_of_lt (by with_reducible assumption) | exact Nat.ne_of_gt (by with_reducible assumption) | omega))
set_option maxHeartbeats 20000000 in
set_option Elab.async true in
theorem lawH : PySem.Challenge.rw_rl0069_01.Holds := by
  w_on; o_law
  o_head (kHook Mine.fkh.heap_1_1 [2, 3, 6, 15, 17, 18, 20, 21, 22, 25, 27, 28, 30, 31, 32, 34, 35, 37, 38, 39, 41, 42, 44, 45, 46, 49, 50, 51, 54, 55, 56, 58, 59, 61, 62, 63, 66, 67, 68, 70, 71, 73, 74, 75, 78, 79] (fun _ => by kernel_rfl))
  (case hw => w_witness2)
  rw [show Mine.lawH.view_1_39 = Mine.fkh.view_1_2 from rfl]
  have hb := fun z H => law_rest' z H
  unfold lawB lawS lawBS at hb
  dsimp only at hb
  w_strict (
   k_go0
   all_goals (try k_fold)
   (rename Fr _ _ _ _ => F0); (rename News _ _ _ _ => N0)
   (rename Top _ _ _ _ _ _ => T0); (rename Frag.In _ _ => KX0); (rename Below _ _ _ _ => B0)
   refine execs_cut3 F0 N0 1 (fun _ m nw m₁ nx => ∃ (D : Addr) (x0 x1 x2 : Int) (t0 t1 t2 : Tok) (c : Nat), m₁ = (fun y => if y = Str.ofString "numbers" then some (.ref D) else m y) ∧ nx = (D, listOf #[.int x0 t0, .int x1 t1, .int x2 t2] c) :: nw ∧ AllNe D nw) ?_ ?_
   · as_aux_lemma =>
     show wpAny _ _ (execs (_ :: []) _) _ _ _
     repeat' ((fail_if_success (with_reducible show ExitAt _ _ _ _ _)); first | (k_unfold; (try dsimp only)) | walk1 | (dsimp only; walk1) | (leave1; (try dsimp only)) | fail "no step")
     (rename Fr _ _ _ _ => F3); (rename News _ _ _ _ => N3); (rename (_ ∧ _ ∧ _ ∧ _ ∧ _) => o1)
     exact ⟨_, _, _, _, rfl, F3, news_seg1 N3, _, _, _, _, _, _, _, _, rfl, rfl, o1.2.2.2.1, o1.2.2.2.2, trivial⟩
   rintro m₁ nx h₁ tk₁ F₁ N₁ ⟨D, x0, x1, x2, t0, t1, t2, c, rfl, rfl, hD⟩
   refine hb ⟨fun k => [x0, x1, x2].getD k 0, fun k => [_, D, t0, t1, t2, c].getD k 0, fun k => [_, _].getD k default, fun _ => ⟨0, 0, 0, 0, 0, 0, 0, 0⟩, _, _, _, _, 0, 0, .none, default, default, _, .none, [], [], callerA, default, _, _, _, ⟨h₁, _, _, tk₁, _⟩, fun _ _ => True, ek, qk, ⟨default, 0, default, 0, []⟩⟩ ⟨⟨?_, B0, KX0, T0⟩, F₁, N₁, ?_, hD.1, hD.2.1, ?_⟩
   (first | (dsimp only; passes_own) | passes_own | trace_state)
   (first | exact ⟨_, by assumption⟩ | trace_state)
   intro h9 tk9 m9 F9
   clear F₁ F0
   dsimp only
   repeat (k_unfold; (try dsimp only))
   first | (k_end; wrow_close) | (k_end; kc_close) | wrow_close | trace_state)
end
end Mine

set_option maxRecDepth 100000 in
set_option maxHeartbeats 8000000 in
theorem PySem.Challenge.cw_rl0069_01_holds : PySem.Challenge.rw_rl0069_01.Holds := by
  exact Mine.lawH

