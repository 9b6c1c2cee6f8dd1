import PyProof.Rows.All
import Wide.All
import OpenK.AllK
import Wide.FinOn
import Lean
import PySem.Challenge.RW_wk0005_01
open PySem PySem.W PyProof.Rows PySem.Calls
set_option Elab.async false
set_option maxRecDepth 100000
set_option maxHeartbeats 8000000
open_top hd for PySem.Challenge.rw_wk0005_01
namespace Mine
abbrev Pg : Program := PySem.Challenge.rw_wk0005_01.row.prog
abbrev Tp (mean : ExcName → Option Value) (mg mb : Str → Option Value) (h : Heap) : Prop := Top hd.view_39 (looseW hd.view_39 []) mean mg mb h
theorem keep_of {s : Heap} {g h' : Heap} {L' : Addr} {m' : Str → Option Value} (GS : GSub s g []) (F : Fr g L' h' m') : ∀ b o, s.get? b = some o → h'.get? b = some o := fun b o e => F.keep b o (GS b o e (by simp))
theorem isl_of {s g : Heap} {l : Addr} {vs : Array Value} (GS : GSub s g []) (h : s.IsList l vs) : g.IsList l vs := h.at fun o e => GS l o e (by simp)
def Halt (P : Prop) : Prop := P
theorem halt {P : Prop} (h : Halt P) : P := h
theorem Halt.go {P : Prop} (h : P) : Halt P := h
def JS {σ : Type} (Led : σ → List (Addr × Obj)) (ps : σ → List (Str × Value)) (P : Nat → σ → Prop) (i : Nat) (m : Str → Option Value) (nx : List (Addr × Obj)) : Prop :=
  ∃ c : σ, nx = Led c ∧ (∀ p ∈ ps c, m p.1 = some p.2) ∧ P i c
theorem js_map {x : Str} {ps : List (Str × Value)} {m₁ : Str → Option Value} (h1 : ∀ p ∈ ps, m₁ p.1 = some p.2) : kstB m₁ ps = m₁ := by
  funext z
  exact kstB_eq h1 fun _ => rfl
section
variable {prog : Program} {w : World} {A : Around} {E : Value → Shared → Prop} {s : Shared} {env : Env} {h₀ : Heap} {x : Str} {body : List Stmt} {Q : Flow → Shared → Prop}
theorem my_range {σ : Type} {r : Addr} {a₀ b₀ : Int} {t₀ u₀ v₀ : Tok} {n : Nat} {m₀ : Str → Option Value} (Led : σ → List (Addr × Obj)) (ps : σ → List (Str × Value)) (P : Nat → σ → Prop) (c₀ : σ)
    (hh : A.handled = none) (hr : IsRange s.heap r a₀ b₀ 1 t₀ u₀ v₀) (hsmall : Builtin.Range.small a₀ b₀ 1 = true) (hn : Builtin.Range.rangeSize a₀ b₀ 1 = (n : Int)) (F : Fr h₀ env.locals s.heap m₀) (N : News h₀ env.locals s.heap (Led c₀)) (hk : ∀ p ∈ ps c₀, m₀ p.1 = some p.2) (hp : P 0 c₀)
    (turn : ∀ (c : σ) (i : Nat) t (u : Str → Option Value) h tk own, i < n → OwnOff own ((Led c₀).map (·.1)) → P i c →
      Fr h₀ env.locals h (fun y => if y = x then some (.int (a₀ + (i : Int)) t) else kstB u (ps c) y) → News h₀ env.locals h (Led c ++ own) →
      wpAny (model prog w) A (execs body env) (InvPostN h₀ env.locals (JS Led ps P (i + 1)) own ((Led c₀).map (·.1)) { s with heap := h, toks := tk } Q) E { s with heap := h, toks := tk })
    (done : ∀ (c : σ) (u : Str → Option Value) h tk, P n c → Fr h₀ env.locals h (kstB u (ps c)) → News h₀ env.locals h (Led c) → Q .next { s with heap := h, toks := tk }) :
    wpAny (model prog w) A (pyIter (.ref r)) (fun it s₂ => LoopAtV prog w A h₀ env x body Q E it s₂) E s := by
  refine wpAny_pyIter_range hr hsmall ?_
  have W := (Walks.range (prog := prog) (w := w) hh s.heap.objs.size a₀ 1 n).bound
  refine loop_invN (JS Led ps P) W ?_ ?_ ?_ ?_ (by show IsRangeIter _ _ _ _ _; rw [hn]; simpa using Heap.get?_push_size _ rfl) (F.push _) (fun p hp => ⟨Heap.get?_push_of_some _ (N p hp).1, (N p hp).2⟩) ⟨c₀, rfl, hk, hp⟩ ?_ ?_
  · intro hm
    exact absurd F.ns.lt ((List.mem_singleton.mp hm) ▸ Nat.lt_irrefl _)
  · intro b hb
    rw [List.mem_singleton.mp hb]
    exact next_is_new F
  · intro p hp hI
    exact absurd (Heap.lt_size (N p hp).1) ((List.mem_singleton.mp hI) ▸ Nat.lt_irrefl _)
  · intro p hp hI
    exact absurd (Heap.lt_size (N p hp).1) ((List.mem_singleton.mp hI) ▸ Nat.lt_irrefl _)
  · rintro i v m₁ nx h tk own hi ⟨_, t, rfl⟩ _ hoff ⟨c, rfl, h1, hP⟩ F₁ N₁
    have e1 : a₀ + (i : Int) * 1 = a₀ + (i : Int) := by omega
    rw [e1] at F₁
    refine turn c i t m₁ h tk own hi hoff hP ?_ N₁
    rw [js_map (x := x) h1]
    exact F₁
  · rintro m₁ nx h tk ⟨c, rfl, h1, hP⟩ F₁ N₁
    refine done c m₁ h tk hP ?_ N₁
    rw [js_map (x := x) h1]
    exact F₁
theorem my_end {σ : Type} {Led : σ → List (Addr × Obj)} {ps : σ → List (Str × Value)} {P : Nat → σ → Prop} {i : Nat} (c : σ) {L : Addr} {m' : Str → Option Value} {own news' : List (Addr × Obj)} {adr : List Addr} {s₁ : Shared} {h' : Heap} {tk : Nat}
    (F : Fr h₀ L h' m') (N : News h₀ L h' news') (hn : ∀ p ∈ Led c, p ∈ news') (ho : ∀ p ∈ own, p ∈ news') (ha : (Led c).map (·.1) = adr) (hk : ∀ p ∈ ps c, m' p.1 = some p.2) (hp : P i c) :
    InvEndN h₀ L (JS Led ps P i) own adr s₁ { s₁ with heap := h', toks := tk } := InvEndN.intro F N ⟨c, rfl, hk, hp⟩ ha hn ho
end
noncomputable def sumN (g : Nat → Int) : Nat → Int
  | 0 => 0
  | i + 1 => sumN g i + g i
noncomputable def listN {α : Type} (g : Nat → α) : Nat → List α
  | 0 => []
  | i + 1 => listN g i ++ [g i]
theorem ints_snoc {y : Int} {t : Tok} : ∀ {vs : List Value} {ys : List Int}, IntsAre vs ys → IntsAre (vs ++ [.int y t]) (ys ++ [y])
  | _, _, .nil => .cons _ _ .nil
  | _, _, .cons _ _ r => .cons _ _ (ints_snoc r)
theorem ints_push {y : Int} {t : Tok} {vs : Array Value} {ys : List Int} (h : IntsAre vs.toList ys) : IntsAre (vs.push (.int y t)).toList (ys ++ [y]) := by
  rw [Array.toList_push]
  exact ints_snoc h
theorem fr_back {h₀ s h' : Heap} {L : Addr} {m : Str → Option Value} (F : Fr h₀ L s m) (k : ∀ b o, s.get? b = some o → h'.get? b = some o) : Fr h₀ L h' m := ⟨F.ns.keeps k, fun b o e => k b o (F.keep b o e), F.above⟩
theorem news_back {h₀ s h' g : Heap} {L L' l : Addr} {m : Str → Option Value} {o : Obj} {news : List (Addr × Obj)} (F : Fr h₀ L s m) (N : News h₀ L s news) (GS : GSub s g []) (k : ∀ b o, s.get? b = some o → h'.get? b = some o) (N' : News g L' h' [(l, o)]) :
    News h₀ L h' ((l, o) :: news) ∧ ∀ p ∈ news, p.1 ≠ l := by
  have q := N' (l, o) (.head _)
  have none : ∀ b x, s.get? b = some x → b ≠ l := fun b x e z => by
    have y := GS b x e (by simp)
    rw [z, q.2.2] at y
    cases y
  obtain ⟨oL, es, ep, hL, r⟩ := F.ns
  refine ⟨fun p hp => ?_, fun p hp => none _ _ (N p hp).1⟩
  rcases List.mem_cons.mp hp with rfl | hp
  · refine ⟨q.1, fun z => none _ _ hL z.symm, ?_⟩
    cases e : h₀.get? l with
    | none => rfl
    | some x => exact absurd rfl (none _ _ (F.keep _ _ e))
  · exact ⟨k _ _ (N p hp).1, (N p hp).2⟩
theorem fmod_bd (a : Int) {k : Int} (h : 0 < k) : 0 ≤ Int.fmod a k ∧ Int.fmod a k < k := by
  rw [Int.fmod_eq_emod_of_nonneg a (by omega)]
  exact ⟨Int.emod_nonneg a (by omega), Int.emod_lt_of_pos a h⟩
theorem item_ring {prog : Program} {w : World} {A : Around} {E : Value → Shared → Prop} {s : Shared} {value slice : PySem.Expr} {l : Addr} {vs : List Value} {ys : List Str} {a : Int} {u : Tok} {Q : Value → Shared → Prop} (hl : s.heap.IsList l vs.toArray) (hi : StrsAre vs ys)
    (hlen : ys.length = 12) (h : ∀ t, Q (.str (ys.getD (Int.fmod a 12).toNat Str.empty) t) s)
    (hs : subscripted slice false (.ref l) (.int (Int.fmod a 12) u) = operate [.ref l, .int (Int.fmod a 12) u] (getItem (.ref l) (.int (Int.fmod a 12) u)) := by with_unfolding_all rfl) :
    wpAny (model prog w) A (subscriptTail value slice (.ref l) (.int (Int.fmod a 12) u)) Q E s :=
  have b := fmod_bd a (k := 12) (by decide)
  item_strsR hl hi b.1 (by rw [hlen]; exact b.2) (Int.lt_trans b.2 (by decide)) h hs
end Mine
namespace Mine
section
variable {prog : Program} {w : World} {A : Around} {E : Value → Shared → Prop} {s : Shared} {env : Env} {h₀ : Heap} {x : Str} {body : List Stmt} {Q : Flow → Shared → Prop}
def LPost (h₀ : Heap) (L : Addr) (J : (Str → Option Value) → List (Addr × Obj) → Prop) (I : Addr) (oI : Obj) (s : Shared) (Q : Flow → Shared → Prop) (f : Flow) (s₂ : Shared) : Prop := match f with
  | .ret v => Q (.ret v) s₂
  | .brk => Q .next s₂
  | _ => ∃ h' tk' m' nx, s₂ = { s with heap := h', toks := tk' } ∧ Fr h₀ L h' m' ∧ News h₀ L h' ((I, oI) :: nx) ∧ (∀ p ∈ nx, p.1 ≠ I) ∧ J m' nx
theorem my_list {l : Addr} {vs : List Value} {ns : List Int} {m₀ : Str → Option Value} {nx₀ : List (Addr × Obj)} (J : Nat → (Str → Option Value) → List (Addr × Obj) → Prop)
    (hh : A.handled = none) (hl : h₀.IsList l vs.toArray) (hi : IntsAre vs ns) (F : Fr h₀ env.locals s.heap m₀) (N : News h₀ env.locals s.heap nx₀) (hj : J 0 m₀ nx₀)
    (turn : ∀ i n t m₁ nx I oI h tk, ns[i]? = some n → J i m₁ nx → (∀ p ∈ nx, p.1 ≠ I) → Fr h₀ env.locals h (fun y => if y = x then some (.int n t) else m₁ y) → News h₀ env.locals h ((I, oI) :: nx) →
      wpAny (model prog w) A (execs body env) (LPost h₀ env.locals (J (i + 1)) I oI { s with heap := h, toks := tk } Q) E { s with heap := h, toks := tk })
    (done : ∀ m₁ nx h tk, J ns.length m₁ nx → Fr h₀ env.locals h m₁ → News h₀ env.locals h nx → Q .next { s with heap := h, toks := tk }) :
    wpAny (model prog w) A (pyIter (.ref l)) (fun it s₂ => LoopAtV prog w A h₀ env x body Q E it s₂) E s := by
  have hls : s.heap.IsList l vs.toArray := hl.at fun o e => F.keep l o e
  obtain ⟨ol, hol, _⟩ := id hl
  have hlt : l < h₀.objs.size := Heap.lt_size hol
  have hLs := F.ns.lt
  have hne : l ≠ s.heap.objs.size := Nat.ne_of_lt (Nat.lt_trans (Nat.lt_of_lt_of_le hlt F.above) hLs)
  refine wpAny_pyIter_list hls ?_
  have W := Walks.list (prog := prog) (w := w) hh s.heap.objs.size l hne vs.toArray
  have hlen : vs.toArray.size = ns.length := by simp [hi.length]
  rw [hlen] at W
  refine ⟨_, _, _, ns.length, _, _, m₀, nx₀, J, rfl, W, ?_, ?_, ?_, ⟨⟨_, Heap.get?_push_size _ rfl, rfl, rfl⟩, hls.at fun o e => Heap.get?_push_of_some _ e⟩, F.push _, (fun p hp => ⟨Heap.get?_push_of_some _ (N p hp).1, (N p hp).2⟩), hj, ?_, fun h' tk m' nx F' N' _ hJ => done m' nx h' tk hJ F' N'⟩
  · intro hm
    rcases List.mem_cons.mp hm with e | hm
    · exact absurd hLs (e ▸ Nat.lt_irrefl _)
    · exact absurd (Nat.lt_of_lt_of_le hlt F.above) ((List.mem_singleton.mp hm) ▸ Nat.lt_irrefl _)
  · intro b hb
    rw [List.mem_singleton.mp hb]
    exact next_is_new F
  · intro p hp hI
    exact absurd (Heap.lt_size (N p hp).1) ((List.mem_singleton.mp hI) ▸ Nat.lt_irrefl _)
  · rintro i v m₁ nx s₁ own ⟨h, tk, rfl⟩ hin hP hJ hoff hown hget hall hst F₁ N₁
    obtain ⟨n, t, rfl, hn⟩ := hi.at i v (by simpa using hP)
    obtain ⟨oI, hoI, _⟩ := hst.1
    have hI := hall s.heap.objs.size (List.mem_cons_self ..) (next_is_new F) oI hoI
    have offI : ∀ p ∈ nx, p.1 ≠ s.heap.objs.size := fun p hp e => hoff p hp (List.mem_singleton.mpr e)
    refine wpAny_mono (turn i n t m₁ nx s.heap.objs.size oI h tk hn hJ offI F₁ fun p hp => ?_) (fun f s₂ q => ?_) fun _ _ e => e
    · rcases List.mem_cons.mp hp with rfl | hp
      · exact N₁ _ (List.mem_append_left _ hI)
      · exact N₁ _ (List.mem_append_right _ hp)
    · have fin : (∃ h' tk' m' nx', s₂ = { s with heap := h', toks := tk' } ∧ Fr h₀ env.locals h' m' ∧ News h₀ env.locals h' ((s.heap.objs.size, oI) :: nx') ∧ (∀ p ∈ nx', p.1 ≠ s.heap.objs.size) ∧ J (i + 1) m' nx') →
          LoopStepU h₀ env.locals [s.heap.objs.size] own (J (i + 1)) { s with heap := h, toks := tk } .next s₂ := by
        rintro ⟨h', tk', m', nx', rfl, F', N', off', hJ'⟩
        refine ⟨rfl, h', tk', m', nx', rfl, F', fun p hp => ?_, fun p hp hq => off' p hp (List.mem_singleton.mp hq), hJ'⟩
        rcases List.mem_append.mp hp with hp | hp
        · rcases List.mem_cons.mp (hown p hp) with e | e
          · have h2 := hget p hp
            rw [e, hoI] at h2
            obtain ⟨pa, po⟩ := p
            cases e
            cases h2
            exact N' _ (.head _)
          · have h2 := (N₁ p (List.mem_append_left _ hp)).2.2
            rw [List.mem_singleton.mp e, hol] at h2
            cases h2
        · exact N' p (.tail _ hp)
      cases f with
      | ret v => exact .ret q
      | brk => exact .brk q
      | next => exact .next (fin q)
      | cont => exact .cont (fin q)
end
end Mine
local macro_rules | `(tactic| ktr_enter) => `(tactic| (refine' code_defG (news := []) ?k1 ?k2 ?k3 ?k4 ?k5 ?kA ?kF ?kK ?k6 ?k7 ?k8 ?k9 ?kB ?_ ?c2 ?c3 ?c4 ?c5; (case kA => exact rfl); (case kF => exact rfl); (case kK => assumption); (case k1 => k_asm); (case k2 => k_asm); (case k3 => k_asm); (case k4 => exact fun _ h => nomatch h); (case k5 => k_asm); (case k6 => k_is); (case k7 => k_is); (case k8 => ktr_room); (case k9 => exact BindsTo.of_eq rfl); (case c5 => decide); (case kB => exact locs rfl); (case c2 => exact rfl); (case c3 => exact rfl); (case c4 => exact rfl); k_whole; intro g' L' h' FG' F' N' B' X' T' GS'; (try dsimp only); (try k_lift B'); (try k_fold)))
namespace Mine
theorem code_pureC {prog : Program} {w : World} {A₀ A : Around} {s : Shared} {base h₀ : Heap} {outer : List Env} {L : Addr} {m mg mb : Str → Option Value} {K : Frag} {p : Program} {loose : List Str} {mean : ExcName → Option Value} {env : Env} {R : Result → Shared → Prop} {name qual : Str} {params : Arguments} {body : List Stmt} {scope : Scope} {dV kV doc pm cdv ct oc : Value} {an od : Option Addr} {osl : Array (Option Value)} {f : Addr} {args : Args} {binds : List (Str × Value)}
    (B : Below A₀ base outer h₀) (F : Fr h₀ L s.heap m) (X₀ : K.In h₀) (T : Top p loose mean mg mb h₀) (hA : A.frames = some (env :: outer)) (hf : env.frame = some L) (hke : env.scope.kind = .function)
    (ho : K.lookup f = some ⟨oc, od, .func (fnOf name qual params body scope dV kV doc pm an cdv ct), osl⟩) (hcd : codeIn K cdv qual = true) (hroom : A.depth < recursionLimit)
    (hbind : BindsTo s (fnOf name qual params body scope dV kV doc pm an cdv ct) args binds) (hkind : (binds.all fun y => scope.names.lookup y.1 == some .local || scope.names.lookup y.1 == some .cell) = true)
    (hnd : ((cellsFrom 0 scope.names []).map (·.1)).Nodup)
    (h : ∀ L' h₁ tk cells, Fr s.heap L' h₁ (bindL (envOfC qual scope L' f cdv).kindOf binds fun _ => none) → News s.heap L' h₁ cells →
      CellsAre (bindC (envOfC qual scope L' f cdv).kindOf binds fun _ => none) (cellsFrom (L' + 1) scope.names []) cells → Below A base (env :: outer) s.heap → K.In s.heap → Top p loose mean mg mb s.heap →
      wpAny (model prog w) (A.deeper (envOfC qual scope L' f cdv)) (execs body (envOfC qual scope L' f cdv))
        (fun fl s' => LeaveK h₀ L m s.heap R (match fl with | .ret v => v | _ => .none) s')
        (fun e s' => wpAny (model prog w) (A.deeper (envOfC qual scope L' f cdv)) (leaving (envOfC qual scope L' f cdv) e) (fun _ s'' => R (.error e) s'') (fun e' s'' => R (.error e') s'') s')
        { s with heap := h₁, toks := tk })
    (hco : scope.isCoroutine = false) (hgen : scope.isGenerator = false) (hk : scope.kind = .function) : codeAny (model prog w) A (.call (.ref f) args) R s := by
  obtain ⟨FG, BG, st, lv⟩ := groundX (R := R) B F (News.nil (h₀ := h₀) (L := L) (h := s.heap)) hA hf hke
  refine codeAny_call_function hroom ((X₀.keeps F.keep) _ _ ho) rfl hco hgen rfl (codeRec_of (X₀.keeps F.keep) hcd) (hbind _ _ _ _ ?_)
  refine wpAny_newFunctionEnv_cells hk (kindsX hkind _) fun env' he s' x => ?_
  subst he
  refine ⟨(T.nolimit.keeps F.keep).keeps x.toInCall.keep, codeAny_func ?_⟩
  obtain ⟨h₁, tk, rfl, _⟩ := x.done
  have hk₁ := x.toInCall.keep
  obtain ⟨cells, NC, Y⟩ := Cl.news (h₀ := s.heap) (Nat.le_refl _) fun n c hm => ⟨x.cell n c (lookup_of_mem_nodup (cellsFrom_names scope.names 0 (s.heap.objs.size + 1) [] [] rfl ▸ hnd) hm), x.above n c hm⟩
  exact wpAny_mono (h s.heap.objs.size h₁ tk cells ⟨x.toInCall.ns, fun b o e => hk₁ b o e, Nat.le_refl _⟩ NC Y BG (X₀.keeps F.keep) (T.keeps F.keep)) (fun fl s' hl => lv _ _ hl) fun _ _ y => y
theorem back_of {h₀ s h' : Heap} {L L' l : Addr} {m m' : Str → Option Value} {o : Obj} {news : List (Addr × Obj)} (F : Fr h₀ L s m) (N : News h₀ L s news) (F' : Fr s L' h' m') (N' : News s L' h' [(l, o)]) :
    Fr h₀ L h' m ∧ (News h₀ L h' ((l, o) :: news) ∧ ∀ p ∈ news, p.1 ≠ l) ∧ (∀ b o, s.get? b = some o → h'.get? b = some o) :=
  ⟨fr_back F F'.keep, news_back F N (g := s) (fun _ _ e _ => e) F'.keep N', F'.keep⟩
end Mine
local macro_rules | `(tactic| ktr_step) => `(tactic| (refine' Mine.code_pureC ?k1 ?k2 ?k3 ?k5 ?kA ?kF ?kK ?k6 ?k7 ?k8 ?k9 ?kB ?kD ?_ ?c2 ?c3 ?c4; (case kA => exact rfl); (case kF => exact rfl); (case kK => assumption); (case k1 => k_asm); (case k2 => k_asm); (case k3 => k_asm); (case k5 => k_asm); (case k6 => k_is); (case k7 => k_is); (case k8 => ktr_room); (case k9 => exact BindsTo.of_eq rfl); (case kB => exact rfl); (case kD => decide +kernel); (case c2 => exact rfl); (case c3 => exact rfl); (case c4 => exact rfl); k_whole; intro L' h' tk' cells' F' N' Y' B' X' T'; k_cells Y'; (try simp only [List.cons_append, List.nil_append] at N'); (try dsimp only); (try k_lift B'); (try k_fold)))
namespace Mine
def IsL (x : Str) : Prop := x = Str.ofString "a" ∨ x = Str.ofString "A" ∨ x = Str.ofString "b" ∨ x = Str.ofString "B"
def low (x : Str) : Nat := if x = Str.ofString "a" ∨ x = Str.ofString "A" then 0 else 1
def cost (x y : Str) : Int := if x = y then 0 else if low x = low y then 1 else 2
theorem c_cost {w : World} {mean : ExcName → Option Value} {mg mb : Str → Option Value} {dp un : Nat} {gd : Option (List Code)} {cn : Str} {cs : Scope} {a : Addr} {ccd : Value} {cl : List (Str × Addr)} {outer : List Env} {A₀ : Around} {base h₀ : Heap} {L : Addr} {m : Str → Option Value} {s : Shared} {Q E : Value → Shared → Prop} {news : List (Addr × Obj)} {x y : Str} {tx ty : Tok}
    (B : Below A₀ base outer h₀) (F : Fr h₀ L s.heap m) (X : (hd.heap_39 w.params).In h₀) (N : News h₀ L s.heap news) (T : Tp mean mg mb h₀) (hk : cs.kind = .function) (hx : IsL x) (hy : IsL y) (hdp : dp + 1 < recursionLimit) (hun : un + 8 < cLine)
    (hret : ∀ (t : Tok) (h' : Heap) (tk' : Nat), Fr h₀ L h' m → News h₀ L h' news → Q (.int (cost x y) t) { s with heap := h', toks := tk' }) :
    wpAny (model Pg w) (ktrTop dp un gd cn cs L a ccd cl outer) (call (.ref 63) [.str x tx, .str y ty]) Q E s := by
  rcases hx with rfl | rfl | rfl | rfl <;> rcases hy with rfl | rfl | rfl | rfl
  all_goals (
    refine wpAny_call ?_
    k_dflt cell_enter
    k_steps
    all_goals cb_end hret)
end Mine
namespace Mine
theorem bd_at {ws : List Int} {a b : Int} (h : ∀ x ∈ ws, a ≤ x ∧ x ≤ b) (h0 : a ≤ 0 ∧ 0 ≤ b) (k : Nat) : a ≤ ws.getD k 0 ∧ ws.getD k 0 ≤ b := by
  rw [List.getD_eq_getElem?_getD]
  cases e : ws[k]? with
  | none => exact h0
  | some x => exact h x (List.mem_of_getElem? e)
structure CC (w : World) (mean : ExcName → Option Value) (mg mb : Str → Option Value) (A₀ : Around) (base : Heap) (outer : List Env) (h₀ : Heap) (L : Addr) (m : Str → Option Value) (s : Shared) (news : List (Addr × Obj)) (cs : Scope) (dp un k : Nat) : Prop where
  B : Below A₀ base outer h₀
  F : Fr h₀ L s.heap m
  X : (hd.heap_39 w.params).In h₀
  N : News h₀ L s.heap news
  T : Tp mean mg mb h₀
  hk : cs.kind = .function
  hd : dp + k < recursionLimit
  hu : un + 8 * k < cLine
section
variable {w : World} {mean : ExcName → Option Value} {mg mb : Str → Option Value} {dp un : Nat} {gd : Option (List Code)} {cn : Str} {cs : Scope} {a : Addr} {ccd : Value} {cl : List (Str × Addr)} {outer : List Env} {A₀ : Around} {base h₀ : Heap} {L : Addr} {m : Str → Option Value} {s : Shared} {Q E : Value → Shared → Prop} {news : List (Addr × Obj)}
theorem c_add {x y : Int} {tx ty : Tok} (C : CC w mean mg mb A₀ base outer h₀ L m s news cs dp un 1)
    (hret : ∀ (t : Tok) (h' : Heap) (tk' : Nat), Fr h₀ L h' m → News h₀ L h' news → Q (.int (x + y) t) { s with heap := h', toks := tk' }) :
    wpAny (model Pg w) (ktrTop dp un gd cn cs L a ccd cl outer) (call (.ref 28) [.int x tx, .int y ty]) Q E s := by
  obtain ⟨B, F, X, N, T, hk, hdp, hun⟩ := C
  refine wpAny_call ?_
  k_dflt cell_enter
  k_steps
  all_goals cb_end hret
theorem c_sub {x y : Int} {tx ty : Tok} (C : CC w mean mg mb A₀ base outer h₀ L m s news cs dp un 1)
    (hret : ∀ (t : Tok) (h' : Heap) (tk' : Nat), Fr h₀ L h' m → News h₀ L h' news → Q (.int (x - y) t) { s with heap := h', toks := tk' }) :
    wpAny (model Pg w) (ktrTop dp un gd cn cs L a ccd cl outer) (call (.ref 42) [.int x tx, .int y ty]) Q E s := by
  obtain ⟨B, F, X, N, T, hk, hdp, hun⟩ := C
  refine wpAny_call ?_
  k_dflt cell_enter
  k_steps
  all_goals cb_end hret
theorem c_mul {x y : Int} {tx ty : Tok} (C : CC w mean mg mb A₀ base outer h₀ L m s news cs dp un 1) (hx : -1000 ≤ x ∧ x ≤ 1000) (hy : -1000000 ≤ y ∧ y ≤ 1000000)
    (hret : ∀ (t : Tok) (h' : Heap) (tk' : Nat), Fr h₀ L h' m → News h₀ L h' news → Q (.int (x * y) t) { s with heap := h', toks := tk' }) :
    wpAny (model Pg w) (ktrTop dp un gd cn cs L a ccd cl outer) (call (.ref 35) [.int x tx, .int y ty]) Q E s := by
  obtain ⟨B, F, X, N, T, hk, hdp, hun⟩ := C
  obtain ⟨hx1, hx2⟩ := hx
  obtain ⟨hy1, hy2⟩ := hy
  refine wpAny_call ?_
  k_dflt cell_enter
  k_steps
  all_goals cb_end hret
theorem c_costC {x y : Str} {tx ty : Tok} (C : CC w mean mg mb A₀ base outer h₀ L m s news cs dp un 1) (hx : IsL x) (hy : IsL y)
    (hret : ∀ (t : Tok) (h' : Heap) (tk' : Nat), Fr h₀ L h' m → News h₀ L h' news → Q (.int (cost x y) t) { s with heap := h', toks := tk' }) :
    wpAny (model Pg w) (ktrTop dp un gd cn cs L a ccd cl outer) (call (.ref 63) [.str x tx, .str y ty]) Q E s :=
  c_cost C.B C.F C.X C.N C.T C.hk hx hy C.hd (by have := C.hu; omega) hret
end
end Mine
namespace Mine
section
variable {prog : Program} {w : World} {A : Around} {E : Value → Shared → Prop} {s : Shared}
theorem enum_str_item {e it : Addr} {x : Str} {t : Tok} {i c : Nat} {old : Value} {Q : Option Value → Shared → Prop}
    (he : IsEnum s.heap e it i old) (hit : s.heap.IsStrIter it "str_ascii_iterator" x t i) (hx : x.cps[i]? = some c) (hne : e ≠ it)
    (hQ : ∀ h', IsEnumOut h' e it ((i : Int) + 1) (.str ⟨#[c]⟩ s.toks) s.heap.objs.size → h'.IsStrIter it "str_ascii_iterator" x t (i + 1) →
      h'.get? s.heap.objs.size = some { cls := .type "tuple", data := .seq #[.int i (s.toks + 1), .str ⟨#[c]⟩ s.toks] } →
      (∀ b o, b ≠ e → b ≠ it → s.heap.get? b = some o → h'.get? b = some o) → Q (some (.ref s.heap.objs.size)) { s with heap := h', toks := s.toks + 1 + 1 }) :
    wpAny (model prog w) A (pyNext (.ref e)) Q E s := by
  have hT : s.TypeIs (.ref e) "enumerate" := ⟨_, he, rfl⟩
  unfold pyNext
  refine wpAny_bind (wpAny_attempt (wpAny_callSpecial?_slot (name := Str.ofString "__next__") hT F.slot_enumerate_next
    (wpAny_call_entry F.slot_enumerate_next hT F.entry_enumerate_next ?_ (F.args_enumerate_next_1 _))))
  obtain ⟨hp, g, d, tk, os⟩ := s
  show wpAny _ _ (field (.ref e) 2 >>= _) _ _ _
  refine wpAny_bind (wpAny_field he rfl (x := .ref it) rfl ?_)
  refine wpAny_bind (wpAny_nextOf_ascii_item hit hx fun h₁ hit₁ hs₁ => ?_)
  replace hs₁ : Heap.SameBut it hp h₁ := hs₁
  have he₁ : IsEnum h₁ e it i old := (hs₁.2 e hne).trans he
  show wpAny _ _ (field (.ref e) 3 >>= _) _ _ ⟨h₁, g, d, tk + 1, os⟩
  refine wpAny_bind (wpAny_field he₁ rfl (x := rawInt i) rfl ?_)
  show wpAny _ _ (field (.ref e) 4 >>= _) _ _ ⟨h₁, g, d, tk + 1, os⟩
  refine wpAny_bind (wpAny_field he₁ rfl (x := .none) rfl ?_)
  show wpAny _ _ (mkInt i >>= _) _ _ ⟨h₁, g, d, tk + 1, os⟩
  refine wpAny_bind (wpAny_mkInt ?_)
  show wpAny _ _ (setField (.ref e) 3 (rawInt ((i : Int) + 1)) >>= _) _ _ ⟨h₁, g, d, tk + 1 + 1, os⟩
  refine wpAny_bind (wpAny_setField_rec he₁ (by simp) fun h₂ he₂ hs₂ => ?_)
  replace hs₂ : Heap.SameBut e h₁ h₂ := hs₂
  replace he₂ : IsEnum h₂ e it ((i : Int) + 1) old := he₂
  show wpAny _ _ (setField (.ref e) 4 .none >>= _) _ _ ⟨h₂, g, d, tk + 1 + 1, os⟩
  refine wpAny_bind (wpAny_setField_rec he₂ (by simp) fun h₃ he₃ hs₃ => ?_)
  replace hs₃ : Heap.SameBut e h₂ h₃ := hs₃
  replace he₃ : IsEnum h₃ e it ((i : Int) + 1) old := he₃
  have hit₃ : h₃.IsStrIter it "str_ascii_iterator" x t (i + 1) := by
    obtain ⟨o, ho, r⟩ := hit₁
    exact ⟨o, hs₃.extBut _ _ hne.symm (hs₂.extBut _ _ hne.symm ho), r⟩
  have hsz : h₃.objs.size = hp.objs.size := by rw [hs₃.1, hs₂.1, hs₁.1]
  have hel : e < hp.objs.size := Heap.lt_size he
  have hk₃ : ∀ b o, b ≠ e → b ≠ it → hp.get? b = some o → h₃.get? b = some o := fun b o hbe hbi hb => hs₃.extBut b o hbe (hs₂.extBut b o hbe (hs₁.extBut b o hbi hb))
  clear hs₁ hs₂ hs₃ he₁ he₂ hit₁
  show wpAny _ _ (newTuple [.int i (tk + 1), .str ⟨#[c]⟩ tk] >>= _) _ _ ⟨h₃, g, d, tk + 1 + 1, os⟩
  refine wpAny_bind (wpAny_newTuple ?_)
  have he₄ : IsEnum (h₃.push { cls := .type "tuple", data := .seq #[.int i (tk + 1), .str ⟨#[c]⟩ tk] }) e it ((i : Int) + 1) old := Heap.get?_push_of_some _ he₃
  have ht₄ : (h₃.push { cls := .type "tuple", data := .seq #[.int i (tk + 1), .str ⟨#[c]⟩ tk] }).get? hp.objs.size = some { cls := .type "tuple", data := .seq #[.int i (tk + 1), .str ⟨#[c]⟩ tk] } := by rw [← hsz]; exact Heap.get?_push_size _ rfl
  have hk₄ : ∀ b o, h₃.get? b = some o → (h₃.push { cls := .type "tuple", data := .seq #[.int i (tk + 1), .str ⟨#[c]⟩ tk] }).get? b = some o := fun b o q => Heap.get?_push_of_some _ q
  show wpAny _ _ (Builtin.SmallTypes.ownedTupleIsFree (.ref e) >>= _) _ _ ⟨h₃.push { cls := .type "tuple", data := .seq #[.int i (tk + 1), .str ⟨#[c]⟩ tk] }, g, d, tk + 1 + 1, os⟩
  rw [hsz]
  generalize h₃.push { cls := .type "tuple", data := .seq #[.int i (tk + 1), .str ⟨#[c]⟩ tk] } = h₄ at he₄ ht₄ hk₄ ⊢
  refine wpAny_bind ?_
  unfold Builtin.SmallTypes.ownedTupleIsFree
  refine wpAny_bind (wpAny_field he₄ rfl (x := .none) rfl (wpAny_pure ?_))
  simp only [if_true]
  refine wpAny_bind (wpAny_rule ?_)
  refine wpAny_bind (wpAny_field he₄ rfl (x := old) rfl ?_)
  refine wpAny_bind (wpAny_setField_rec he₄ (by simp) fun h₅ he₅ hs₅ => ?_)
  replace hs₅ : Heap.SameBut e h₄ h₅ := hs₅
  replace he₅ : IsEnum h₅ e it ((i : Int) + 1) (.str ⟨#[c]⟩ tk) := he₅
  show wpAny _ _ (Builtin.SmallTypes.ownedTupleHandOut (.ref e) (.ref hp.objs.size) >>= _) _ _ ⟨h₅, g, d, tk + 1 + 1, os⟩
  refine wpAny_bind ?_
  unfold Builtin.SmallTypes.ownedTupleHandOut
  refine wpAny_bind (wpAny_setField_rec he₅ (by simp) fun h₆ he₆ hs₆ => ?_)
  replace hs₆ : Heap.SameBut e h₅ h₆ := hs₆
  replace he₆ : IsEnumOut h₆ e it ((i : Int) + 1) (.str ⟨#[c]⟩ tk) hp.objs.size := he₆
  refine wpAny_setField_rec he₆ (by simp) fun h₇ he₇ hs₇ => ?_
  replace hs₇ : Heap.SameBut e h₆ h₇ := hs₇
  have up : ∀ b o, b ≠ e → h₄.get? b = some o → h₇.get? b = some o := fun b o hbe q => hs₇.extBut b o hbe (hs₆.extBut b o hbe (hs₅.extBut b o hbe q))
  refine wpAny_bind (wpAny_letGo (wpAny_pure ⟨_, rfl, wpAny_pure (hQ h₇ he₇ ?_ ?_ ?_)⟩))
  · obtain ⟨o, ho, r⟩ := hit₃
    exact ⟨o, up _ _ hne.symm (hk₄ _ _ ho), r⟩
  · exact up _ _ (Nat.ne_of_gt hel) ht₄
  · exact fun b o hbe hbi hb => up b o hbe (hk₄ b o (hk₃ b o hbe hbi hb))
end
section
variable {prog : Program} {w : World} {A : Around} {E : Value → Shared → Prop} {s : Shared} {env : Env} {h₀ : Heap} {target : PySem.Expr} {body orelse : List Stmt} {Q : Flow → Shared → Prop}
noncomputable def TF (prog : Program) (w : World) (A : Around) (E : Value → Shared → Prop) (h₀ : Heap) (env : Env) (target : PySem.Expr) (body orelse : List Stmt) (Q : Flow → Shared → Prop) (s : Shared) (x : Str) (M : Nat) (news : List (Addr × Obj)) : Nat → Nat → (Str → Option Value) → Prop
  | 0, _, m => ∀ h tk, Fr h₀ env.locals h m → News h₀ env.locals h news → wpAny (model prog w) A (execs orelse env) Q E { s with heap := h, toks := tk }
  | j + 1, i, m => ∀ T t c u h tk own, x.cps[i]? = some c → M ≤ u → IsTup h T #[.int (i : Int) t, .str ⟨#[c]⟩ u] → Fr h₀ env.locals h m → News h₀ env.locals h (own ++ news) →
      wpAny (model prog w) A (assign target env (.ref T)) (fun _ s₂ => wpAny (model prog w) A (execs body env) (fun f s₃ => match f with
        | .ret v => Q (.ret v) s₃
        | .brk => Q .next s₃
        | _ => ∃ h' tk' m', s₃ = { s with heap := h', toks := tk' } ∧ Fr h₀ env.locals h' m' ∧ News h₀ env.locals h' (own ++ news) ∧ TF prog w A E h₀ env target body orelse Q s x M news j (i + 1) m') E s₂) E { s with heap := h, toks := tk }
def SearchAt (prog : Program) (w : World) (A : Around) (h₀ : Heap) (env : Env) (target : PySem.Expr) (body orelse : List Stmt) (Q : Flow → Shared → Prop) (E : Value → Shared → Prop) (v : Value) (s₂ : Shared) : Prop :=
  ∃ (I itr : Addr) (x : Str) (t : Tok) (M : Nat) (m : Str → Option Value) (news : List (Addr × Obj)), v = .ref I ∧ A.handled = none ∧ IsEnum s₂.heap I itr 0 .none ∧ s₂.heap.IsStrIter itr "str_ascii_iterator" x t 0 ∧ I ≠ itr ∧ env.locals ≠ I ∧ env.locals ≠ itr ∧ h₀.get? I = none ∧ h₀.get? itr = none ∧
    (∀ p ∈ news, p.1 ≠ I ∧ p.1 ≠ itr) ∧ M ≤ s₂.toks ∧ Fr h₀ env.locals s₂.heap m ∧ News h₀ env.locals s₂.heap news ∧ TF prog w A E h₀ env target body orelse Q s₂ x M news x.cps.size 0 m
theorem for_search {elts : List PySem.Expr} {ek : Nat} {epos : Pos} {iter : PySem.Expr} {pos : Pos} {m : Str → Option Value} (_F : Fr h₀ env.locals s.heap m)
    (h : wpAny (model prog w) A (eval iter env) (fun xv s₁ => wpAny (model prog w) A (pyIter xv) (fun it s₂ => SearchAt prog w A h₀ env (.Tuple elts ek epos) body orelse Q E it s₂) E s₁) E s)
    (hs : ∀ x, foldedSetIterable iter env x = pure x := by intro _; rfl)
    (hE : PassesOwn (model prog w) A env E := by passes_own) :
    wpAny (model prog w) A (exec (.For (.Tuple elts ek epos) iter body orelse pos) env) Q E s := by
  refine wpAny_For (wpAny_mono h (fun xv s₁ h₁ => wpAny_mono h₁ (fun it s₂ h₂ => ?_) fun _ _ e => e) fun _ _ e => e) hs
  obtain ⟨I, itr, x, t, M, m, news, rfl, hh, he, hit, hne, hLI, hLi, hI₀, hi₀, hnw, hM, F, N, hT⟩ := h₂
  refine codeAny_forLoop_any (fun k s' => ∃ i m' h' tk, i + k = x.cps.size ∧ s' = { s₂ with heap := h', toks := tk } ∧ (∃ old, IsEnum h' I itr i old) ∧ h'.IsStrIter itr "str_ascii_iterator" x t i ∧ M ≤ tk ∧ Fr h₀ env.locals h' m' ∧ News h₀ env.locals h' news ∧ TF prog w A E h₀ env (.Tuple elts ek epos) body orelse Q s₂ x M news k i m') ?_ x.cps.size
    ⟨0, m, s₂.heap, s₂.toks, by omega, rfl, ⟨_, he⟩, hit, hM, F, N, hT⟩
  rintro k s' ⟨i, m', h', tk, hik, rfl, ⟨old, he'⟩, hit', hM', F', N', hT'⟩
  have next : ∀ h₁ : Heap, (∀ b o, b ≠ I → b ≠ itr → h'.get? b = some o → h₁.get? b = some o) → Fr h₀ env.locals h₁ m' ∧ News h₀ env.locals h₁ news := fun h₁ hk₁ =>
    ⟨⟨F'.ns.at' fun o e => hk₁ _ o hLI hLi e, fun b o e => hk₁ b o (fun q => by rw [q, hI₀] at e; cases e) (fun q => by rw [q, hi₀] at e; cases e) (F'.keep b o e), F'.above⟩, fun p hp => ⟨hk₁ _ _ (hnw p hp).1 (hnw p hp).2 (N' p hp).1, (N' p hp).2⟩⟩
  cases k with
  | zero =>
    have hin : i = x.cps.size := by omega
    subst hin
    refine wpAny_pyNext_enum_endD (Draws.strAscii (A := A.in1) hh itr x t) he' hit' fun h₁ hk₁ => ?_
    obtain ⟨F₁, N₁⟩ := next h₁ fun b o _ hb e => hk₁ b o hb e
    exact wpAny_mono (hT' h₁ tk F₁ N₁) (fun f s₃ y => y) hE
  | succ j =>
    obtain ⟨c, hc⟩ : ∃ c, x.cps[i]? = some c := ⟨x.cps[i]'(by omega), Array.getElem?_eq_getElem (by omega)⟩
    refine enum_str_item he' hit' hc hne fun h₁ ho₁ hit₁ hT₁ hk₁ => ?_
    refine wpAny_letOwnedTupleGo_enum ho₁ fun h₂ he₂ hs₂ => ?_
    have he₂' : IsEnum h₂ I itr ((i + 1 : Nat) : Int) (.str ⟨#[c]⟩ tk) := by simpa using he₂
    have hit₂ : h₂.IsStrIter itr "str_ascii_iterator" x t (i + 1) := let ⟨o, ho, r⟩ := hit₁; ⟨o, hs₂.extBut _ _ hne.symm ho, r⟩
    have hTI : h'.objs.size ≠ I := Nat.ne_of_gt (Heap.lt_size he')
    have hT₂ := hs₂.extBut _ _ hTI hT₁
    obtain ⟨F₂, N₂⟩ := next h₂ fun b o hb hb' e => hs₂.extBut b o hb (hk₁ b o hb hb' e)
    obtain ⟨oi, hoi, hoir⟩ := hit₂
    obtain ⟨oe, hoe, hoer⟩ : ∃ oe, h₂.get? I = some oe ∧ ∀ h : Heap, h.get? I = some oe → IsEnum h I itr ((i + 1 : Nat) : Int) (.str ⟨#[c]⟩ tk) := ⟨_, he₂', fun _ e => e⟩
    refine wpAny_mono (wpAny_toks_of (n := M) (show M ≤ tk + 1 + 1 by omega) (hT' h'.objs.size (tk + 1) c tk h₂ (tk + 1 + 1) [(I, oe), (itr, oi)] hc hM' ⟨_, hT₂, rfl, _, rfl⟩ F₂ fun p hp => ?_)) (fun _ s₄ h₄ => wpAny_mono (wpAny_toks_of h₄.1 h₄.2) (fun f s₃ h₃ => ?_) fun e s' h => hE e s' h.2) fun e s' h => hE e s' h.2
    · rcases List.mem_append.mp hp with hp | hp
      · rcases List.mem_cons.mp hp with rfl | hp
        · exact ⟨hoe, hLI.symm, hI₀⟩
        · rw [List.mem_singleton.mp hp]; exact ⟨hoi, hLi.symm, hi₀⟩
      · exact N₂ p hp
    · obtain ⟨hM₃, h₃⟩ := h₃
      have fin : ∀ s₃ : Shared, M ≤ s₃.toks → (∃ h' tk' m', s₃ = { s₂ with heap := h', toks := tk' } ∧ Fr h₀ env.locals h' m' ∧ News h₀ env.locals h' ([(I, oe), (itr, oi)] ++ news) ∧ TF prog w A E h₀ env (.Tuple elts ek epos) body orelse Q s₂ x M news j (i + 1) m') →
          ∃ m, m < j + 1 ∧ ∃ i m' h' tk, i + m = x.cps.size ∧ s₃ = { s₂ with heap := h', toks := tk } ∧ (∃ old, IsEnum h' I itr i old) ∧ h'.IsStrIter itr "str_ascii_iterator" x t i ∧ M ≤ tk ∧ Fr h₀ env.locals h' m' ∧ News h₀ env.locals h' news ∧ TF prog w A E h₀ env (.Tuple elts ek epos) body orelse Q s₂ x M news m i m' := by
        rintro _ hm ⟨h₅, tk₅, m₅, rfl, F₅, N₅, hT₅⟩
        exact ⟨j, by omega, i + 1, m₅, h₅, tk₅, by omega, rfl, ⟨_, hoer _ (N₅ (I, oe) (.head _)).1⟩, ⟨oi, (N₅ (itr, oi) (.tail _ (.head _))).1, hoir⟩, hm, F₅, fun p hp => N₅ p (.tail _ (.tail _ hp)), hT₅⟩
      cases f with
      | ret v => exact h₃
      | brk => exact h₃
      | cont => exact fin _ hM₃ h₃
      | next => exact fin _ hM₃ h₃
theorem tf_state {x : Str} {M : Nat} {news : List (Addr × Obj)} {h' : Heap} : ∀ j i m, TF prog w A E h₀ env target body orelse Q s x M news j i m → TF prog w A E h₀ env target body orelse Q { s with heap := h' } x M news j i m
  | 0, _, _, h => h
  | j + 1, i, m, h => fun T t c u hh tk own hc hu hT F N => wpAny_mono (h T t c u hh tk own hc hu hT F N) (fun _ s₂ h₂ => wpAny_mono h₂ (fun f s₃ h₃ => by
      cases f with
      | ret v => exact h₃
      | brk => exact h₃
      | cont => obtain ⟨a, b, c, e1, e2, e3, e4⟩ := h₃; exact ⟨a, b, c, e1, e2, e3, tf_state _ _ _ e4⟩
      | next => obtain ⟨a, b, c, e1, e2, e3, e4⟩ := h₃; exact ⟨a, b, c, e1, e2, e3, tf_state _ _ _ e4⟩) fun _ _ e => e) fun _ _ e => e
theorem enum_search {elts : List PySem.Expr} {k : Nat} {pos : Pos} {x : Str} {t : Tok} {m : Str → Option Value} {news : List (Addr × Obj)} {M : Nat} (hh : A.handled = none) (F : Fr h₀ env.locals s.heap m) (N : News h₀ env.locals s.heap news) (ha : x.cps.all (· < 128) = true) (hM : M ≤ s.toks)
    (rest : TF prog w A E h₀ env (.Tuple elts k pos) body orelse Q s x M news x.cps.size 0 m) :
    wpAny (model prog w) A (call (.type "enumerate") [.str x t]) (fun xv s₁ => wpAny (model prog w) A (pyIter xv) (fun it s₂ => SearchAt prog w A h₀ env (.Tuple elts k pos) body orelse Q E it s₂) E s₁) E s := by
  have hLs : env.locals < s.heap.objs.size := F.ns.lt
  refine call_enumerate_str fun h' he hit hsz hk => ?_
  have hit' : h'.IsStrIter s.heap.objs.size "str_ascii_iterator" x t 0 := by simpa [strIterType, ha] using hit
  refine wpAny_pyIter_enum he ⟨_, _, x, t, M, m, news, rfl, hh, he, hit', Nat.succ_ne_self _, Nat.ne_of_lt (Nat.lt_succ_of_lt hLs), Nat.ne_of_lt hLs, ktu_new F (Nat.le_succ _), ktu_new F (Nat.le_refl _), fun p hp => ?_, hM, F.keeps hk, N.grown hk, tf_state _ _ _ rest⟩
  have hq := Heap.lt_size (N p hp).1
  exact ⟨Nat.ne_of_lt (Nat.lt_succ_of_lt hq), Nat.ne_of_lt hq⟩
end
section
variable {prog : Program} {w : World} {A : Around} {E : Value → Shared → Prop} {s : Shared} {Q : Value → Shared → Prop} {x y : Str} {t u : Tok}
theorem is_str_ne (hxy : x ≠ y) (ht : t ≠ 0) (hu : u ≠ 0) (htu : t ≠ u) (h : Q (.bool false) s) : wpAny (model prog w) A (compareOp .Is (.str x t) (.str y u)) Q E s := by
  have e : isSame (.str x t) (.str y u) = pure false := by
    show isSame.created (x == y) t u = pure false
    unfold isSame.created
    simp [ht, hu, htu, hxy]
  show wpAny (model prog w) A (do return .bool (← isSame (.str x t) (.str y u))) Q E s
  exact wpAny_bind (wpAny_of_eq e (wpAny_pure h))
theorem is_str_eq (ht : t ≠ 0) (hu : u ≠ 0) (hb : NoneBooked s.heap) (h : ∀ b, Q (.bool b) s) : wpAny (model prog w) A (compareOp .Is (.str x t) (.str y u)) Q E s := by
  show wpAny (model prog w) A (do return .bool (← isSame (.str x t) (.str y u))) Q E s
  refine wpAny_bind ?_
  exact wpAny_isSame_str (by simp [ht, hu]) hb fun b => wpAny_pure (h b)
theorem none_of {K : Frag} {h : Heap} {a : Addr} {mc : Str → Option Value} {n : Str} (X : K.In h) (G : h.Ns a mc) (e : nsIn K a n = some none) : mc n = none := by
  obtain ⟨o, es, ep, ho, hd, _, hf⟩ := G
  unfold nsIn at e
  split at e
  · rename_i c d es' n' sl q
    have := X _ _ q
    rw [ho] at this
    cases this
    cases hd
    split at e
    · cases e
    · rename_i he
      rw [← hf]
      unfold nsFind findBy
      rw [← Array.find?_toList, he]
      rfl
  · cases e
end
end Mine
namespace Mine
def kindOf (x : Str) : Int := if x = Str.ofString "a" then 0 else if x = Str.ofString "A" then 1 else if x = Str.ofString "b" then 2 else 3
theorem aAbB_size : (Str.ofString "aAbB").cps.size = 4 := by decide +kernel
theorem aAbB_at {c i : Nat} (k : Nat) (h : (Str.ofString "aAbB").cps[i]? = some c) (hk : (Str.ofString "aAbB").cps[i]? = some k) : c = k := by
  rw [hk] at h; exact (Option.some.inj h).symm
theorem booked {w : World} {mean : ExcName → Option Value} {mg mb : Str → Option Value} {h : Heap} (X : (hd.heap_39 w.params).In h) (T : Tp mean mg mb h) : NoneBooked h := by
  obtain ⟨mc, hc, _⟩ := T.nodigits
  refine ⟨mc, hc, none_of (K := hd.heap_39 w.params) X hc ?_⟩
  k_is
theorem booked_at {h h' : Heap} {L : Addr} {m : Str → Option Value} (B : NoneBooked h) (F : Fr h L h' m) : NoneBooked h' := by
  obtain ⟨mc, hc, e⟩ := B
  exact ⟨mc, hc.keeps F.keep, e⟩
theorem is_ne {prog : Program} {w : World} {A : Around} {E : Value → Shared → Prop} {s : Shared} {Q : Value → Shared → Prop} {x y : Str} {t u : Tok} {M : Nat} (hxy : x ≠ y) (hu : u ≠ 0 ∧ u < M) (ht : M ≤ t) (h : Q (.bool false) s) : wpAny (model prog w) A (compareOp .Is (.str x t) (.str y u)) Q E s :=
  is_str_ne hxy (Nat.ne_of_gt (Nat.lt_of_le_of_lt (Nat.zero_le u) (Nat.lt_of_lt_of_le hu.2 ht))) hu.1 (Nat.ne_of_gt (Nat.lt_of_lt_of_le hu.2 ht)) h
theorem is_eq {prog : Program} {w : World} {A : Around} {E : Value → Shared → Prop} {s : Shared} {Q : Value → Shared → Prop} {x y : Str} {t u : Tok} {M : Nat} (hu : u ≠ 0 ∧ u < M) (ht : M ≤ t) (hb : NoneBooked s.heap) (h : ∀ b, Q (.bool b) s) : wpAny (model prog w) A (compareOp .Is (.str x t) (.str y u)) Q E s :=
  is_str_eq (Nat.ne_of_gt (Nat.lt_of_le_of_lt (Nat.zero_le u) (Nat.lt_of_lt_of_le hu.2 ht))) hu.1 hb h
theorem eq_str_no {prog : Program} {w : World} {A : Around} {E : Value → Shared → Prop} {s : Shared} {Q : Value → Shared → Prop} {x y : Str} {t u : Tok} (hxy : x ≠ y) (h : Q (.bool false) s) : wpAny (model prog w) A (compareOp .Eq (.str x t) (.str y u)) Q E s :=
  PyProof.Rows.eq_str (by rw [beq_eq_false_iff_ne.mpr hxy]; exact h)
theorem eq_str_yes {prog : Program} {w : World} {A : Around} {E : Value → Shared → Prop} {s : Shared} {Q : Value → Shared → Prop} {x y : Str} {t u : Tok} (hxy : x = y) (h : Q (.bool true) s) : wpAny (model prog w) A (compareOp .Eq (.str x t) (.str y u)) Q E s :=
  PyProof.Rows.eq_str (by rw [hxy, beq_self_eq_true]; exact h)
theorem kind_at {i c : Nat} {x : Str} (hi : i < 4) (hc : (Str.ofString "aAbB").cps[i]? = some c) (h : (⟨#[c]⟩ : Str) = x) : kindOf x = (i : Int) := by
  subst h
  match i, hi with
  | 0, _ => obtain rfl := aAbB_at 97 hc (by decide +kernel); decide +kernel
  | 1, _ => obtain rfl := aAbB_at 65 hc (by decide +kernel); decide +kernel
  | 2, _ => obtain rfl := aAbB_at 98 hc (by decide +kernel); decide +kernel
  | 3, _ => obtain rfl := aAbB_at 66 hc (by decide +kernel); decide +kernel
theorem tf_ind {prog : Program} {w : World} {A : Around} {E : Value → Shared → Prop} {h₀ : Heap} {env : Env} {target : PySem.Expr} {body orelse : List Stmt} {Q : Flow → Shared → Prop} {s : Shared} {x : Str} {M n : Nat} {news : List (Addr × Obj)} {m : Str → Option Value} (P : Nat → (Str → Option Value) → Prop) (hP : P 0 m)
    (turn : ∀ (i : Nat) m' T t c u h tk own, i < n → P i m' → x.cps[i]? = some c → M ≤ u → IsTup h T #[.int (i : Int) t, .str ⟨#[c]⟩ u] → Fr h₀ env.locals h m' → News h₀ env.locals h (own ++ news) →
      wpAny (model prog w) A (assign target env (.ref T)) (fun _ s₂ => wpAny (model prog w) A (execs body env) (fun f s₃ => match f with
        | .ret v => Q (.ret v) s₃
        | .brk => Q .next s₃
        | _ => ∃ h' tk' m', s₃ = { s with heap := h', toks := tk' } ∧ Fr h₀ env.locals h' m' ∧ News h₀ env.locals h' (own ++ news) ∧ P (i + 1) m') E s₂) E { s with heap := h, toks := tk })
    (fin : ∀ m' h tk, P n m' → Fr h₀ env.locals h m' → News h₀ env.locals h news → wpAny (model prog w) A (execs orelse env) Q E { s with heap := h, toks := tk }) :
    TF prog w A E h₀ env target body orelse Q s x M news n 0 m := by
  have key : ∀ (j i : Nat) m', i + j = n → P i m' → TF prog w A E h₀ env target body orelse Q s x M news j i m' := by
    intro j
    induction j with
    | zero => intro i m' e h; exact fun h' tk F N => fin m' h' tk (e ▸ h) F N
    | succ j ih =>
      intro i m' e hp T t c u h tk own hc hu hT F N
      refine wpAny_mono (turn i m' T t c u h tk own (by omega) hp hc hu hT F N) (fun _ s₂ h₂ => wpAny_mono h₂ (fun f s₃ h₃ => ?_) fun _ _ e => e) fun _ _ e => e
      cases f with
      | ret v => exact h₃
      | brk => exact h₃
      | next => obtain ⟨h', tk', m2, e1, F', N', hp'⟩ := h₃; exact ⟨h', tk', m2, e1, F', N', ih (i + 1) m2 (by omega) hp'⟩
      | cont => obtain ⟨h', tk', m2, e1, F', N', hp'⟩ := h₃; exact ⟨h', tk', m2, e1, F', N', ih (i + 1) m2 (by omega) hp'⟩
  exact key n 0 m (Nat.zero_add n) hP
section
local macro_rules | `(tactic| walk_at "compareOp Eq str str") => `(tactic| (refine eq_str_yes (by assumption) ?_))
local macro_rules | `(tactic| walk_at "compareOp Eq str str") => `(tactic| (refine eq_str_no (by assumption) ?_))
local macro_rules | `(tactic| walk_at "execs cons") => `(tactic| (refine wpAny_execs_cons ?_))
local macro_rules | `(tactic| walk_at "Exists") => `(tactic| (refine halt ?_))
local macro_rules | `(tactic| walk_at "call type:enumerate") => `(tactic| (k_here; (with_reducible show wpAny _ _ (call (Value.type _) [Value.str _ _]) (fun xv s₁ => wpAny _ _ (pyIter xv) (fun it s₂ => SearchAt _ _ _ _ _ _ _ _ _ _ it s₂) _ s₁) _ _); refine halt ?_))
local macro_rules | `(tactic| walk_at "compareOp Is str str") => `(tactic| (k_here; (rename Fr _ _ _ _ => lF'); (rename NoneBooked _ => lB'); first
  | (refine is_ne (by assumption) (by assumption) (by assumption) ?_)
  | (refine is_eq (by assumption) (by assumption) (booked_at lB' lF') ?_; intro b; cases b)))
set_option maxHeartbeats 1000000 in
theorem c_index {w : World} {mean : ExcName → Option Value} {mg mb : Str → Option Value} {dp un : Nat} {gd : Option (List Code)} {cn : Str} {cs : Scope} {a : Addr} {ccd : Value} {cl : List (Str × Addr)} {outer : List Env} {A₀ : Around} {base h₀ : Heap} {L : Addr} {m : Str → Option Value} {s : Shared} {Q E : Value → Shared → Prop} {news : List (Addr × Obj)}
    {x : Str} {ta tx : Tok} (C : CC w mean mg mb A₀ base outer h₀ L m s news cs dp un 1) (hx : IsL x) (htx : tx ≠ 0 ∧ tx < s.toks)
    (hret : ∀ (t : Tok) (h' : Heap) (tk' : Nat), Fr h₀ L h' m → News h₀ L h' news → Q (.int (kindOf x) t) { s with heap := h', toks := tk' }) :
    wpAny (model Pg w) (ktrTop dp un gd cn cs L a ccd cl outer) (call (.ref 56) [.str (Str.ofString "aAbB") ta, .str x tx]) Q E s := by
  obtain ⟨B, F, X, N, T, hk, hdp, hun⟩ := C
  refine wpAny_call ?_
  k_dflt cell_enter
  (rename Frag.In _ _ => X1)
  (rename Top _ _ _ _ _ _ => T1)
  have hB := booked X1 T1
  k_steps
  (rename Fr _ _ _ _ => F0)
  with_unfolding_all refine for_search F0 ?_
  k_steps
  refine Halt.go ?_
  (rename Fr _ _ _ _ => F1)
  (rename News _ _ _ _ => N1)
  refine enum_search (M := s.toks) rfl F1 N1 (by decide +kernel) (Nat.le_add_right _ _) ?_
  rw [aAbB_size]
  (try clear F1)
  (try clear N1)
  refine tf_ind (fun i m' => (∀ k c, k < i → (Str.ofString "aAbB").cps[k]? = some c → (⟨#[c]⟩ : Str) ≠ x) ∧ m' (Str.ofString "b") = some (.str x tx)) ⟨fun k c h => absurd h (Nat.not_lt_zero _), rfl⟩ ?_ ?_
  · intro i m' T1 t1 c1 u1 h tk own hi hP hc1 hu1 hT1 F2 N2
    have em : kstB m' [(Str.ofString "b", .str x tx)] = m' := js_map (x := Str.ofString "k") (List.forall_mem_cons.mpr ⟨hP.2, List.forall_mem_nil _⟩)
    rw [← em] at F2
    by_cases hcx : (⟨#[c1]⟩ : Str) = x
    · have hret' := fun t h' tk' a b => kind_at hi hc1 hcx ▸ hret t h' tk' a b
      k_steps
      all_goals cb_end hret'
    · have hcn : (⟨#[c1]⟩ : Str) ≠ x := hcx
      k_steps
      refine Halt.go ?_
      (rename Fr _ _ _ _ => F5)
      (rename News _ _ _ _ => N5)
      refine ⟨_, _, _, rfl, F5, N5, fun k c hk hc => ?_, by with_unfolding_all rfl⟩
      rcases Nat.lt_succ_iff_lt_or_eq.mp hk with hk | rfl
      · exact hP.1 k c hk hc
      · rw [hc1] at hc
        exact Option.some.inj hc ▸ hcx
  · intro m' h tk hP F2 N2
    exfalso
    rcases hx with rfl | rfl | rfl | rfl
    · exact hP.1 0 97 (by decide) (by decide +kernel) (by decide +kernel)
    · exact hP.1 1 65 (by decide) (by decide +kernel) (by decide +kernel)
    · exact hP.1 2 98 (by decide) (by decide +kernel) (by decide +kernel)
    · exact hP.1 3 66 (by decide) (by decide +kernel) (by decide +kernel)
end
end Mine
namespace Mine
open PyProof.Rows.LCg
section
variable {prog : Program} {w : World} {A : Around} {E : Value → Shared → Prop} {s : Shared} {h₀ : Heap} {L : Addr} {m : Str → Option Value} {env : Env}
def CompT (h₀ : Heap) (L : Addr) (m : Str → Option Value) (s : Shared) (I : Addr) (oI : Obj) (C : Addr) (oC : Obj) (D : Addr) (ys : List Value) (news : List (Addr × Obj)) (J : List Value → Nat → Prop) (y : Value) (s₄ : Shared) : Prop :=
  ∃ h' tk', s₄ = { s with heap := h', toks := tk' } ∧ Fr h₀ L h' m ∧ News h₀ L h' ((I, oI) :: (C, oC) :: (D, lst ys) :: news) ∧ J (ys ++ [y]) tk'
def TurnT (prog : Program) (w : World) (A : Around) (h₀ : Heap) (L : Addr) (m : Str → Option Value) (env : Env) (elt : PySem.Expr) (x : Str) (scope : Scope) (cl : List (Str × Addr)) (s : Shared) (news : List (Addr × Obj)) (n : Nat) (P : Nat → Value → Prop) (J : Nat → List Value → Nat → Prop) : Prop :=
  ∀ i v ys I oI C oC D m₂ h tk (E' : Value → Shared → Prop), i < n → P i v → J i ys tk → NsObj oC m₂ → m₂ x = some v → Fr h₀ L h m → News h₀ L h ((I, oI) :: (C, oC) :: (D, lst ys) :: news) → Off3 I C D news → ((@Ne Nat I C) ∧ (@Ne Nat I D) ∧ (@Ne Nat C D)) →
    wpAny (model prog w) A (eval elt (compEnvC scope cl C env)) (CompT h₀ L m s I oI C oC D ys news (J (i + 1))) E' { s with heap := h, toks := tk }
theorem block_T {elt iter : PySem.Expr} {x : Str} {px : Pos} {scope : Scope} {cl : List (Str × Addr)} {pos : Pos} {I : Addr} {fp : List Addr} {n : Nat} {P : Nat → Value → Prop} {St : Nat → Heap → Prop} {news : List (Addr × Obj)}
    {J : Nat → List Value → Nat → Prop} {RR : Value → Addr → Result → Shared → Prop}
    (W : Walks prog w A I fp [I] n P St) (hsz : n ≤ sizeLine) (hIo : ∀ i h, St i h → ∃ o, h.get? I = some o)
    (hSt : ∀ i h h' o, St i h → h.get? I = some o → h'.get? I = some o → (∀ b o, h₀.get? b = some o → h'.get? b = some o) → News h₀ L h' news → St i h')
    (hcell : ∀ y ∈ scope.names, y.2 ≠ .cell) (hkind : scope.kind = .function) (hx : scope.names.lookup x = some .local) (hst : St 0 s.heap) (hfp : ∀ b ∈ fp, b < s.heap.objs.size)
    (F : Fr h₀ L s.heap m) (N : News h₀ L s.heap news) (hIL : L ≠ I) (hI₀ : h₀.get? I = none) (off : ∀ p ∈ news, p.1 ≠ I)
    (hJ : J 0 [] s.toks) (hJm : ∀ i ys a b, a ≤ b → J i ys a → J i ys b) (turn : TurnT prog w A h₀ L m env elt x scope cl s news n P J)
    (hRR : ∀ D C h tk m' ys, Fr h₀ L h m → News h₀ L h ((D, lst ys) :: news) → Off1 D news → h.Ns C m' → h₀.get? C = none → h₀.get? D = none → C ≠ L → D ≠ L → C ≠ D → (∀ p ∈ news, p.1 ≠ C) → ys.length = n → J n ys tk → RR (.ref D) C (.ok .next) { s with heap := h, toks := tk }) :
    wpAny (model prog w) A (newList []) (fun acc s₃ => wpAny (model prog w) A (newFunctionEnv scope env.globals cl [] env.qual none .none (some env)) (fun cenv s₄ =>
      codeAny (model prog w) A (.compStart (.ListComp elt [⟨.Name x px, iter, [], 0⟩] scope pos) 0 (.ref I) acc { cenv with scope := relabel scope env }) (RR acc cenv.locals) s₄) E s₃) E s := by
  refine wpAny_newObj_type (wpAny_newFunctionEnv hcell (by intro y hy; simp at hy) (fun h₁ hns₁ hsb₁ => ?_) hkind)
  dsimp only at hns₁ hsb₁ ⊢
  generalize hH2 : s.heap.push { cls := .type "list", dict := none, data := .seq ([] : List Value).toArray } = H2 at hns₁ hsb₁ ⊢
  have hC : H2.objs.size = s.heap.objs.size + 1 := by rw [← hH2, Heap.size_push]
  have lo : ∀ b, b < s.heap.objs.size → b ≠ H2.objs.size ∧ b ≠ s.heap.objs.size := fun b hb => ⟨by rw [hC]; exact Nat.ne_of_lt (Nat.lt_succ_of_lt hb), Nat.ne_of_lt hb⟩
  have hIf : I ∈ fp := W.sub I (List.mem_singleton.mpr rfl)
  have hDf : s.heap.objs.size ∉ fp := fun hm => Nat.lt_irrefl _ (hfp _ hm)
  have hCf : H2.objs.size ∉ fp := fun hm => by have := hfp _ hm; rw [hC] at this; exact Nat.lt_irrefl _ (Nat.lt_of_succ_lt this)
  have old : ∀ b o, s.heap.get? b = some o → h₁.get? b = some o := fun b o e => hsb₁.extBut b o (lo b (Heap.lt_size e)).1 (Heap.get?_push_of_some _ (hH2 ▸ Heap.get?_push_of_some _ e))
  have hDC : s.heap.objs.size ≠ H2.objs.size := by omega
  have hacc : h₁.get? s.heap.objs.size = some (lst []) := hsb₁.extBut _ _ hDC (Heap.get?_push_of_some _ (hH2 ▸ Heap.get?_push_size _ rfl))
  have fresh₀ : ∀ a, s.heap.objs.size ≤ a → h₀.get? a = none := fun a ha => ktu_new F ha
  have hD₀ := fresh₀ _ (Nat.le_refl s.heap.objs.size)
  have hC₀ := fresh₀ H2.objs.size (by omega)
  have hLlt : L < s.heap.objs.size := F.ns.lt
  have hDL : s.heap.objs.size ≠ L := (lo L hLlt).2.symm
  have hCL : H2.objs.size ≠ L := (lo L hLlt).1.symm
  have hCI : I ≠ H2.objs.size := (lo I (hfp I hIf)).1
  have hDI : I ≠ s.heap.objs.size := (lo I (hfp I hIf)).2
  have off₃ : Off3 I H2.objs.size s.heap.objs.size news := Off3.of fun p hp => ⟨off p hp, lo _ (Heap.lt_size (N p hp).1)⟩
  have loop : ∀ s₃ : Shared, s₃ = { s with heap := h₁, toks := s.toks + ([] : List (Str × Value)).length } →
      codeAny (model prog w) A (.compLoop (.ListComp elt [⟨.Name x px, iter, [], 0⟩] scope pos) 0 (.ref I) (.ref s.heap.objs.size) (compEnvC scope cl H2.objs.size env)) (RR (.ref s.heap.objs.size) H2.objs.size) s₃ := by
    rintro s₃ rfl
    refine codeAny_compLoop_tests
      (fun k s' => ∃ h' tk i ys m', s' = { s with heap := h', toks := tk } ∧ i + k = n + 1 ∧ 0 < k ∧ ys.length = i ∧ St i h' ∧ Fr h₀ L h' m ∧ h'.Ns H2.objs.size m' ∧ News h₀ L h' ((s.heap.objs.size, lst ys) :: news) ∧ J i ys tk) ?_ (n + 1)
      ⟨h₁, _, 0, [], _, rfl, by omega, by omega, rfl, W.frame _ _ _ hst fun b _ o e => old b o e, F.keeps old, hns₁, fun p hp => ?_, hJm _ _ _ _ (Nat.le_add_right _ _) hJ⟩
    · rintro k s' ⟨h', tk, i, ys, m', rfl, hik, hk0, hyl, hst', F', hn', N', hJ'⟩
      by_cases hlt : i < n
      · refine wpAny_with_toks (n := tk) (Nat.le_refl tk) (W.item i _ _ _ hlt hst' fun v h₂ tk₂ hPv hst₂ hk₂ htk₂ => ?_)
        refine wpAny_assign_Name (wpAny_storeName_local (lookup_relabel_local hx) (hn'.at' fun o e => hk₂ _ o (by simpa using Ne.symm hCI) e) (fun h₃ hn₃ hs₃ => ?_) (by simp [compEnvC, relabel, hkind]))
        refine wpAny_tests_nil ?_
        simp only [if_true]
        have hst₃ : St (i + 1) h₃ := W.frame _ _ _ hst₂ fun b hb o e => hs₃.extBut b o (fun (q : b = H2.objs.size) => hCf (q ▸ hb)) e
        obtain ⟨oI, heI⟩ := hIo _ _ hst₃
        obtain ⟨oC, heC, hoC⟩ := ns_obj hn₃
        have F₃ : Fr h₀ L h₃ m := (fr_but F' hk₂ hIL hI₀).change hs₃ hCL hC₀
        have offm := off₃.mem
        have N₂ : News h₀ L h₂ ((s.heap.objs.size, lst ys) :: news) := news_but N' hk₂ fun p hp => by
          rcases List.mem_cons.mp hp with rfl | hp
          · exact hDI.symm
          · exact (offm p hp).1
        have N₃ : News h₀ L h₃ ((I, oI) :: (H2.objs.size, oC) :: (s.heap.objs.size, lst ys) :: news) := fun p hp => by
          rcases List.mem_cons.mp hp with rfl | hp
          · exact ⟨heI, hIL.symm, hI₀⟩
          rcases List.mem_cons.mp hp with rfl | hp
          · exact ⟨heC, hCL, hC₀⟩
          have z := N₂ p hp
          refine ⟨hs₃.extBut _ _ ?_ z.1, z.2⟩
          rcases List.mem_cons.mp hp with rfl | hp
          · exact hDC
          · exact (offm p hp).2.1
        refine wpAny_mono (turn i v ys I oI H2.objs.size oC s.heap.objs.size _ h₃ _ _ hlt hPv (hJm _ _ _ _ (Nat.le_succ_of_le htk₂) hJ') hoC (by simp) F₃ N₃ off₃ ⟨hCI, hDI, hDC.symm⟩) (fun y s₄ h₄ => ?_) fun _ _ e => e
        obtain ⟨h₄, tk₄, rfl, F₄, N₄, hJ₄⟩ := h₄
        have zI := (N₄ (I, oI) (.head _)).1
        have zC := (N₄ (H2.objs.size, oC) (.tail _ (.head _))).1
        have zD := (N₄ (s.heap.objs.size, lst ys) (.tail _ (.tail _ (.head _)))).1
        have N₄' : News h₀ L h₄ news := fun p hp => N₄ p (.tail _ (.tail _ (.tail _ hp)))
        have hst₄ : St (i + 1) h₄ := hSt _ _ _ _ hst₃ heI zI F₄.keep N₄'
        refine append_at (hsz := by show ys.toArray.size ≤ sizeLine; rw [List.size_toArray, hyl]; omega) zD fun h₅ hs₅ hD₅ => ?_
        refine ⟨k - 1, by omega, h₅, tk₄, i + 1, ys ++ [y], _, rfl, by omega, by omega, by rw [List.length_append, List.length_singleton, hyl], W.frame _ _ _ hst₄ fun b hb o e => hs₅.extBut b o (fun q => hDf (q ▸ hb)) e, F₄.change hs₅ hDL hD₀,
          (hoC.ns zC).sameBut hs₅ hDC.symm, fun p hp => ?_, hJ₄⟩
        rcases List.mem_cons.mp hp with rfl | hp
        · exact ⟨hD₅.trans (congrArg some (lst_snoc ys y)), hDL, hD₀⟩
        · exact ⟨hs₅.extBut _ _ (offm p hp).2.2 (N₄' p hp).1, (N₄' p hp).2⟩
      · obtain rfl : i = n := by omega
        refine wpAny_with_toks (n := tk) (Nat.le_refl tk) (W.done _ _ _ hst' fun h₂ tk₂ hk₂ htk₂ => ?_)
        have offm := off₃.mem
        exact hRR _ _ h₂ tk₂ _ ys (fr_but F' hk₂ hIL hI₀) (news_but N' hk₂ fun p hp => by
          rcases List.mem_cons.mp hp with rfl | hp
          · exact hDI.symm
          · exact (offm p hp).1) off₃.one (hn'.at' fun o e => hk₂ _ o (by simpa using Ne.symm hCI) e) hC₀ hD₀ hCL hDL hDC.symm (fun p hp => (offm p hp).2.1) hyl (hJm _ _ _ _ htk₂ hJ')
    · rcases List.mem_cons.mp hp with rfl | hp
      · exact ⟨hacc, hDL, hD₀⟩
      · exact ⟨old _ _ (N p hp).1, (N p hp).2⟩
  exact codeAny_compStart_list (loop _ rfl) (W.self 0 _ _ _ (W.frame _ _ _ hst fun b _ o e => old b o e) (loop _ rfl))

theorem comp_done {C D : Addr} {h : Heap} {m' : Str → Option Value} {news : List (Addr × Obj)} {ys : List Value} (F : Fr h₀ L h m) (N : News h₀ L h ((D, lst ys) :: news)) (hn : h.Ns C m') (hC₀ : h₀.get? C = none) (hCL : C ≠ L) (hCD : C ≠ D) (offC : ∀ p ∈ news, p.1 ≠ C) {h'' : Heap} (hs : Heap.SameBut C h h'') :
    Fr h₀ L h'' m ∧ News h₀ L h'' ((D, lst ys) :: news) := by
  refine ⟨F.change hs hCL hC₀, fun p hp => ⟨hs.extBut _ _ ?_ (N p hp).1, (N p hp).2⟩⟩
  rcases List.mem_cons.mp hp with rfl | hp
  · exact hCD.symm
  · exact offC p hp

theorem comp_range {elt iter : PySem.Expr} {x : Str} {px : Pos} {scope : Scope} {cl : List (Str × Addr)} {pos : Pos} {Q : Value → Shared → Prop} {n : Nat} {J : Nat → List Value → Nat → Prop} (_F : Fr h₀ L s.heap m)
    (hclos : closureFor scope env = pure cl) (hcell : ∀ y ∈ scope.names, y.2 ≠ .cell) (hkind : scope.kind = .function)
    (hnames : ∀ y ∈ scope.names, y.2 = .local → scope.names.lookup y.1 = some .local) (hx : scope.names.lookup x = some .local)
    (h : wpAny (model prog w) A (eval iter env) (fun xv s₁ => ∃ r a b t u v news, xv = .ref r ∧ A.handled = none ∧ Fr h₀ L s₁.heap m ∧ News h₀ L s₁.heap news ∧ IsRange s₁.heap r a b 1 t u v ∧ Builtin.Range.small a b 1 = true ∧ Builtin.Range.rangeSize a b 1 = ((n : Nat) : Int) ∧ n ≤ sizeLine ∧
      J 0 [] s₁.toks ∧ (∀ i ys a b, a ≤ b → J i ys a → J i ys b) ∧ TurnT prog w A h₀ L m env elt x scope cl s₁ news n (fun i v => ∃ t, v = .int (a + (i : Int)) t) J ∧
      (∀ D ys h tk, Fr h₀ L h m → News h₀ L h ((D, lst ys) :: news) → Off1 D news → ys.length = n → J n ys tk → Q (.ref D) { s₁ with heap := h, toks := tk })) E s)
    (hs : ∀ x, foldedSetIterable iter env x = pure x := by intro _; rfl) :
    wpAny (model prog w) A (eval (.ListComp elt [⟨.Name x px, iter, [], 0⟩] scope pos) env) Q E s := by
  rw [eval_ListComp]
  refine wpAny_comprehension_free (use := none) rfl hs hclos hkind hnames (wpAny_mono h (fun xv s₁ h₁ => ?_) fun _ _ e => e)
  obtain ⟨r, a, b, t, u, v, news, rfl, hh, F, N, hr, hsm, hn, hsz, hJ, hJm, turn, fin⟩ := h₁
  refine wpAny_pyIter_range hr hsm ?_
  have up : ∀ b o, s₁.heap.get? b = some o → (s₁.heap.push { cls := .type "range_iterator", data := .fields #[.int a 0, .int (Builtin.Range.rangeSize a b 1) 0, .int 1 0] }).get? b = some o := fun b o e => Heap.get?_push_of_some _ e
  refine block_T (range_walks hh a n) hsz (fun i h st => ⟨_, st⟩) (fun i h h' o st e e' _ _ => range_st (h₀ := h₀) (L := L) i h h' o [] st e e' (by assumption) News.nil trivial) hcell hkind hx (by show IsRangeIter _ _ _ _ _; rw [hn]; simpa using Heap.get?_push_size _ rfl) (fun b hb => ?_)
      (F.keeps fun _ _ e => Heap.get?_push_of_some _ e) (N.grown fun _ _ e => Heap.get?_push_of_some _ e) (Nat.ne_of_lt F.ns.lt) (next_is_new F) (fun p hp => Nat.ne_of_lt (Heap.lt_size (N p hp).1)) hJ hJm turn ?_
  · rw [List.mem_singleton.mp hb]
    show s₁.heap.objs.size < (s₁.heap.push _).objs.size
    rw [Heap.size_push]; exact Nat.lt_succ_self _
  · intro D C h tk m' ys F' N' o1 hn hC₀ hD₀ hCL hDL hCD offC hyl hJ'
    refine ⟨m', hn, fun h'' hs'' => ?_⟩
    obtain ⟨F'', N''⟩ := comp_done F' N' hn hC₀ hCL hCD offC hs''
    exact fin D ys h'' tk F'' N'' o1 hyl hJ'
end
end Mine
namespace Mine
open PySem.Builtin
theorem md_get_slot : Slot "method_descriptor" "__get__" "method_descriptor.__get__" :=
  .of (owner := "method_descriptor") (n := "__get__") (by rw [typeLookup_type, builtinLookup_eq_fast]; kernel_rfl) (by decide +kernel) (by decide +kernel) (by decide +kernel)
    (by first | exact .inl (by decide +kernel) | exact .inr (by decide +kernel)) (by rw [isSubtype_type]; kernel_rfl)
theorem md_get_entry : entryFor table "method_descriptor.__get__" = some Builtin.«method_descriptor.__get__» := entryFor_of_tree (by kernel_rfl)
theorem md_get_args (a b c : Value) : argsOk "method_descriptor.__get__" ⟨[a, b, c], []⟩ := by unfold argsOk; kernel_rfl
theorem md_no_set : typeLookup (.type "method_descriptor") "__set__" = pure none := by rw [typeLookup_type, builtinLookup_eq_fast]; kernel_rfl
theorem md_no_delete : typeLookup (.type "method_descriptor") "__delete__" = pure none := by rw [typeLookup_type, builtinLookup_eq_fast]; kernel_rfl
theorem li_lookup : typeLookup (.type "list") "__getitem__" = pure (some (.builtin "list.__getitem__")) := slot_list_getitem.lookup
theorem li_type : typeOf (.builtin "list.__getitem__") = pure (.type "method_descriptor") := by show builtinType _ = _; rw [builtinType_eq_fast]; kernel_rfl
theorem gi_owner : (".".intercalate ("list.__getitem__".cutAt '.').dropLast) = "list" := by
  have e0 : "list.__getitem__".cutAt '.' = ["list", "__getitem__"] := by first | rfl | decide +kernel
  rw [e0]; decide +kernel
theorem gi_sub : isSubtype (.type "list") (.type (".".intercalate ("list.__getitem__".cutAt '.').dropLast)) = pure true := by
  rw [gi_owner, isSubtype_type]; kernel_rfl
section
variable {prog : Program} {w : World} {A : Around} {E : Value → Shared → Prop} {h : Heap} {g : Array GenState} {d : Drawn} {t : Nat} {os : OsState} {a : Addr} {o : Obj}
theorem gi_get {R : Result → Shared → Prop} (hx : h.get? a = some o) (hc : o.cls = .type "list") (hq : ∀ h' l, (∀ b o, h.get? b = some o → h'.get? b = some o) → R (.ok (.ret (.ref l))) ⟨h', g, d, t, os⟩) :
    codeAny (model prog w) A (.call (.builtin "method_descriptor.__get__") ⟨[.builtin "list.__getitem__", .ref a, .type "list"], []⟩) R ⟨h, g, d, t, os⟩ := by
  have hT : (⟨h, g, d, t, os⟩ : Shared).TypeIs (.ref a) "list" := ⟨_, hx, hc⟩
  have hT5 : (⟨h, g, d, t, os⟩ : Shared).TypeIs (.builtin "list.__getitem__") "method_descriptor" := li_type
  refine codeAny_call_builtin md_get_slot.plain md_get_entry (md_get_slot.check _ _ _ _ _ _ _ _ hT5 (md_get_args _ _ _) ?_)
  have f9 := gi_sub
  repeat (any_goals (first | assumption | wp_step))
  exact hq _ _ fun b o e => Heap.get?_push_of_some _ e
theorem gi_entry {tk : Tok} {Q : Fin → Shared → Prop} (hx : h.get? a = some o) (hc : o.cls = .type "list") (hd : o.dict = none) (hdat : ∃ its n, o.data = .seq its n) (hq : ∀ h' l, (∀ b o, h.get? b = some o → h'.get? b = some o) → Q (.done (.ret (.ref l))) ⟨h', g, d, t, os⟩) :
    wpAny (model prog w) A (Builtin.«object.__getattribute__» ⟨[.ref a, .str "__getitem__" tk], []⟩) Q E ⟨h, g, d, t, os⟩ := by
  have hT : (⟨h, g, d, t, os⟩ : Shared).TypeIs (.ref a) "list" := ⟨_, hx, hc⟩
  have hT5 : (⟨h, g, d, t, os⟩ : Shared).TypeIs (.builtin "list.__getitem__") "method_descriptor" := li_type
  obtain ⟨oc, od, odat, osl⟩ := o
  obtain ⟨its, n, hdat⟩ := hdat
  dsimp only at hc hd hdat
  subst hc hd hdat
  have f4 := li_lookup
  have f5 := li_type
  have f6 := md_get_slot.lookup
  have f7 := md_no_set
  have f8 := md_no_delete
  repeat (any_goals (first | assumption | wp_step))
  refine gi_get hx rfl fun h' l k => ?_
  exact wpAny_pure (hq h' l k)
theorem gi_call {tk : Tok} {R : Result → Shared → Prop} (hx : h.get? a = some o) (hc : o.cls = .type "list") (hd : o.dict = none) (hdat : ∃ its n, o.data = .seq its n) (hq : ∀ h' l, (∀ b o, h.get? b = some o → h'.get? b = some o) → R (.ok (.ret (.ref l))) ⟨h', g, d, t, os⟩) :
    codeAny (model prog w) A (.call (.builtin "list.__getattribute__") ⟨[.ref a, .str "__getitem__" tk], []⟩) R ⟨h, g, d, t, os⟩ :=
  codeAny_call_builtin F.slot_list_getattribute.plain F.entry_list_ga (F.slot_list_getattribute.check _ _ _ _ _ _ _ _ (show (⟨h, g, d, t, os⟩ : Shared).TypeIs (.ref a) "list" from ⟨_, hx, hc⟩) (F.args_list_getattribute_2 _ _) (gi_entry hx hc hd hdat hq))
theorem gi_by {tk : Tok} {Q : Value → Shared → Prop} (hx : h.get? a = some o) (hc : o.cls = .type "list") (hd : o.dict = none) (hdat : ∃ its n, o.data = .seq its n) (hq : ∀ h' l, (∀ b o, h.get? b = some o → h'.get? b = some o) → Q (.ref l) ⟨h', g, d, t, os⟩) : wpAny (model prog w) A (getAttrBy (.ref a) (.str "__getitem__" tk) false) Q E ⟨h, g, d, t, os⟩ := by
  have hT : (⟨h, g, d, t, os⟩ : Shared).TypeIs (.ref a) "list" := ⟨_, hx, hc⟩
  have f2 := F.slot_list_getattribute.lookup
  have f3 := F.slot_list_getattribute.bind (.ref a)
  repeat (any_goals (first | assumption | wp_step))
  refine gi_call hx hc hd hdat fun h' l k => ?_
  repeat (any_goals (first | assumption | wp_step))
  exact hq h' l k
theorem hasattr_entry : entryFor table "hasattr" = some Builtin.«hasattr» := entryFor_of_tree (by kernel_rfl)
theorem list_getattribute : typeLookup (.type "list") "__getattribute__" = pure (some (.builtin "list.__getattribute__")) := F.slot_list_getattribute.lookup
theorem hasattr_body {tk : Tok} {Q : Fin → Shared → Prop} (hx : h.get? a = some o) (hc : o.cls = .type "list") (hd : o.dict = none) (hdat : ∃ its n, o.data = .seq its n) (hq : ∀ h', (∀ b o, h.get? b = some o → h'.get? b = some o) → Q (.done (.ret (.bool true))) ⟨h', g, d, t, os⟩) :
    wpAny (model prog w) A (Builtin.«hasattr» ⟨[.ref a, .str "__getitem__" tk], []⟩) Q E ⟨h, g, d, t, os⟩ := by
  have hT : (⟨h, g, d, t, os⟩ : Shared).TypeIs (.ref a) "list" := ⟨_, hx, hc⟩
  have f2 := list_getattribute
  have f4 := li_lookup
  have f5 : isSubtype (.type "list") (.type "module") = pure false := by rw [isSubtype_type]; kernel_rfl
  repeat (any_goals (first | assumption | with_reducible refine gi_by hx hc hd hdat (fun h' l k => ?_) | wp_step))
  exact hq h' k
theorem hasattr_list {s : Shared} {l : Addr} {its : Array Value} {n : Nat} {tk : Tok} {Q : Value → Shared → Prop} (hx : s.heap.get? l = some (listOf its n))
    (hq : ∀ h', (∀ b o, s.heap.get? b = some o → h'.get? b = some o) → Q (.bool true) { s with heap := h' }) :
    wpAny (model prog w) A (call (.builtin "hasattr") [.ref l, .str "__getitem__" tk]) Q E s := by
  obtain ⟨h, g, d, t, os⟩ := s
  refine call_function_entry (by decide +kernel) (by decide +kernel) hasattr_entry (by unfold argsOk; kernel_rfl) ?_
  exact hasattr_body hx rfl rfl ⟨_, _, rfl⟩ fun h' k => ⟨_, rfl, hq h' k⟩
end
end Mine
namespace Mine
theorem nil_of {h₀ h : Heap} {L : Addr} {m : Str → Option Value} (_F : Fr h₀ L h m) : News h₀ L h [] := News.nil
section
local macro_rules | `(tactic| walk_at "LeaveK ref") => `(tactic| (refine halt ?_))
set_option maxHeartbeats 400000 in
theorem c_concat {w : World} {mean : ExcName → Option Value} {mg mb : Str → Option Value} {dp un : Nat} {gd : Option (List Code)} {cn : Str} {cs : Scope} {a : Addr} {ccd : Value} {cl : List (Str × Addr)} {outer : List Env} {A₀ : Around} {base h₀ : Heap} {L : Addr} {m : Str → Option Value} {s : Shared} {Q E : Value → Shared → Prop} {news : List (Addr × Obj)} {la lb : Addr} {na : Nat} {va vb : List Value}
    (C : CC w mean mg mb A₀ base outer h₀ L m s news cs dp un 1)
    (hla : s.heap.get? la = some (listOf va.toArray na)) (hna : va.length ≤ 100) (hlb : s.heap.IsList lb vb.toArray) (hnb : vb.length ≤ 100)
    (hret : ∀ (l : Addr) (n : Nat) (h' : Heap) (tk' : Nat), Fr h₀ L h' m → News h₀ L h' ((l, listOf (va ++ vb).toArray n) :: news) → (∀ p ∈ news, p.1 ≠ l) → (∀ b o, s.heap.get? b = some o → h'.get? b = some o) → Q (.ref l) { s with heap := h', toks := tk' }) :
    wpAny (model Pg w) (ktrTop dp un gd cn cs L a ccd cl outer) (call (.ref 49) [.ref la, .ref lb]) Q E s := by
  obtain ⟨B, F, X, N, T, hk, hdp, hun⟩ := C
  refine wpAny_call ?_
  k_dflt ktr_enter
  rename GSub _ _ _ => GS
  have hla' := isl_of GS (⟨_, hla, rfl, _, rfl⟩ : s.heap.IsList la va.toArray)
  have hla2 := GS la _ hla (by simp)
  have hlb' := isl_of GS hlb
  have hback : ∀ (l : Addr) (o : Obj) (L' : Addr) (m' : Str → Option Value) (h' : Heap) , Fr _ L' h' m' → News _ L' h' [(l, o)] → Fr h₀ L h' m ∧ (News h₀ L h' ((l, o) :: news) ∧ ∀ p ∈ news, p.1 ≠ l) ∧ (∀ b o, s.heap.get? b = some o → h'.get? b = some o) := fun l o L' m' h' F' N' => ⟨fr_back F (keep_of GS F'), news_back F N GS (keep_of GS F') N', keep_of GS F'⟩
  clear F N B X T hla hlb
  k_steps
  (rename Fr _ _ _ _ => F5)
  refine hasattr_list (F5.keep _ _ hla2) ?_
  intro h9 hk9
  have F9 := fr_back F5 hk9
  have N9 := nil_of F9
  clear F5
  dsimp only
  (try k_fold)
  k_steps
  refine Halt.go ?_
  (rename Fr _ _ _ _ => F5)
  (rename News _ _ _ _ => N5)
  obtain ⟨f1, ⟨n1, ne⟩, kp⟩ := hback _ _ _ _ _ F5 N5
  exact ⟨_, _, _, F5, N5, fun _ _ => hret _ _ _ _ f1 n1 ne kp⟩
end
end Mine
local macro_rules | `(tactic| regstrif_slice) => `(tactic| (refine' ⟨?k1, ?k2, ?k3, ?k4, ?k5, ?k6, ?k9, ?k10⟩; (case k1 => k_asm); (case k2 => k_asm); (case k3 => k_asm); (case k4 => k_asm); (case k5 => k_asm); (case k6 => first | exact rfl | assumption); (case k9 => ktr_room); (case k10 => ktr_units)))
local macro_rules | `(tactic| regstrif_gather) => `(tactic| (intro t9 h9 tk9 F9 N9; (try dsimp only); (try k_fold)))
local macro_rules | `(tactic| walk_at "pyIter ref") => `(tactic| (refine Mine.halt ?_))
local macro_rules | `(tactic| walk_at "LeaveK ref") => `(tactic| (refine Mine.halt ?_))
local macro_rules | `(tactic| walk_at "LeaveK int") => `(tactic| (refine Mine.halt ?_))
local macro_rules | `(tactic| walk_at "InvEndN") => `(tactic| (refine Mine.halt ?_))
local macro_rules | `(tactic| walk_at "call ref") => `(tactic| (refine Mine.halt ?_))
namespace Mine
def at_ (xs : List Str) (i : Nat) : Str := xs.getD i Str.empty
noncomputable def priceN (xs : List Str) (t : Nat) : Int := sumN (fun p => cost (at_ xs p) (at_ xs ((p + t) % 12))) 12
section
variable {prog : Program} {w : World} {A : Around} {E : Value → Shared → Prop} {s : Shared} {env : Env} {h₀ : Heap} {body : List Stmt} {Q : Flow → Shared → Prop}
theorem prices_outer {r lp lr : Addr} {t₀ u₀ v₀ : Tok} {m₀ : Str → Option Value} {nn : Nat} (g : Nat → Int)
    (hh : A.handled = none) (hr : IsRange s.heap r 0 12 1 t₀ u₀ v₀) (F : Fr h₀ env.locals s.heap m₀) (N : News h₀ env.locals s.heap [(lp, listOf #[] nn)])
    (h1 : m₀ (Str.ofString "prices") = some (.ref lp)) (h2 : m₀ (Str.ofString "ring") = some (.ref lr))
    (turn : ∀ (vs : Array Value) (n i : Nat) t (u : Str → Option Value) h tk own, i < 12 → OwnOff own [lp] → IntsAre vs.toList (listN g i) → vs.size = i →
      Fr h₀ env.locals h (fun y => if y = Str.ofString "turn" then some (.int (0 + (i : Int)) t) else kstB u [(Str.ofString "prices", .ref lp), (Str.ofString "ring", .ref lr)] y) → News h₀ env.locals h ((lp, listOf vs n) :: own) →
      wpAny (model prog w) A (execs body env) (InvPostN h₀ env.locals (JS (fun c : Array Value × Nat => [(lp, listOf c.1 c.2)]) (fun _ => [(Str.ofString "prices", .ref lp), (Str.ofString "ring", .ref lr)]) (fun i c => IntsAre c.1.toList (listN g i) ∧ c.1.size = i) (i + 1)) own [lp] { s with heap := h, toks := tk } Q) E { s with heap := h, toks := tk })
    (done : ∀ (vs : Array Value) (n : Nat) (u : Str → Option Value) h tk, IntsAre vs.toList (listN g 12) → vs.size = 12 → Fr h₀ env.locals h (kstB u [(Str.ofString "prices", .ref lp), (Str.ofString "ring", .ref lr)]) → News h₀ env.locals h [(lp, listOf vs n)] → Q .next { s with heap := h, toks := tk }) :
    wpAny (model prog w) A (pyIter (.ref r)) (fun it s₂ => LoopAtV prog w A h₀ env (Str.ofString "turn") body Q E it s₂) E s := by
  refine my_range (n := 12) (fun c : Array Value × Nat => [(lp, listOf c.1 c.2)]) (fun _ => [(Str.ofString "prices", .ref lp), (Str.ofString "ring", .ref lr)]) (fun i c => IntsAre c.1.toList (listN g i) ∧ c.1.size = i) (#[], nn) hh hr (by decide) (by rfl) F N (by simp [h1, h2]) ⟨.nil, rfl⟩ ?_ ?_
  · rintro ⟨vs, n⟩ i t u h tk own hi ho ⟨hI, hz⟩ F N
    exact turn vs n i t u h tk own hi ho hI hz F N
  · rintro ⟨vs, n⟩ u h tk ⟨hI, hz⟩ F N
    exact done vs n u h tk hI hz F N
theorem prices_inner {r lp lr : Addr} {t₀ u₀ v₀ : Tok} {m₀ : Str → Option Value} {o : Obj} {own : List (Addr × Obj)} {turn : Int} {tt tz : Tok} (g : Nat → Int)
    (hh : A.handled = none) (hr : IsRange s.heap r 0 12 1 t₀ u₀ v₀) (F : Fr h₀ env.locals s.heap m₀) (N : News h₀ env.locals s.heap ((lp, o) :: own))
    (h1 : m₀ (Str.ofString "prices") = some (.ref lp)) (h2 : m₀ (Str.ofString "ring") = some (.ref lr)) (h3 : m₀ (Str.ofString "turn") = some (.int turn tt)) (h4 : m₀ (Str.ofString "price") = some (.int 0 tz))
    (turn_ : ∀ (S : Int) (tp : Tok) (i : Nat) t (u : Str → Option Value) h tk own', i < 12 → S = sumN g i → OwnOff own' (lp :: own.map (·.1)) →
      Fr h₀ env.locals h (fun y => if y = Str.ofString "place" then some (.int (0 + (i : Int)) t) else kstB u [(Str.ofString "prices", .ref lp), (Str.ofString "ring", .ref lr), (Str.ofString "turn", .int turn tt), (Str.ofString "price", .int S tp)] y) → News h₀ env.locals h ((lp, o) :: (own ++ own')) →
      wpAny (model prog w) A (execs body env) (InvPostN h₀ env.locals (JS (fun _ : Int × Tok => (lp, o) :: own) (fun c => [(Str.ofString "prices", .ref lp), (Str.ofString "ring", .ref lr), (Str.ofString "turn", .int turn tt), (Str.ofString "price", .int c.1 c.2)]) (fun i c => c.1 = sumN g i) (i + 1)) own' (lp :: own.map (·.1)) { s with heap := h, toks := tk } Q) E { s with heap := h, toks := tk })
    (done : ∀ (tp : Tok) (u : Str → Option Value) h tk, Fr h₀ env.locals h (kstB u [(Str.ofString "prices", .ref lp), (Str.ofString "ring", .ref lr), (Str.ofString "turn", .int turn tt), (Str.ofString "price", .int (sumN g 12) tp)]) → News h₀ env.locals h ((lp, o) :: own) → Q .next { s with heap := h, toks := tk }) :
    wpAny (model prog w) A (pyIter (.ref r)) (fun it s₂ => LoopAtV prog w A h₀ env (Str.ofString "place") body Q E it s₂) E s := by
  refine my_range (n := 12) (fun _ : Int × Tok => (lp, o) :: own) (fun c => [(Str.ofString "prices", .ref lp), (Str.ofString "ring", .ref lr), (Str.ofString "turn", .int turn tt), (Str.ofString "price", .int c.1 c.2)]) (fun i c => c.1 = sumN g i) (0, tz) hh hr (by decide) (by rfl) F N (by simp [h1, h2, h3, h4]) rfl ?_ ?_
  · rintro ⟨S, tp⟩ i t u h tk own' hi ho hS F N
    exact turn_ S tp i t u h tk own' hi hS ho F N
  · rintro ⟨S, tp⟩ u h tk hS F N
    have hS' : S = sumN g 12 := hS
    subst hS'
    exact done tp u h tk F N
end
theorem isL_at {xs : List Str} (h : ∀ x ∈ xs, IsL x) (hl : xs.length = 12) {k : Int} (h0 : 0 ≤ k) (h1 : k < 12) : IsL (xs.getD k.toNat Str.empty) := by
  have hk : k.toNat < xs.length := by omega
  rw [List.getD_eq_getElem?_getD, List.getElem?_eq_getElem hk]
  exact h _ (List.getElem_mem hk)
theorem price_step {xs : List Str} {S : Int} {i j : Nat} (hS : S = sumN (fun p => cost (at_ xs p) (at_ xs ((p + i) % 12))) j) :
    S + cost (xs.getD (0 + (j : Int)).toNat Str.empty) (xs.getD (Int.fmod (0 + (j : Int) + (0 + (i : Int))) 12).toNat Str.empty) = sumN (fun p => cost (at_ xs p) (at_ xs ((p + i) % 12))) (j + 1) := by
  have e1 : (0 + (j : Int)).toNat = j := by omega
  have e2 : (Int.fmod (0 + (j : Int) + (0 + (i : Int))) 12).toNat = (j + i) % 12 := by
    rw [Int.fmod_eq_emod_of_nonneg _ (by decide)]; omega
  rw [e1, e2, hS]
  rfl
section
local macro_rules | `(tactic| walk_at "subscriptTail") => `(tactic| (k_here; (with_reducible show wpAny _ _ (subscriptTail _ _ (Value.ref _) (Value.int (Int.fmod _ _) _)) _ _ _); k_dflt (refine' item_ring ?k1 ?k2 ?k3 ?_ ?k4; (case k1 => is_list); (case k2 => assumption); (case k3 => assumption); (case k4 => with_unfolding_all rfl); k_whole); intro _))
local macro_rules | `(tactic| size_fits) => `(tactic| (rw [PySem.sizeLine_eq]; omega))
local macro_rules | `(tactic| walk_at "InvEndN cons") => `(tactic| (refine halt ?_))
set_option maxHeartbeats 1000000 in
theorem c_prices {w : World} {mean : ExcName → Option Value} {mg mb : Str → Option Value} {dp un : Nat} {gd : Option (List Code)} {cn : Str} {cs : Scope} {a : Addr} {ccd : Value} {cl : List (Str × Addr)} {outer : List Env} {A₀ : Around} {base h₀ : Heap} {L : Addr} {m : Str → Option Value} {s : Shared} {Q E : Value → Shared → Prop} {news : List (Addr × Obj)} {lr : Addr} {vs : List Value} {xs : List Str}
    (B : Below A₀ base outer h₀) (F : Fr h₀ L s.heap m) (X : (hd.heap_39 w.params).In h₀) (N : News h₀ L s.heap news) (T : Tp mean mg mb h₀) (hk : cs.kind = .function) (hdp : dp + 2 < recursionLimit) (hun : un + 16 < cLine)
    (hl : s.heap.IsList lr vs.toArray) (hi : StrsAre vs xs) (hlen : xs.length = 12) (hL : ∀ x ∈ xs, IsL x)
    (hret : ∀ (l : Addr) (vs' : Array Value) (n : Nat) (h' : Heap) (tk' : Nat), Fr h₀ L h' m → News h₀ L h' ((l, listOf vs' n) :: news) → (∀ p ∈ news, p.1 ≠ l) → IntsAre vs'.toList (listN (priceN xs) 12) → (∀ b o, s.heap.get? b = some o → h'.get? b = some o) → Q (.ref l) { s with heap := h', toks := tk' }) :
    wpAny (model Pg w) (ktrTop dp un gd cn cs L a ccd cl outer) (call (.ref 75) [.ref lr]) Q E s := by
  refine wpAny_call ?_
  k_dflt ktr_enter
  rename GSub _ _ _ => GS
  have hl' := isl_of GS hl
  have hback : ∀ (l : Addr) (o : Obj) (L' : Addr) (m' : Str → Option Value) (h' : Heap) , Fr _ L' h' m' → News _ L' h' [(l, o)] → Fr h₀ L h' m ∧ (News h₀ L h' ((l, o) :: news) ∧ ∀ p ∈ news, p.1 ≠ l) ∧ (∀ b o, s.heap.get? b = some o → h'.get? b = some o) := fun l o L' m' h' F' N' => ⟨fr_back F (keep_of GS F'), news_back F N GS (keep_of GS F') N', keep_of GS F'⟩
  clear F N B X T hl
  k_steps
  refine Halt.go ?_
  (rename Fr _ _ _ _ => F1)
  (rename News _ _ _ _ => N1)
  (rename IsRange _ _ _ _ _ _ _ _ => R1)
  refine prices_outer (priceN xs) rfl R1 F1 N1 rfl rfl ?_ ?_
  · intro ps n i t u h tk own hi hoff hI hz F2 N2
    clear F1 N1
    (try k_fold)
    k_steps
    refine Halt.go ?_
    (rename Fr _ _ _ _ => F3)
    (rename News _ _ _ _ => N3)
    (rename IsRange _ _ _ _ _ _ _ _ => R3)
    refine prices_inner (fun p => cost (at_ xs p) (at_ xs ((p + i) % 12))) rfl R3 F3 N3 rfl rfl rfl rfl ?_ ?_
    · intro S tp j t4 u4 h4 tk4 own4 hj hS hoff4 F4 N4
      clear F2 N2 F3 N3
      (try k_fold)
      k_steps
      refine Halt.go ?_
      refine' c_costC ?kC ?k7 ?k8 ?_
      (case kC => regstrif_slice)
      (case k7 => (apply isL_at <;> first | assumption | omega | exact (fmod_bd _ (by decide)).1 | exact (fmod_bd _ (by decide)).2))
      (case k8 => (apply isL_at <;> first | assumption | omega | exact (fmod_bd _ (by decide)).1 | exact (fmod_bd _ (by decide)).2))
      regstrif_gather
      k_steps
      refine Halt.go ?_
      (rename Fr _ _ _ _ => F5)
      (rename News _ _ _ _ => N5)
      refine my_end (σ := Int × Tok) (_, _) F5 N5 ?_ ?_ rfl (List.forall_mem_cons.mpr ⟨rfl, List.forall_mem_cons.mpr ⟨rfl, List.forall_mem_cons.mpr ⟨rfl, List.forall_mem_cons.mpr ⟨rfl, List.forall_mem_nil _⟩⟩⟩⟩) (price_step hS)
      · intro p hp
        simp only [List.mem_cons, List.mem_append] at hp ⊢
        rcases hp with hp | hp
        · exact .inl hp
        · exact .inr (.inl hp)
      · intro p hp
        simp only [List.mem_cons, List.mem_append]
        exact .inr (.inr hp)
    · intro tp u4 h4 tk4 F4 N4
      clear F2 N2 F3 N3
      (try k_fold)
      k_steps
      (rename Fr _ _ _ _ => F5)
      (rename News _ _ _ _ => N5)
      refine append_K F5 N5 (Upd.head (fun p hp => hoff p hp _ (.head _))) ?_ (by rw [PySem.sizeLine_eq]; omega)
      intro h7 F7 N7
      clear F5 N5
      k_steps
      refine Halt.go ?_
      (rename Fr _ _ _ _ => F5)
      (rename News _ _ _ _ => N5)
      refine my_end (σ := Array Value × Nat) (ps.push (Value.int (priceN xs i) tp), n + 1) F5 N5 ?_ ?_ rfl ?_ ?_
      · intro p hp
        exact List.mem_append_left own hp
      · intro p hp
        exact List.mem_append_right [_] hp
      · exact List.forall_mem_cons.mpr ⟨rfl, List.forall_mem_cons.mpr ⟨rfl, List.forall_mem_nil _⟩⟩
      · exact ⟨ints_push (by assumption), (Array.size_push _).trans (congrArg (· + 1) hz)⟩
  · intro ps n u h tk hI hz F2 N2
    clear F1 N1
    (try k_fold)
    k_steps
    refine Halt.go ?_
    obtain ⟨f1, ⟨n1, ne⟩, kp⟩ := hback _ _ _ _ _ F2 N2
    exact ⟨_, _, _, F2, N2, fun _ _ => hret _ _ _ _ _ f1 n1 ne hI kp⟩
end
end Mine
namespace Mine
noncomputable def wsum (ws pp : List Int) : Nat → Int
  | 0 => 0
  | i + 1 => wsum ws pp i - ws.getD i 0 * pp.getD i 0
section
variable {prog : Program} {w : World} {A : Around} {E : Value → Shared → Prop} {s : Shared} {env : Env} {h₀ : Heap} {body : List Stmt} {Q : Flow → Shared → Prop}
theorem weighed_loop {r lp lw : Addr} {t₀ u₀ v₀ : Tok} {m₀ : Str → Option Value} {tz : Tok} (g : Nat → Int)
    (hh : A.handled = none) (hr : IsRange s.heap r 0 12 1 t₀ u₀ v₀) (F : Fr h₀ env.locals s.heap m₀) (N : News h₀ env.locals s.heap [])
    (h1 : m₀ (Str.ofString "weights") = some (.ref lw)) (h2 : m₀ (Str.ofString "prices") = some (.ref lp)) (h4 : m₀ (Str.ofString "total") = some (.int 0 tz)) (hg : g 0 = 0)
    (turn_ : ∀ (S : Int) (tp : Tok) (i : Nat) t (u : Str → Option Value) h tk own', i < 12 → S = g i → OwnOff own' [] →
      Fr h₀ env.locals h (fun y => if y = Str.ofString "turn" then some (.int (0 + (i : Int)) t) else kstB u [(Str.ofString "weights", .ref lw), (Str.ofString "prices", .ref lp), (Str.ofString "total", .int S tp)] y) → News h₀ env.locals h own' →
      wpAny (model prog w) A (execs body env) (InvPostN h₀ env.locals (JS (fun _ : Int × Tok => []) (fun c => [(Str.ofString "weights", .ref lw), (Str.ofString "prices", .ref lp), (Str.ofString "total", .int c.1 c.2)]) (fun i c => c.1 = g i) (i + 1)) own' [] { s with heap := h, toks := tk } Q) E { s with heap := h, toks := tk })
    (done : ∀ (tp : Tok) (u : Str → Option Value) h tk, Fr h₀ env.locals h (kstB u [(Str.ofString "weights", .ref lw), (Str.ofString "prices", .ref lp), (Str.ofString "total", .int (g 12) tp)]) → News h₀ env.locals h [] → Q .next { s with heap := h, toks := tk }) :
    wpAny (model prog w) A (pyIter (.ref r)) (fun it s₂ => LoopAtV prog w A h₀ env (Str.ofString "turn") body Q E it s₂) E s := by
  refine my_range (n := 12) (fun _ : Int × Tok => []) (fun c => [(Str.ofString "weights", .ref lw), (Str.ofString "prices", .ref lp), (Str.ofString "total", .int c.1 c.2)]) (fun i c => c.1 = g i) (0, tz) hh hr (by decide) (by rfl) F N (by simp [h1, h2, h4]) hg.symm ?_ ?_
  · rintro ⟨S, tp⟩ i t u h tk own' hi ho hS F N
    exact turn_ S tp i t u h tk own' hi hS ho F N
  · rintro ⟨S, tp⟩ u h tk hS F N
    have hS' : S = g 12 := hS
    subst hS'
    exact done tp u h tk F N
end
section
set_option maxHeartbeats 1000000 in
theorem c_weighed {w : World} {mean : ExcName → Option Value} {mg mb : Str → Option Value} {dp un : Nat} {gd : Option (List Code)} {cn : Str} {cs : Scope} {a : Addr} {ccd : Value} {cl : List (Str × Addr)} {outer : List Env} {A₀ : Around} {base h₀ : Heap} {L : Addr} {m : Str → Option Value} {s : Shared} {Q E : Value → Shared → Prop} {news : List (Addr × Obj)} {lw lp : Addr} {vw vp : List Value} {ws pp : List Int}
    (C : CC w mean mg mb A₀ base outer h₀ L m s news cs dp un 2)
    (hlw : s.heap.IsList lw vw.toArray) (hiw : IntsAre vw ws) (hnw : ws.length = 12) (hbw : ∀ x ∈ ws, -1000 ≤ x ∧ x ≤ 1000)
    (hlp : s.heap.IsList lp vp.toArray) (hip : IntsAre vp pp) (hnp : pp.length = 12) (hbp : ∀ x ∈ pp, -1000000 ≤ x ∧ x ≤ 1000000)
    (hret : ∀ (t : Tok) (h' : Heap) (tk' : Nat), Fr h₀ L h' m → News h₀ L h' news → (∀ b o, s.heap.get? b = some o → h'.get? b = some o) → Q (.int (wsum ws pp 12) t) { s with heap := h', toks := tk' }) :
    wpAny (model Pg w) (ktrTop dp un gd cn cs L a ccd cl outer) (call (.ref 101) [.ref lw, .ref lp]) Q E s := by
  obtain ⟨B, F, X, N, T, hk, hdp, hun⟩ := C
  refine wpAny_call ?_
  k_dflt ktr_enter
  rename GSub _ _ _ => GS
  have hlw' := isl_of GS hlw
  have hlp' := isl_of GS hlp
  have hback : ∀ (L' : Addr) (m' : Str → Option Value) (h' : Heap), Fr _ L' h' m' → Fr h₀ L h' m ∧ News h₀ L h' news ∧ (∀ b o, s.heap.get? b = some o → h'.get? b = some o) := fun L' m' h' F' => ⟨fr_back F (keep_of GS F'), fun p hp => ⟨keep_of GS F' _ _ (N p hp).1, (N p hp).2⟩, keep_of GS F'⟩
  clear F N B X T hlw hlp
  k_steps
  refine Halt.go ?_
  (rename Fr _ _ _ _ => F1)
  (rename News _ _ _ _ => N1)
  (rename IsRange _ _ _ _ _ _ _ _ => R1)
  refine weighed_loop (wsum ws pp) rfl R1 F1 N1 rfl rfl rfl rfl ?_ ?_
  · intro S tp i t u h tk own hi hS hoff F2 N2
    (try clear F1)
    (try clear N1)
    (try k_fold)
    k_steps
    refine Halt.go ?_
    refine' c_mul ?kC ?k7 ?k8 ?_
    (case kC => regstrif_slice)
    (case k7 => exact bd_at (by assumption) (by decide) _)
    (case k8 => exact bd_at (by assumption) (by decide) _)
    regstrif_gather
    k_steps
    refine Halt.go ?_
    refine' c_sub ?kC ?_
    (case kC => regstrif_slice)
    regstrif_gather
    k_steps
    refine Halt.go ?_
    (rename Fr _ _ _ _ => F5)
    (rename News _ _ _ _ => N5)
    refine my_end (σ := Int × Tok) (_, _) F5 N5 (fun _ h => nomatch h) (fun _ h => h) rfl (List.forall_mem_cons.mpr ⟨rfl, List.forall_mem_cons.mpr ⟨rfl, List.forall_mem_cons.mpr ⟨rfl, List.forall_mem_nil _⟩⟩⟩) ?_
    rw [hS]
    have e1 : (0 + (i : Int)).toNat = i := by omega
    rw [e1]
    rfl
  · intro tp u h tk F2 N2
    (try clear F1)
    (try clear N1)
    (try k_fold)
    k_steps
    refine Halt.go ?_
    obtain ⟨f1, n1, kp⟩ := hback _ _ _ F2
    exact ⟨_, _, _, F2, N2, fun _ _ => hret _ _ _ f1 n1 kp⟩
end
end Mine
namespace Mine
theorem item_dict {prog : Program} {w : World} {A : Around} {E : Value → Shared → Prop} {s : Shared} {h₀ : Heap} {L : Addr} {news : List (Addr × Obj)} {value slice : PySem.Expr} {d : Addr} {o : Obj} {kvs : List (Int × Value)} {k : Int} {u : Tok} {v : Value} {Q : Value → Shared → Prop}
    (N : News h₀ L s.heap news) (hm : (d, o) ∈ news) (hd : o.IsDictOf (intKind prog w) kvs) (hv : valueAt kvs k = some v) (h : Q v { s with toks := s.toks + 1 })
    (hs : subscripted slice false (.ref d) (.int k u) = operate [.ref d, .int k u] (getItem (.ref d) (.int k u)) := by with_unfolding_all rfl) :
    wpAny (model prog w) A (subscriptTail value slice (.ref d) (.int k u)) Q E s :=
  have hm' := Heap.dictOf_iff.mpr ⟨o, (N _ hm).1, hd⟩
  tail_any hm'.typeIs slot_dict_getitem.lookup (wpAny_getItem_of (intKind_is prog w k u) hm'.mapOf hv h) hs
theorem ret_int {Q : Value → Shared → Prop} {x y : Int} {t : Tok} {s : Shared} (e : y = x) (h : Q (.int x t) s) : Q (.int y t) s := by subst e; exact h
def NotTwo (o : Int) : Prop := o ≠ 2
theorem NotTwo.no {o : Int} {P : Prop} (h : NotTwo o) (e : o = 2) : P := absurd e h
def tiltOf (o : Int) : Int := if o = 3 then -1 else if o = 4 then 0 else 1
noncomputable def enSum (r : List Int) (h : Nat) (t : Int) : Nat → Int
  | 0 => 0
  | k + 1 => enSum r h t k + r.getD k 0 * r.getD k 0 + r.getD (k + h) 0 * r.getD (k + h) 0 + t * r.getD k 0 * r.getD (k + h) 0
theorem tilt_bd (o : Int) {x : Int} (h : -1000 ≤ x ∧ x ≤ 1000) : -1000 ≤ tiltOf o * x ∧ tiltOf o * x ≤ 1000 := by
  unfold tiltOf
  split
  · omega
  · split <;> omega
theorem tilt_one (o : Int) : -1000 ≤ tiltOf o ∧ tiltOf o ≤ 1000 := by
  unfold tiltOf
  split
  · omega
  · split <;> omega
theorem tilt_at {o : Int} (ho : o = 3 ∨ o = 4 ∨ o = 6 ∨ o = 12) {t1 t2 t3 t4 : Tok} : ∃ t, valueAt [((3 : Int), Value.int (-1) t1), (4, .int 0 t2), (6, .int 1 t3), (12, .int 1 t4)] o = some (.int (tiltOf o) t) := by
  rcases ho with rfl | rfl | rfl | rfl <;> exact ⟨_, rfl⟩
theorem item_tilt {prog : Program} {w : World} {A : Around} {E : Value → Shared → Prop} {s : Shared} {h₀ : Heap} {L : Addr} {news : List (Addr × Obj)} {value slice : PySem.Expr} {d : Addr} {ob : Obj} {kvs : List (Int × Value)} {o : Int} {u t1 t2 t3 t4 : Tok} {Q : Value → Shared → Prop}
    (N : News h₀ L s.heap news) (hm : (d, ob) ∈ news) (hd : ob.IsDictOf (intKind prog w) kvs) (hk : kvs = [((3 : Int), Value.int (-1) t1), (4, .int 0 t2), (6, .int 1 t3), (12, .int 1 t4)]) (ho : o = 3 ∨ o = 4 ∨ o = 6 ∨ o = 12) (h : ∀ t, Q (.int (tiltOf o) t) { s with toks := s.toks + 1 })
    (hs : subscripted slice false (.ref d) (.int o u) = operate [.ref d, .int o u] (getItem (.ref d) (.int o u)) := by with_unfolding_all rfl) :
    wpAny (model prog w) A (subscriptTail value slice (.ref d) (.int o u)) Q E s := by
  obtain ⟨t, ht⟩ := tilt_at ho (t1 := t1) (t2 := t2) (t3 := t3) (t4 := t4)
  exact item_dict N hm hd (hk ▸ ht) (h t) hs
section
variable {prog : Program} {w : World} {A : Around} {E : Value → Shared → Prop} {s : Shared} {env : Env} {h₀ : Heap} {body : List Stmt} {Q : Flow → Shared → Prop}
theorem energy_loop {r lr : Addr} {n : Nat} {t₀ u₀ v₀ : Tok} {m₀ : Str → Option Value} {tz th tt : Tok} {ti : Int} (g : Nat → Int) (hn : n = 1 ∨ n = 2)
    (hh : A.handled = none) (hr : IsRange s.heap r 0 (n : Int) 1 t₀ u₀ v₀) (F : Fr h₀ env.locals s.heap m₀)
    (h1 : m₀ (Str.ofString "rest") = some (.ref lr)) (h2 : m₀ (Str.ofString "half") = some (.int (n : Int) th)) (h3 : m₀ (Str.ofString "tilt") = some (.int ti tt)) (h4 : m₀ (Str.ofString "total") = some (.int 0 tz)) (hg : g 0 = 0)
    (turn_ : ∀ (S : Int) (tp : Tok) (i : Nat) t (u : Str → Option Value) h tk own', i < n → S = g i → OwnOff own' [] →
      Fr h₀ env.locals h (fun y => if y = Str.ofString "k" then some (.int (0 + (i : Int)) t) else kstB u [(Str.ofString "rest", .ref lr), (Str.ofString "half", .int (n : Int) th), (Str.ofString "tilt", .int ti tt), (Str.ofString "total", .int S tp)] y) → News h₀ env.locals h own' →
      wpAny (model prog w) A (execs body env) (InvPostN h₀ env.locals (JS (fun _ : Int × Tok => []) (fun c => [(Str.ofString "rest", .ref lr), (Str.ofString "half", .int (n : Int) th), (Str.ofString "tilt", .int ti tt), (Str.ofString "total", .int c.1 c.2)]) (fun i c => c.1 = g i) (i + 1)) own' [] { s with heap := h, toks := tk } Q) E { s with heap := h, toks := tk })
    (done : ∀ (tp : Tok) (u : Str → Option Value) h tk, Fr h₀ env.locals h (kstB u [(Str.ofString "rest", .ref lr), (Str.ofString "half", .int (n : Int) th), (Str.ofString "tilt", .int ti tt), (Str.ofString "total", .int (g n) tp)]) → News h₀ env.locals h [] → Q .next { s with heap := h, toks := tk }) :
    wpAny (model prog w) A (pyIter (.ref r)) (fun it s₂ => LoopAtV prog w A h₀ env (Str.ofString "k") body Q E it s₂) E s := by
  refine my_range (n := n) (fun _ : Int × Tok => []) (fun c => [(Str.ofString "rest", .ref lr), (Str.ofString "half", .int (n : Int) th), (Str.ofString "tilt", .int ti tt), (Str.ofString "total", .int c.1 c.2)]) (fun i c => c.1 = g i) (0, tz) hh hr (by rcases hn with rfl | rfl <;> decide) (by rcases hn with rfl | rfl <;> rfl) F (fun _ h => nomatch h) (by simp [h1, h2, h3, h4]) hg.symm ?_ ?_
  · rintro ⟨S, tp⟩ i t u h tk own' hi ho hS F N
    exact turn_ S tp i t u h tk own' hi hS ho F N
  · rintro ⟨S, tp⟩ u h tk hS F N
    have hS' : S = g n := hS
    subst hS'
    exact done tp u h tk F N
end
section
local macro_rules | `(tactic| walk_at "subscriptTail") => `(tactic| (k_here; (rename Obj.IsDictOf _ _ _ => lD'); refine halt ?_))
local macro_rules | `(tactic| walk_at "unused") => `(tactic| skip)
local macro_rules | `(tactic| walk_at "exec Return some") => `(tactic| (rename NotTwo _ => n'; exact NotTwo.no n' (by assumption)))
set_option maxHeartbeats 400000 in
theorem c_energyG {w : World} {mean : ExcName → Option Value} {mg mb : Str → Option Value} {dp un : Nat} {gd : Option (List Code)} {cn : Str} {cs : Scope} {a : Addr} {ccd : Value} {cl : List (Str × Addr)} {outer : List Env} {A₀ : Around} {base h₀ : Heap} {L : Addr} {m : Str → Option Value} {s : Shared} {Q E : Value → Shared → Prop} {news : List (Addr × Obj)} {lr : Addr} {o : Int} {to_ : Tok} {vs : List Value} {r : List Int} {n : Nat}
    (C : CC w mean mg mb A₀ base outer h₀ L m s news cs dp un 1) (ho : o = 3 ∨ o = 4 ∨ o = 6 ∨ o = 12)
    (hl : s.heap.IsList lr vs.toArray) (hi : IntsAre vs r) (hlen : r.length = 2 * n) (hn : n = 1 ∨ n = 2) (hb : ∀ x ∈ r, -1000 ≤ x ∧ x ≤ 1000)
    (hret : ∀ (t : Tok) (h' : Heap) (tk' : Nat), Fr h₀ L h' m → News h₀ L h' news → (∀ b o, s.heap.get? b = some o → h'.get? b = some o) → Q (.int ((2 * n : Nat) * enSum r n (tiltOf o) n) t) { s with heap := h', toks := tk' }) :
    wpAny (model Pg w) (ktrTop dp un gd cn cs L a ccd cl outer) (call (.ref 94) [.int o to_, .ref lr]) Q E s := by
  obtain ⟨B, F, X, N, T, hk, hdp, hun⟩ := C
  refine wpAny_call ?_
  k_dflt ktr_enter
  rename GSub _ _ _ => GS
  have hl' := isl_of GS hl
  have hback : ∀ (L' : Addr) (m' : Str → Option Value) (h' : Heap), Fr _ L' h' m' → Fr h₀ L h' m ∧ News h₀ L h' news ∧ (∀ b o, s.heap.get? b = some o → h'.get? b = some o) := fun L' m' h' F' => ⟨fr_back F (keep_of GS F'), fun p hp => ⟨keep_of GS F' _ _ (N p hp).1, (N p hp).2⟩, keep_of GS F'⟩
  clear F N B X T hl
  have h2 : o ≠ 2 := by omega
  have h3 : NotTwo o := h2
  k_steps
  refine Halt.go ?_
  (rename Obj.IsDictOf _ _ _ => lD)
  (rename News _ _ _ _ => N5)
  try dsimp only
  refine item_tilt N5 (by k_mem) lD rfl ho fun tt => ?_
  clear lD
  (try dsimp only)
  k_steps
  refine Halt.go ?_
  (rename Fr _ _ _ _ => F1)
  (rename IsRange _ _ _ _ _ _ _ _ => R1)
  have e : Int.fdiv (r.length : Int) 2 = (n : Int) := by rw [hlen]; rcases hn with rfl | rfl <;> rfl
  rw [e] at F1 R1
  refine energy_loop (enSum r n (tiltOf o)) hn rfl R1 F1 rfl rfl rfl rfl rfl ?_ ?_
  · intro S tp i t u h tk own hi2 hS hoff F2 N2
    (try clear F1)
    (try clear R1)
    (try k_fold)
    have bx := bd_at hb ⟨by decide, by decide⟩ (0 + (i : Int)).toNat
    have by_ := bd_at hb ⟨by decide, by decide⟩ (0 + (i : Int) + (n : Int)).toNat
    have bt := tilt_bd o bx
    obtain ⟨bx1, bx2⟩ := bx
    obtain ⟨by1, by2⟩ := by_
    obtain ⟨bt1, bt2⟩ := bt
    obtain ⟨to1, to2⟩ := tilt_one o
    k_steps
    refine Halt.go ?_
    (rename Fr _ _ _ _ => F5)
    (rename News _ _ _ _ => N5)
    refine my_end (σ := Int × Tok) (_, _) F5 N5 (fun _ h => nomatch h) (fun _ h => h) rfl (List.forall_mem_cons.mpr ⟨rfl, List.forall_mem_cons.mpr ⟨rfl, List.forall_mem_cons.mpr ⟨rfl, List.forall_mem_cons.mpr ⟨rfl, List.forall_mem_nil _⟩⟩⟩⟩) ?_
    have e1 : (0 + (i : Int)).toNat = i := by omega
    have e2 : (0 + (i : Int) + (n : Int)).toNat = i + n := by omega
    rw [hS, e1, e2]
    rfl
  · intro tp u h tk F2 N2
    (try clear F1)
    (try clear R1)
    (try k_fold)
    k_steps
    refine Halt.go ?_
    obtain ⟨f1, n1, kp⟩ := hback _ _ _ F2
    exact ⟨_, _, _, F2, N2, fun _ _ => ret_int (by rw [hlen]) (hret _ _ _ f1 n1 kp)⟩
end
set_option maxHeartbeats 400000 in
theorem c_energy2 {w : World} {mean : ExcName → Option Value} {mg mb : Str → Option Value} {dp un : Nat} {gd : Option (List Code)} {cn : Str} {cs : Scope} {a : Addr} {ccd : Value} {cl : List (Str × Addr)} {outer : List Env} {A₀ : Around} {base h₀ : Heap} {L : Addr} {m : Str → Option Value} {s : Shared} {Q E : Value → Shared → Prop} {news : List (Addr × Obj)} {lr : Addr} {to_ : Tok} {x0 : Int} {t0 : Tok}
    (C : CC w mean mg mb A₀ base outer h₀ L m s news cs dp un 1)
    (hl : s.heap.IsList lr [.int x0 t0].toArray) (b0 : -1000 ≤ x0 ∧ x0 ≤ 1000)
    (hret : ∀ (t : Tok) (h' : Heap) (tk' : Nat), Fr h₀ L h' m → News h₀ L h' news → (∀ b o, s.heap.get? b = some o → h'.get? b = some o) → Q (.int (x0 * x0) t) { s with heap := h', toks := tk' }) :
    wpAny (model Pg w) (ktrTop dp un gd cn cs L a ccd cl outer) (call (.ref 94) [.int 2 to_, .ref lr]) Q E s := by
  obtain ⟨B, F, X, N, T, hk, hdp, hun⟩ := C
  obtain ⟨b0l, b0h⟩ := b0
  refine wpAny_call ?_
  k_dflt ktr_enter
  rename GSub _ _ _ => GS
  have hl' := isl_of GS hl
  have hi' : IntsAre [.int x0 t0] [x0] := .cons x0 t0 (.nil)
  have hback : ∀ (L' : Addr) (m' : Str → Option Value) (h' : Heap), Fr _ L' h' m' → Fr h₀ L h' m ∧ News h₀ L h' news ∧ (∀ b o, s.heap.get? b = some o → h'.get? b = some o) := fun L' m' h' F' => ⟨fr_back F (keep_of GS F'), fun p hp => ⟨keep_of GS F' _ _ (N p hp).1, (N p hp).2⟩, keep_of GS F'⟩
  clear F N B X T hl
  k_steps
  refine Halt.go ?_
  (rename Fr _ _ _ _ => F5)
  (rename News _ _ _ _ => N5)
  obtain ⟨f1, n1, kp⟩ := hback _ _ _ F5
  refine ⟨_, _, _, F5, N5, fun _ _ => ret_int ?_ (hret _ _ _ f1 n1 kp)⟩
  first | rfl | (with_unfolding_all rfl) | (simp; done)

end Mine
namespace Mine
open PyProof.Rows.LCg PySem.Spec
theorem off1_of {D : Addr} : ∀ {l : List (Addr × Obj)}, (∀ p ∈ l, p.1 ≠ D) → Off1 D l
  | [], _ => trivial
  | p :: _, h => ⟨h p (.head _), off1_of fun q hq => h q (.tail _ hq)⟩
section
variable {prog : Program} {w : World} {A : Around} {E : Value → Shared → Prop} {s : Shared} {h₀ : Heap} {L : Addr} {m : Str → Option Value} {env : Env}
theorem block_Z {elt iter : PySem.Expr} {x y : Str} {px py tp : Pos} {tkk} {scope : Scope} {cl : List (Str × Addr)} {pos : Pos} {I : Addr} {fp wr : List Addr} {n : Nat} {Pt : Nat → Array Value → Prop} {St : Nat → Heap → Prop} {Mid : Nat → Addr → Heap → Prop} {news : List (Addr × Obj)}
    {g : Nat → Int} {RR : Value → Addr → Result → Shared → Prop}
    (W : WalksU prog w A I fp wr n Pt St Mid) (hsz : n ≤ sizeLine) (hh : A.handled = none)
    (hcell : ∀ z ∈ scope.names, z.2 ≠ .cell) (hkind : scope.kind = .function) (hx : scope.names.lookup x = some .local) (hy : scope.names.lookup y = some .local) (hxy : x ≠ y) (hst : St 0 s.heap) (hfp : ∀ b ∈ fp, b < s.heap.objs.size)
    (F : Fr h₀ L s.heap m) (N : News h₀ L s.heap news) (hwr : ∀ b ∈ wr, L ≠ b ∧ h₀.get? b = none ∧ ∀ p ∈ news, p.1 ≠ b)
    (turn : ∀ i vals, i < n → Pt i vals → ∃ va vb, vals = #[va, vb] ∧ ∀ C (s' : Shared) m₂ (E' : Value → Shared → Prop), s'.heap.Ns C m₂ → m₂ x = some va → m₂ y = some vb →
      wpAny (model prog w) A (eval elt (compEnvC scope cl C env)) (fun v s'' => ∃ tk t, v = .int (g i) t ∧ s'' = { s' with toks := tk }) E' s')
    (hRR : ∀ D C h tk m' ys, Fr h₀ L h m → News h₀ L h ((D, lst ys) :: news) → Off1 D news → h.Ns C m' → h₀.get? C = none → h₀.get? D = none → C ≠ L → D ≠ L → C ≠ D → (∀ p ∈ news, p.1 ≠ C) → IntsAre ys (listN g n) → RR (.ref D) C (.ok .next) { s with heap := h, toks := tk }) :
    wpAny (model prog w) A (newList []) (fun acc s₃ => wpAny (model prog w) A (newFunctionEnv scope env.globals cl [] env.qual none .none (some env)) (fun cenv s₄ =>
      codeAny (model prog w) A (.compStart (.ListComp elt [⟨.Tuple [.Name x px, .Name y py] tkk tp, iter, [], 0⟩] scope pos) 0 (.ref I) acc { cenv with scope := relabel scope env }) (RR acc cenv.locals) s₄) E s₃) E s := by
  refine wpAny_newObj_type (wpAny_newFunctionEnv hcell (by intro y hy; simp at hy) (fun h₁ hns₁ hsb₁ => ?_) hkind)
  dsimp only at hns₁ hsb₁ ⊢
  generalize hH2 : s.heap.push { cls := .type "list", dict := none, data := .seq ([] : List Value).toArray } = H2 at hns₁ hsb₁ ⊢
  have hC : H2.objs.size = s.heap.objs.size + 1 := by rw [← hH2, Heap.size_push]
  have lo : ∀ b, b < s.heap.objs.size → b ≠ H2.objs.size ∧ b ≠ s.heap.objs.size := fun b hb => ⟨by rw [hC]; exact Nat.ne_of_lt (Nat.lt_succ_of_lt hb), Nat.ne_of_lt hb⟩
  have hDf : s.heap.objs.size ∉ fp := fun hm => Nat.lt_irrefl _ (hfp _ hm)
  have hCf : H2.objs.size ∉ fp := fun hm => by have := hfp _ hm; rw [hC] at this; exact Nat.lt_irrefl _ (Nat.lt_of_succ_lt this)
  have hDw : s.heap.objs.size ∉ wr := fun h => hDf (W.sub _ h)
  have hCw : H2.objs.size ∉ wr := fun h => hCf (W.sub _ h)
  have hLw : L ∉ wr := fun h => (hwr L h).1 rfl
  have old : ∀ b o, s.heap.get? b = some o → h₁.get? b = some o := fun b o e => hsb₁.extBut b o (lo b (Heap.lt_size e)).1 (Heap.get?_push_of_some _ (hH2 ▸ Heap.get?_push_of_some _ e))
  have hDC : s.heap.objs.size ≠ H2.objs.size := by omega
  have hacc : h₁.get? s.heap.objs.size = some (lst []) := hsb₁.extBut _ _ hDC (Heap.get?_push_of_some _ (hH2 ▸ Heap.get?_push_size _ rfl))
  have fresh₀ : ∀ a, s.heap.objs.size ≤ a → h₀.get? a = none := fun a ha => ktu_new F ha
  have hD₀ := fresh₀ _ (Nat.le_refl s.heap.objs.size)
  have hC₀ := fresh₀ H2.objs.size (by omega)
  have hLlt : L < s.heap.objs.size := F.ns.lt
  have hDL : s.heap.objs.size ≠ L := (lo L hLlt).2.symm
  have hCL : H2.objs.size ≠ L := (lo L hLlt).1.symm
  have offm : ∀ p ∈ news, p.1 ≠ H2.objs.size ∧ p.1 ≠ s.heap.objs.size := fun p hp => lo _ (Heap.lt_size (N p hp).1)
  have frw : ∀ {h h' : Heap}, Fr h₀ L h m → (∀ b o, b ∉ wr → h.get? b = some o → h'.get? b = some o) → Fr h₀ L h' m := fun F hk => ⟨F.ns.at' fun o e => hk _ o hLw e, fun b o e => hk b o (fun q => by rw [(hwr b q).2.1] at e; cases e) (F.keep b o e), F.above⟩
  have nww : ∀ {h h' : Heap} {ys}, News h₀ L h ((s.heap.objs.size, lst ys) :: news) → (∀ b o, b ∉ wr → h.get? b = some o → h'.get? b = some o) → News h₀ L h' ((s.heap.objs.size, lst ys) :: news) := fun N hk p hp => ⟨hk _ _ (by
    rcases List.mem_cons.mp hp with rfl | hp
    · exact hDw
    · exact fun q => (hwr _ q).2.2 p hp rfl) (N p hp).1, (N p hp).2⟩
  have loop : ∀ s₃ : Shared, s₃ = { s with heap := h₁, toks := s.toks + ([] : List (Str × Value)).length } →
      codeAny (model prog w) A (.compLoop (.ListComp elt [⟨.Tuple [.Name x px, .Name y py] tkk tp, iter, [], 0⟩] scope pos) 0 (.ref I) (.ref s.heap.objs.size) (compEnvC scope cl H2.objs.size env)) (RR (.ref s.heap.objs.size) H2.objs.size) s₃ := by
    rintro s₃ rfl
    refine PyProof.Rows.LCp.codeAny_compLoop_pair
      (fun k s' => ∃ h' tk i ys m', s' = { s with heap := h', toks := tk } ∧ i + k = n + 1 ∧ 0 < k ∧ ys.length = i ∧ St i h' ∧ Fr h₀ L h' m ∧ h'.Ns H2.objs.size m' ∧ News h₀ L h' ((s.heap.objs.size, lst ys) :: news) ∧ IntsAre ys (listN g i)) ?_ (n + 1)
      ⟨h₁, _, 0, [], _, rfl, by omega, by omega, rfl, W.frame _ _ _ hst fun b _ o e => old b o e, F.keeps old, hns₁, fun p hp => ?_, .nil⟩
    · rintro k s' ⟨h', tk, i, ys, m', rfl, hik, hk0, hyl, hst', F', hn', N', hJ'⟩
      by_cases hlt : i < n
      · refine W.item i _ _ _ hlt hst' fun T vals h₂ tk₂ hPv hT hmid hk₂ => ?_
        have hTw := W.apart _ _ _ hmid
        refine W.go _ _ _ i T _ _ _ hmid fun h₃ hst₃ hk₃ => ?_
        obtain ⟨va, vb, rfl, T9⟩ := turn i vals hlt hPv
        have ht : IsTup h₃ T #[va, vb] := by
          obtain ⟨o, ho, hc, nt, hd⟩ := hT
          exact ⟨o, hk₃ _ _ hTw ho, hc, nt, hd⟩
        refine assign_Tuple_tuple hh ht rfl rfl fun h₅ he => ?_
        have he' : ∀ b o, h₃.get? b = some o → h₅.get? b = some o := fun b o e => he b o (Nat.ne_of_lt (Heap.lt_size e)) e
        refine assignInOrder_cons (wpAny_assign_Name (wpAny_storeName_local (lookup_relabel_local hx) (((hn'.at' fun o e => hk₂ _ o hCw e).at' fun o e => hk₃ _ o hCw e).at' fun o e => he' _ o e) (fun h₆ hn₆ hs₆ => ?_) (by simp [compEnvC, relabel, hkind])))
        refine assignInOrder_cons (wpAny_assign_Name (wpAny_storeName_local (lookup_relabel_local hy) hn₆ (fun h₄ hn₄ hs₄ => ?_) (by simp [compEnvC, relabel, hkind])))
        refine assignInOrder_nil ?_
        have old3 : ∀ b o, b ≠ H2.objs.size → h₃.get? b = some o → h₄.get? b = some o := fun b o hb e => hs₄.extBut b o hb (hs₆.extBut b o hb (he' b o e))
        have hst₄ : St (i + 1) h₄ := W.frame _ _ _ hst₃ fun b hb o e => old3 b o (fun q => hCf (by rw [← q]; exact hb)) e
        have F₃ := frw (frw F' hk₂) hk₃
        have F₄ : Fr h₀ L h₄ m := ((F₃.keeps he').change hs₆ hCL hC₀).change hs₄ hCL hC₀
        have N₃ := nww (nww N' hk₂) hk₃
        have N₄ : News h₀ L h₄ ((s.heap.objs.size, lst ys) :: news) := fun p hp => ⟨old3 _ _ (by
          rcases List.mem_cons.mp hp with rfl | hp
          · exact hDC
          · exact (offm p hp).1) (N₃ p hp).1, (N₃ p hp).2⟩
        refine wpAny_mono (T9 _ _ _ _ hn₄ (by simp [hxy]) (by simp)) (fun v s₄ h₄' => ?_) fun _ _ e => e
        obtain ⟨tk₄, t, rfl, rfl⟩ := h₄'
        have zD := (N₄ (s.heap.objs.size, lst ys) (.head _)).1
        refine append_at (hsz := by show ys.toArray.size ≤ sizeLine; rw [List.size_toArray, hyl]; omega) zD fun h₇ hs₇ hD₇ => ?_
        refine ⟨k - 1, by omega, h₇, tk₄, i + 1, ys ++ [.int (g i) t], _, rfl, by omega, by omega, by rw [List.length_append, List.length_singleton, hyl], W.frame _ _ _ hst₄ fun b hb o e => hs₇.extBut b o (fun q => hDf (q ▸ hb)) e, F₄.change hs₇ hDL hD₀,
          hn₄.sameBut hs₇ hDC.symm, fun p hp => ?_, ints_snoc hJ'⟩
        rcases List.mem_cons.mp hp with rfl | hp
        · exact ⟨hD₇.trans (congrArg some (lst_snoc ys (.int (g i) t))), hDL, hD₀⟩
        · have z := N₄ p (.tail _ hp)
          exact ⟨hs₇.extBut _ _ (offm p hp).2 z.1, z.2⟩
      · obtain rfl : i = n := by omega
        refine W.done _ _ _ hst' fun h₂ tk₂ hk₂ => ?_
        exact hRR _ _ h₂ tk₂ _ ys (frw F' hk₂) (nww N' hk₂) (off1_of fun p hp => (offm p hp).2) (hn'.at' fun o e => hk₂ _ o hCw e) hC₀ hD₀ hCL hDL hDC.symm (fun p hp => (offm p hp).1) hJ'
    · rcases List.mem_cons.mp hp with rfl | hp
      · exact ⟨hacc, hDL, hD₀⟩
      · exact ⟨old _ _ (N p hp).1, (N p hp).2⟩
  exact codeAny_compStart_list (loop _ rfl) (W.self 0 _ _ _ (W.frame _ _ _ hst fun b _ o e => old b o e) (loop _ rfl))
end
end Mine
namespace Mine
open PyProof.Rows.LCg PySem.Spec
section
variable {prog : Program} {w : World} {A : Around} {E : Value → Shared → Prop} {s : Shared} {h₀ : Heap} {L : Addr} {m : Str → Option Value} {env : Env}
def ZipAt (A : Around) (h₀ : Heap) (L : Addr) (m : Str → Option Value) (yy : Str) (op : Int → Int → Int) (Q : Flow → Shared → Prop) (xv : Value) (s₁ : Shared) : Prop :=
  ∃ (n : Nat) (z TI TO i1 i2 l1 l2 : Addr) (vs₁ vs₂ : List Value) (ns₁ ns₂ : List Int) (news : List (Addr × Obj)), xv = .ref z ∧ A.handled = none ∧ ZipApart z TI TO i1 i2 l1 l2 ∧
    (IsZip s₁.heap z TI TO .none ∧ IsPair s₁.heap TI (.ref i1) (.ref i2) ∧ (∃ a b, IsPair s₁.heap TO a b) ∧ s₁.heap.IsListIter i1 l1 0 ∧ s₁.heap.IsListIter i2 l2 0 ∧ s₁.heap.IsList l1 vs₁.toArray ∧ s₁.heap.IsList l2 vs₂.toArray) ∧
    IntsAre vs₁ ns₁ ∧ IntsAre vs₂ ns₂ ∧ ns₁.length = n ∧ ns₂.length = n ∧ n ≤ sizeLine ∧ Fr h₀ L s₁.heap m ∧ News h₀ L s₁.heap news ∧ (∀ b ∈ [z, TO, i1, i2], L ≠ b ∧ h₀.get? b = none ∧ ∀ p ∈ news, p.1 ≠ b) ∧
    (∀ D ys h tk, Fr h₀ L h (fun z => if z = yy then some (.ref D) else m z) → News h₀ L h ((D, lst ys) :: news) → Off1 D news → IntsAre ys (listN (fun k => op (ns₁.getD k 0) (ns₂.getD k 0)) n) → Q .next { s₁ with heap := h, toks := tk })
theorem assign_zip {elt iter : PySem.Expr} {x y yy : Str} {px py tp pyy : Pos} {tkk} {scope : Scope} {cl : List (Str × Addr)} {pos spos : Pos} {Q : Flow → Shared → Prop} (op : Int → Int → Int) (_F : Fr h₀ L s.heap m) (hLe : env.locals = L)
    (hsw : swapsWith (.ListComp elt [⟨.Tuple [.Name x px, .Name y py] tkk tp, iter, [], 0⟩] scope pos) (some (.Name yy pyy)) spos.line env = pure true)
    (hclos : closureFor scope env = pure cl) (hcell : ∀ z ∈ scope.names, z.2 ≠ .cell) (hkind : scope.kind = .function)
    (hnames : ∀ y ∈ scope.names, y.2 = .local → scope.names.lookup y.1 = some .local) (hx : scope.names.lookup x = some .local) (hy : scope.names.lookup y = some .local) (hxy : x ≠ y)
    (hyy : env.kindOf yy = some .local) (hp : (env.scope.kind == .class || (env.scope.kind == .module && env.locals != env.globals)) = false)
    (turn : ∀ a b ta tb C (s' : Shared) m₂ (E' : Value → Shared → Prop), s'.heap.Ns C m₂ → m₂ x = some (.int a ta) → m₂ y = some (.int b tb) →
      wpAny (model prog w) A (eval elt (compEnvC scope cl C env)) (fun v s'' => ∃ tk t, v = .int (op a b) t ∧ s'' = { s' with toks := tk }) E' s')
    (h : wpAny (model prog w) A (eval iter env) (ZipAt A h₀ L m yy op Q) E s)
    (hs : ∀ x, foldedSetIterable iter env x = pure x := by intro _; rfl) :
    wpAny (model prog w) A (exec (.Assign [.Name yy pyy] (.ListComp elt [⟨.Tuple [.Name x px, .Name y py] tkk tp, iter, [], 0⟩] scope pos) spos) env) Q E s := by
  subst hLe
  rw [exec_Assign_Name_used _ _ _ _ hsw]
  refine wpAny_bind (wpAny_standAt (wpAny_bind ?_))
  show wpAny _ A (do let _ ← comprehension (.ListComp elt [⟨.Tuple [.Name x px, .Name y py] tkk tp, iter, [], 0⟩] scope pos) scope env _ (newList []) false (eval iter env) (some (assign (.Name yy pyy) env))) _ _ s
  refine wpAny_bind (wpAny_mono (wpAny_comprehension_free (use := some (assign (.Name yy pyy) env)) (Q := fun _ s' => Q .next s') rfl hs hclos hkind hnames
    (wpAny_mono h (fun xv s₁ h₁ => ?_) fun _ _ e => e)) (fun _ s' hq => wpAny_pure (wpAny_pure hq)) fun _ _ e => e)
  obtain ⟨n, z, TI, TO, i1, i2, l1, l2, vs₁, vs₂, ns₁, ns₂, news, rfl, hh, D, hst, hA₁, hA₂, hn1, hn2, hsz, F, N, hwr, fin⟩ := h₁
  have W := (WalksT.zip2 (prog := prog) (w := w) hh z TI TO i1 i2 l1 l2 D vs₁.toArray vs₂.toArray).toU
  have hmin : min vs₁.toArray.size vs₂.toArray.size = n := by simp [hA₁.length, hA₂.length, hn1, hn2]
  rw [hmin] at W
  refine W.self 0 _ _ _ hst ?_
  refine block_Z (g := fun k => op (ns₁.getD k 0) (ns₂.getD k 0)) W hsz hh hcell hkind hx hy hxy hst (fun b hb => ?_) F N hwr ?_ ?_
  · obtain ⟨hz, hTI, ⟨ta, tb, hTO⟩, ⟨o1, h1, c1, _⟩, ⟨o2, h2, c2, _⟩, ⟨ol1, hl1, cl1, _⟩, ⟨ol2, hl2, cl2, _⟩⟩ := hst
    simp only [List.mem_cons, List.not_mem_nil, or_false] at hb
    rcases hb with rfl | rfl | rfl | rfl | rfl | rfl | rfl
    · exact Heap.lt_size hz
    · exact Heap.lt_size hTI
    · exact Heap.lt_size hTO
    · exact Heap.lt_size h1
    · exact Heap.lt_size h2
    · exact Heap.lt_size hl1
    · exact Heap.lt_size hl2
  · rintro i vals hi ⟨va, vb, e1, e2, rfl⟩
    obtain ⟨a, ta, rfl, ha⟩ := hA₁.at i va (by simpa using e1)
    obtain ⟨b, tb, rfl, hb⟩ := hA₂.at i vb (by simpa using e2)
    refine ⟨_, _, rfl, fun C s' m₂ E' hC h1 h2 => ?_⟩
    have ea : ns₁.getD i 0 = a := by rw [List.getD_eq_getElem?_getD, ha]; rfl
    have eb : ns₂.getD i 0 = b := by rw [List.getD_eq_getElem?_getD, hb]; rfl
    rw [ea, eb]
    exact turn a b ta tb C s' m₂ E' hC h1 h2
  · intro D C h tk m' ys F' N' o1 hn hC₀ hD₀ hCL hDL hCD offC hI
    show wpAny _ A (assign (.Name yy pyy) env (.ref D)) _ _ _
    refine wpAny_assign_Name (wpAny_storeName_local hyy F'.ns (fun h₂ hn₂ hs₂ => ?_) hp)
    have hL₀ : h₀.get? env.locals = none := Heap.get?_none_of_le F'.above
    have F₂ : Fr h₀ env.locals h₂ (fun z => if z = yy then some (.ref D) else m z) := ⟨hn₂, fun b o e => hs₂.extBut b o (fun q => by rw [q, hL₀] at e; cases e) (F'.keep b o e), F'.above⟩
    refine ⟨m', hn.sameBut hs₂ hCL, fun h'' hs'' => fin D ys h'' _ (F₂.change hs'' hCL hC₀) (fun p hp => ?_) o1 hI⟩
    have z : h₂.get? p.1 = some p.2 := hs₂.extBut _ _ (N' p hp).2.1 (N' p hp).1
    refine ⟨hs''.extBut _ _ ?_ z, (N' p hp).2⟩
    rcases List.mem_cons.mp hp with rfl | hp
    · exact Ne.symm hCD
    · exact offC p hp
theorem add_turn {scope : Scope} {cl : List (Str × Addr)} {x y : Str} {px py pos : Pos} (hk : scope.kind = .function) (hx : scope.names.lookup x = some .local) (hy : scope.names.lookup y = some .local) (dx : (x == ("__debug__" : Str)) = false) (dy : (y == ("__debug__" : Str)) = false) :
    ∀ a b ta tb C (s' : Shared) m₂ (E' : Value → Shared → Prop), s'.heap.Ns C m₂ → m₂ x = some (.int a ta) → m₂ y = some (.int b tb) →
      wpAny (model prog w) A (eval (.BinOp (.Name x px) .Add (.Name y py) pos) (compEnvC scope cl C env)) (fun v s'' => ∃ tk t, v = .int (a + b) t ∧ s'' = { s' with toks := tk }) E' s' := by
  intro a b ta tb C s' m₂ E' hC h1 h2
  refine wpAny_BinOp (ldVarK hC h1 (ldVarK hC h2 (PyProof.Rows.add_int ⟨_, _, rfl, rfl⟩) ?_ ?_ dy) ?_ ?_ dx)
  · simp [compEnvC, relabel, hk]
  · exact lookup_relabel_local hy
  · simp [compEnvC, relabel, hk]
  · exact lookup_relabel_local hx
end
end Mine
namespace Mine
open PyProof.Rows.LCg
section
variable {prog : Program} {w : World} {A : Around} {h₀ : Heap} {L : Addr} {m : Str → Option Value} {env : Env}
theorem comp_ind {elt : PySem.Expr} {x : Str} {scope : Scope} {cl : List (Str × Addr)} {s : Shared} {S : List (Addr × Obj) → Prop} {P : Nat → Value → Prop} {Fin : List Value → List (Addr × Obj) → Prop} {n : Nat} (Inv : Nat → List Value → List (Addr × Obj) → Prop)
    (turn : ∀ i ys news v I oI C oC D m₂ h tk (E' : Value → Shared → Prop), i < n → Inv i ys news → P i v → NsObj oC m₂ → m₂ x = some v → Fr h₀ L h m → News h₀ L h ((I, oI) :: (C, oC) :: (D, lst ys) :: news) → Off3 I C D news → ((@Ne Nat I C) ∧ (@Ne Nat I D) ∧ (@Ne Nat C D)) →
      wpAny (model prog w) A (eval elt (compEnvC scope cl C env)) (CompEnd h₀ L m { s with heap := h, toks := tk } I oI C oC D (lst ys) S (fun y news' => Inv (i + 1) (ys ++ [y]) news')) E' { s with heap := h, toks := tk })
    (fin : ∀ ys news, Inv n ys news → Fin ys news) : ∀ k i ys news, i + k = n → Inv i ys news → CompRest prog w A h₀ L m env elt x scope cl s S P Fin k i ys news
  | 0, i, ys, news, e, h => fin ys news ((show i = n from e) ▸ h)
  | k + 1, i, ys, news, e, h => CompRest.succ fun v I oI C oC D m₂ h' tk E' hP hC hx F N off ne =>
      wpAny_mono (turn i ys news v I oI C oC D m₂ h' tk E' (by omega) h hP hC hx F N off ne)
        (fun y s₂ ⟨h2, tk2, nw, e2, F2, N2, o2, S2, r⟩ => ⟨h2, tk2, nw, e2, F2, N2, o2, S2, comp_ind Inv turn fin k (i + 1) _ _ (by omega) r⟩) fun _ _ e => e
end
def AInv (nb : List (Addr × Obj)) (d : Nat) (i : Nat) (ys : List Value) (nx : List (Addr × Obj)) : Prop :=
  ∃ gs : List (Addr × List Value), gs.length = i ∧ ys = gs.map (fun g => .ref g.1) ∧ nx = gs.map (fun g => (g.1, listOf g.2.toArray 0)) ++ nb ∧ (∀ g ∈ gs, IntsAre g.2 (List.replicate d 0)) ∧ gs.Pairwise (fun a b => a.1 < b.1) ∧ ∀ g ∈ gs, ∀ p ∈ nb, p.1 < g.1
theorem AInv.zero {nb : List (Addr × Obj)} {d : Nat} : AInv nb d 0 [] nb := ⟨[], rfl, rfl, rfl, (fun _ h => nomatch h), .nil, (fun _ h => nomatch h)⟩
theorem AInv.step {nb : List (Addr × Obj)} {d i : Nat} {ys : List Value} {nx : List (Addr × Obj)} {D : Addr} {vs : List Value} (h : AInv nb d i ys nx) (hi : IntsAre vs (List.replicate d 0)) (hD : ∀ p ∈ nx, p.1 < D) :
    ∃ nx', AInv nb d (i + 1) (ys ++ [.ref D]) nx' ∧ (∀ p ∈ nx', p ∈ (D, listOf vs.toArray 0) :: nx) := by
  obtain ⟨gs, h1, rfl, rfl, h4, h5, h6⟩ := h
  refine ⟨(gs ++ [(D, vs)]).map (fun g => (g.1, listOf g.2.toArray 0)) ++ nb, ⟨gs ++ [(D, vs)], by simp [h1], by simp, rfl, ?_, ?_, ?_⟩, ?_⟩
  · intro g hg
    rcases List.mem_append.mp hg with hg | hg
    · exact h4 g hg
    · rw [List.mem_singleton.mp hg]; exact hi
  · refine List.pairwise_append.mpr ⟨h5, by simp, fun a ha b hb => ?_⟩
    rw [List.mem_singleton.mp hb]
    exact hD (a.1, listOf a.2.toArray 0) (List.mem_append_left _ (List.mem_map.mpr ⟨a, ha, rfl⟩))
  · intro g hg p hp
    rcases List.mem_append.mp hg with hg | hg
    · exact h6 g hg p hp
    · rw [List.mem_singleton.mp hg]; exact hD p (List.mem_append_right _ hp)
  · intro p hp
    rcases List.mem_append.mp hp with hp | hp
    · rw [List.map_append] at hp
      rcases List.mem_append.mp hp with hp | hp
      · exact .tail _ (List.mem_append_left _ hp)
      · rw [List.mem_singleton.mp hp]; exact .head _
    · exact .tail _ (List.mem_append_right _ hp)
theorem AInv.mem {nb : List (Addr × Obj)} {d i : Nat} {ys : List Value} {nx : List (Addr × Obj)} (h : AInv nb d i ys nx) {p : Addr × Obj} (hp : p ∈ nb) : p ∈ nx := by
  obtain ⟨gs, h1, rfl, rfl, h4, h5, h6⟩ := h
  exact List.mem_append_right _ hp
theorem AInv.four {nb : List (Addr × Obj)} {d : Nat} {ys : List Value} {nx : List (Addr × Obj)} (h : AInv nb d 4 ys nx) :
    ∃ g0 g1 g2 g3 v0 v1 v2 v3, ys = [.ref g0, .ref g1, .ref g2, .ref g3] ∧ nx = (g0, listOf (List.toArray v0) 0) :: (g1, listOf (List.toArray v1) 0) :: (g2, listOf (List.toArray v2) 0) :: (g3, listOf (List.toArray v3) 0) :: nb ∧
      (IntsAre v0 (List.replicate d 0) ∧ IntsAre v1 (List.replicate d 0) ∧ IntsAre v2 (List.replicate d 0) ∧ IntsAre v3 (List.replicate d 0)) ∧ g0 < g1 ∧ g1 < g2 ∧ g2 < g3 ∧ ∀ p ∈ nb, p.1 < g0 := by
  obtain ⟨gs, h1, rfl, rfl, h4, h5, h6⟩ := h
  match gs, h1 with
  | [(g0, v0), (g1, v1), (g2, v2), (g3, v3)], _ =>
    simp only [List.pairwise_cons, List.mem_cons, List.not_mem_nil, or_false, forall_eq_or_imp, forall_eq] at h5
    exact ⟨g0, g1, g2, g3, v0, v1, v2, v3, rfl, rfl, ⟨h4 _ (.head _), h4 _ (.tail _ (.head _)), h4 _ (.tail _ (.tail _ (.head _))), h4 _ (.tail _ (.tail _ (.tail _ (.head _))))⟩, h5.1.1, h5.2.1.1, h5.2.2.1, fun p hp => h6 _ (.head _) p hp⟩
theorem rep_one (d : Nat) (x : Int) : (List.replicate d [x]).flatten = List.replicate d x := by
  induction d with
  | zero => rfl
  | succ n ih => simp [List.replicate_succ, ih]
noncomputable def pw (ws : List Int) (d : Nat) : Nat → List Int
  | 0 => 1 :: List.replicate (d - 1) 0
  | i + 1 => listN (fun k => (0 :: (pw ws d i).dropLast).getD k 0 - (pw ws d i).getD (d - 1) 0 * ws.getD k 0) d
noncomputable def addN (p r : List Int) : Nat → List Int
  | 0 => r
  | k + 1 => (addN p r k).set k ((addN p r k).getD k 0 + p.getD k 0)
noncomputable def rs (ks ws : List Int) (d : Nat) (g : Int) : Nat → List Int
  | 0 => List.replicate d 0
  | i + 1 => if ks.getD i 0 = g then addN (pw ws d i) (rs ks ws d g i) d else rs ks ws d g i
theorem listN_length {α : Type} (g : Nat → α) : ∀ n, (listN g n).length = n
  | 0 => rfl
  | n + 1 => by simp [listN, listN_length g n]
theorem pw_length (ws : List Int) {d : Nat} (hd : 1 ≤ d) : ∀ i, (pw ws d i).length = d
  | 0 => by simp [pw]; omega
  | i + 1 => by simp [pw, listN_length]
theorem addN_length (p r : List Int) : ∀ k, (addN p r k).length = r.length
  | 0 => rfl
  | k + 1 => by simp [addN, addN_length p r k]
theorem rs_length (ks ws : List Int) (d : Nat) (g : Int) : ∀ i, (rs ks ws d g i).length = d
  | 0 => by simp [rs]
  | i + 1 => by
    simp only [rs]
    split
    · rw [addN_length, rs_length ks ws d g i]
    · exact rs_length ks ws d g i
theorem rs_hit {ks ws : List Int} {d : Nat} {g : Int} {i : Nat} (h : ks[i]? = some g) : rs ks ws d g (i + 1) = addN (pw ws d i) (rs ks ws d g i) d := by
  simp [rs, List.getD_eq_getElem?_getD, h]
theorem rs_miss {ks ws : List Int} {d : Nat} {g n : Int} {i : Nat} (h : ks[i]? = some n) (hn : n ≠ g) : rs ks ws d g (i + 1) = rs ks ws d g i := by
  simp [rs, List.getD_eq_getElem?_getD, h, hn]
def RLed (R g0 g1 g2 g3 L1 : Addr) (oD o4 : Obj) (lp : Addr) (vp v0 v1 v2 v3 : List Value) (np : Nat) (oP oT : Obj) : List (Addr × Obj) :=
  [(R, listOf [.ref g0, .ref g1, .ref g2, .ref g3].toArray 4), (g0, listOf v0.toArray 0), (g1, listOf v1.toArray 0), (g2, listOf v2.toArray 0), (g3, listOf v3.toArray 0), (lp, listOf vp.toArray np), (L1 + 1 + 1 + 1 + 1, oT), (L1 + 1 + 1 + 1, oP), (L1 + 1 + 1, oD), (L1 + 1, o4)]
def LpOff (R g0 g1 g2 g3 L1 lp : Addr) : Prop := (@Ne Nat lp g0) ∧ (@Ne Nat lp g1) ∧ (@Ne Nat lp g2) ∧ (@Ne Nat lp g3) ∧ (@Ne Nat lp R) ∧ (@Ne Nat lp (L1 + 1 + 1 + 1 + 1)) ∧ (@Ne Nat lp (L1 + 1 + 1 + 1)) ∧ (@Ne Nat lp (L1 + 1 + 1)) ∧ (@Ne Nat lp (L1 + 1))
def RJ (ks ws : List Int) (d : Nat) (R g0 g1 g2 g3 L1 : Addr) (oD o4 : Obj) (i : Nat) (m' : Str → Option Value) (nx : List (Addr × Obj)) : Prop :=
  ∃ (lp : Addr) (vp v0 v1 v2 v3 : List Value) (np : Nat) (oP oT : Obj) (zT : Option Value), nx = RLed R g0 g1 g2 g3 L1 oD o4 lp vp v0 v1 v2 v3 np oP oT ∧ m' (Str.ofString "rests") = some (.ref R) ∧ IntsAre vp (pw ws d i) ∧
    IntsAre v0 (rs ks ws d 0 i) ∧ IntsAre v1 (rs ks ws d 1 i) ∧ IntsAre v2 (rs ks ws d 2 i) ∧ IntsAre v3 (rs ks ws d 3 i) ∧ oP.data = .cell (some (.ref lp)) ∧ oT.data = .cell zT ∧ LpOff R g0 g1 g2 g3 L1 lp
theorem mem2 {α : Type} {a b q : α} {X Y : List α} (h : ∀ q, q ∈ X → q ∈ Y) (hq : q ∈ a :: b :: X) : q ∈ a :: b :: Y := by
  rcases List.mem_cons.mp hq with rfl | hq
  · exact .head _
  rcases List.mem_cons.mp hq with rfl | hq
  · exact .tail _ (.head _)
  · exact .tail _ (.tail _ (h _ hq))
theorem mem_swap1 {α : Type} {a b q : α} {tl : List α} (h : q ∈ b :: a :: tl) : q ∈ a :: b :: tl := by
  rcases List.mem_cons.mp h with rfl | h
  · exact .tail _ (.head _)
  rcases List.mem_cons.mp h with rfl | h
  · exact .head _
  · exact .tail _ (.tail _ h)
theorem mem_up {α : Type} {a q : α} {X Y : List α} (h : q ∈ X → q ∈ Y) (hq : q ∈ a :: X) : q ∈ a :: Y := by
  rcases List.mem_cons.mp hq with rfl | hq
  · exact .head _
  · exact .tail _ (h hq)
theorem mem_swap2 {α : Type} {a b c q : α} {tl : List α} (h : q ∈ c :: a :: b :: tl) : q ∈ a :: b :: c :: tl := mem_up mem_swap1 (mem_swap1 h)
theorem mem_back2 {α : Type} {a b c q : α} {tl : List α} (h : q ∈ a :: b :: c :: tl) : q ∈ c :: a :: b :: tl := mem_swap1 (mem_up mem_swap1 h)
theorem mem_swap3 {α : Type} {a b c d q : α} {tl : List α} (h : q ∈ d :: a :: b :: c :: tl) : q ∈ a :: b :: c :: d :: tl := mem_up mem_swap2 (mem_swap1 h)
theorem mem_back3 {α : Type} {a b c d q : α} {tl : List α} (h : q ∈ a :: b :: c :: d :: tl) : q ∈ d :: a :: b :: c :: tl := mem_swap1 (mem_up mem_back2 h)
def PickAt (items : Array Value) (n : Int) (g : Addr) : Prop := items[n.toNat]? = some (.ref g) ∧ 0 ≤ n ∧ n ≤ 3
theorem item_pick {prog : Program} {w : World} {A : Around} {E : Value → Shared → Prop} {s : Shared} {value slice : PySem.Expr} {l g : Addr} {items : Array Value} {n : Int} {u : Tok} {Q : Value → Shared → Prop} (hl : s.heap.IsList l items) (hp : PickAt items n g) (h : Q (.ref g) s)
    (hs : subscripted slice false (.ref l) (.int n u) = operate [.ref l, .int n u] (getItem (.ref l) (.int n u)) := by with_unfolding_all rfl) :
    wpAny (model prog w) A (subscriptTail value slice (.ref l) (.int n u)) Q E s :=
  item_listR hl hp.2.1 (by have := hp.2.2; omega) hp.1 h hs
theorem kind_pick {P : Prop} {ks ws : List Int} {d i : Nat} {n : Int} {g0 g1 g2 g3 : Addr} {u0 u1 u2 u3 : List Value} {tl : List (Addr × Obj)} (hn : ks[i]? = some n) (hb : 0 ≤ n ∧ n ≤ 3)
    (j0 : IntsAre u0 (rs ks ws d 0 i)) (j1 : IntsAre u1 (rs ks ws d 1 i)) (j2 : IntsAre u2 (rs ks ws d 2 i)) (j3 : IntsAre u3 (rs ks ws d 3 i))
    (y01 : @Ne Nat g0 g1) (y02 : @Ne Nat g0 g2) (y03 : @Ne Nat g0 g3) (y12 : @Ne Nat g1 g2) (y13 : @Ne Nat g1 g3) (y23 : @Ne Nat g2 g3)
    (k : ∀ (gK gA gB gC : Addr) (vK vA vB vC : List Value), PickAt #[.ref g0, .ref g1, .ref g2, .ref g3] n gK → IntsAre vK (rs ks ws d n i) →
      (∀ q, q ∈ (gK, listOf vK.toArray 0) :: (gA, listOf vA.toArray 0) :: (gB, listOf vB.toArray 0) :: (gC, listOf vC.toArray 0) :: tl → q ∈ (g0, listOf u0.toArray 0) :: (g1, listOf u1.toArray 0) :: (g2, listOf u2.toArray 0) :: (g3, listOf u3.toArray 0) :: tl) →
      (∀ x : Nat, (@Ne Nat g0 x) → (@Ne Nat g1 x) → (@Ne Nat g2 x) → (@Ne Nat g3 x) → (@Ne Nat gK x)) → ((@Ne Nat gA gK) ∧ (@Ne Nat gB gK) ∧ (@Ne Nat gC gK)) →
      (∀ vK' : List Value, IntsAre vK' (rs ks ws d n (i + 1)) → ∃ u0' u1' u2' u3' : List Value, (∀ q, q ∈ (g0, listOf u0'.toArray 0) :: (g1, listOf u1'.toArray 0) :: (g2, listOf u2'.toArray 0) :: (g3, listOf u3'.toArray 0) :: tl → q ∈ (gK, listOf vK'.toArray 0) :: (gA, listOf vA.toArray 0) :: (gB, listOf vB.toArray 0) :: (gC, listOf vC.toArray 0) :: tl) ∧
        IntsAre u0' (rs ks ws d 0 (i + 1)) ∧ IntsAre u1' (rs ks ws d 1 (i + 1)) ∧ IntsAre u2' (rs ks ws d 2 (i + 1)) ∧ IntsAre u3' (rs ks ws d 3 (i + 1))) → P) : P := by
  have hcase : n = 0 ∨ n = 1 ∨ n = 2 ∨ n = 3 := by omega
  rcases hcase with rfl | rfl | rfl | rfl
  · exact k g0 g1 g2 g3 u0 u1 u2 u3 ⟨rfl, by decide, by decide⟩ j0 (fun q h => h) (fun x a b c d => a) ⟨y01.symm, y02.symm, y03.symm⟩
      fun v hv => ⟨v, u1, u2, u3, fun q h => h, hv, rs_miss hn (g := 1) (by decide) ▸ j1, rs_miss hn (g := 2) (by decide) ▸ j2, rs_miss hn (g := 3) (by decide) ▸ j3⟩
  · exact k g1 g0 g2 g3 u1 u0 u2 u3 ⟨rfl, by decide, by decide⟩ j1 (fun q h => mem_swap1 h) (fun x a b c d => b) ⟨y01, y12.symm, y13.symm⟩
      fun v hv => ⟨u0, v, u2, u3, fun q h => mem_swap1 h, rs_miss hn (g := 0) (by decide) ▸ j0, hv, rs_miss hn (g := 2) (by decide) ▸ j2, rs_miss hn (g := 3) (by decide) ▸ j3⟩
  · exact k g2 g0 g1 g3 u2 u0 u1 u3 ⟨rfl, by decide, by decide⟩ j2 (fun q h => mem_swap2 h) (fun x a b c d => c) ⟨y02, y12, y23.symm⟩
      fun v hv => ⟨u0, u1, v, u3, fun q h => mem_back2 h, rs_miss hn (g := 0) (by decide) ▸ j0, rs_miss hn (g := 1) (by decide) ▸ j1, hv, rs_miss hn (g := 3) (by decide) ▸ j3⟩
  · exact k g3 g0 g1 g2 u3 u0 u1 u2 ⟨rfl, by decide, by decide⟩ j3 (fun q h => mem_swap3 h) (fun x a b c d => d) ⟨y03, y13, y23⟩
      fun v hv => ⟨u0, u1, u2, v, fun q h => mem_back3 h, rs_miss hn (g := 0) (by decide) ▸ j0, rs_miss hn (g := 1) (by decide) ▸ j1, rs_miss hn (g := 2) (by decide) ▸ j2, hv⟩
theorem cellsNe {L1 g : Nat} (h : L1 + 1 + 1 + 1 + 1 < g) : (@Ne Nat (L1 + 1 + 1 + 1 + 1) g) ∧ (@Ne Nat (L1 + 1 + 1 + 1) g) ∧ (@Ne Nat (L1 + 1 + 1) g) ∧ (@Ne Nat (L1 + 1) g) := by
  refine ⟨?_, ?_, ?_, ?_⟩ <;> omega
theorem ints_step {g : Nat → Int} {k : Nat} {ys : List Value} {y : Int} {t : Tok} (h : IntsAre ys (listN g k)) (e : y = g k) : IntsAre (ys ++ [.int y t]) (listN g (k + 1)) := by
  subst e
  exact ints_snoc h
theorem hcat_of {h₀ h : Heap} {L l : Addr} {n : Nat} {t : Tok} {vs : List Value} {p : List Int} {nws : List (Addr × Obj)} (_N : News h₀ L h ((l, listOf ([Value.int 0 t] ++ vs).toArray n) :: nws)) (hi : IntsAre vs (List.take (p.length - 1) p)) : IntsAre ([Value.int 0 t] ++ vs) (0 :: p.dropLast) := by
  rw [List.dropLast_eq_take]
  exact .cons 0 t hi
theorem zip_off {h₀ h : Heap} {L z TO i1 i2 : Addr} {m : Str → Option Value} {news : List (Addr × Obj)} (F : Fr h₀ L h m) (N : News h₀ L h news) (b1 : h.objs.size ≤ z) (b2 : h.objs.size ≤ TO) (b3 : h.objs.size ≤ i1) (b4 : h.objs.size ≤ i2) :
    ∀ b ∈ [z, TO, i1, i2], L ≠ b ∧ h₀.get? b = none ∧ ∀ p ∈ news, p.1 ≠ b := by
  have key : ∀ b, h.objs.size ≤ b → L ≠ b ∧ h₀.get? b = none ∧ ∀ p ∈ news, p.1 ≠ b := fun b hb =>
    ⟨Nat.ne_of_lt (Nat.lt_of_lt_of_le F.ns.lt hb), ktu_new F hb, fun p hp => Nat.ne_of_lt (Nat.lt_of_lt_of_le (Heap.lt_size (N p hp).1) hb)⟩
  intro b hb
  simp only [List.mem_cons, List.not_mem_nil, or_false] at hb
  rcases hb with rfl | rfl | rfl | rfl
  · exact key _ b1
  · exact key _ b2
  · exact key _ b3
  · exact key _ b4
theorem back_many {h₀ s h' : Heap} {L L' : Addr} {m m' : Str → Option Value} {news news' : List (Addr × Obj)} (F : Fr h₀ L s m) (N : News h₀ L s news) (F' : Fr s L' h' m') (N' : News s L' h' news') :
    Fr h₀ L h' m ∧ News h₀ L h' (news' ++ news) ∧ (∀ b o, s.get? b = some o → h'.get? b = some o) := by
  refine ⟨fr_back F F'.keep, fun p hp => ?_, F'.keep⟩
  rcases List.mem_append.mp hp with hp | hp
  · have q := N' p hp
    obtain ⟨oL, es, ep, hL, r⟩ := F.ns
    refine ⟨q.1, fun z => ?_, ?_⟩
    · rw [z, hL] at q; cases q.2.2
    · cases e : h₀.get? p.1 with
      | none => rfl
      | some x => have := F.keep _ _ e; rw [q.2.2] at this; cases this
  · exact ⟨F'.keep _ _ (N p hp).1, (N p hp).2⟩
section
local macro_rules | `(tactic| k_ne) => `(tactic| (refine neN ?_; (try dsimp only); first | (with_reducible assumption) | (with_reducible exact Ne.symm (by with_reducible assumption))))
local macro_rules | `(tactic| walk_at "CompSrc") => `(tactic| (k_here; refine halt ?_))
local macro_rules | `(tactic| walk_at "subscriptTail Name Name ref int") => `(tactic| ((rename PickAt _ _ _ => lK'); k_dflt (refine item_pick (by is_list) lK' ?_)))
local macro_rules | `(tactic| walk_at "exec For Name Name cons nil") => `(tactic| (k_here; (rename Fr _ _ _ _ => lF'); (with_unfolding_all refine' For_invVF lF' ?k1 ?k2 ?_; (case k1 => exact rfl); (case k2 => exact rfl); k_whole)))
local macro_rules | `(tactic| k_all) => `(tactic| exact OwnOff.ne (by assumption) (by k_dflt k_mem))
local macro_rules | `(tactic| walk_at "exec Assign cons ListComp") => `(tactic| (k_here; (with_reducible show wpAny _ _ (exec (Stmt.Assign [Expr.Name _ _] (Expr.ListComp _ [Comprehension.mk (Expr.Tuple _ _ _) _ _ _] _ _) _) _) _ _ _); (rename Fr _ _ _ _ => lF'); k_dflt (refine assign_zip (· + ·) lF' (by rfl) (by with_unfolding_all rfl) (by rfl) (by decide) (by rfl) (by decide) (by rfl) (by rfl) (by decide) (by rfl) (by rfl) (add_turn rfl rfl rfl (by decide) (by decide)) ?_)))
local macro_rules | `(tactic| walk_at "call type:zip") => `(tactic| (k_here; refine halt ?_))
local macro_rules | `(tactic| walk_at "CompEnd int") => `(tactic| (refine halt ?_))
local macro_rules | `(tactic| walk_at "binaryOp Mult ref int") => `(tactic| (k_here; (with_reducible show wpAny _ _ (binaryOp _ _ _) (CompEnd _ _ _ _ _ _ _ _ _ _ _ _) _ _); refine halt ?_))
local macro_rules | `(tactic| walk_at "eval Name") => `(tactic| (k_here; (with_reducible show wpAny _ _ (eval (Expr.Name _ _) (compEnvC _ _ _ _)) _ _ _); k_dflt (refine kcf_cell (by k_asm) (by rfl) (by exact .tail _ (.tail _ (.tail _ (.tail _ (by assumption))))) (by k_asm) ?_)))
set_option maxHeartbeats 2000000 in
theorem c_rests {w : World} {mean : ExcName → Option Value} {mg mb : Str → Option Value} {dp un : Nat} {gd : Option (List Code)} {cn : Str} {cs : Scope} {a : Addr} {ccd : Value} {cl : List (Str × Addr)} {outer : List Env} {A₀ : Around} {base h₀ : Heap} {L : Addr} {m : Str → Option Value} {s : Shared} {Q E : Value → Shared → Prop} {news : List (Addr × Obj)} {lk lw : Addr} {vk vw : List Value} {ks ws : List Int} {d : Nat}
    (C : CC w mean mg mb A₀ base outer h₀ L m s news cs dp un 2)
    (hlk : s.heap.IsList lk vk.toArray) (hik : IntsAre vk ks) (hnk : ks.length = 12) (hbk : ∀ k ∈ ks, 0 ≤ k ∧ k ≤ 3)
    (hlw : s.heap.IsList lw vw.toArray) (hiw : IntsAre vw ws) (hnw : ws.length = d + 1) (hd1 : 1 ≤ d) (hd4 : d ≤ 4) (hbw : ∀ x ∈ ws, -1000000 ≤ x ∧ x ≤ 1000000) (hbp : ∀ i, i < 12 → ∀ x ∈ pw ws d i, -1000 ≤ x ∧ x ≤ 1000)
    (hret : ∀ (l g0 g1 g2 g3 g4 g5 : Addr) (w0 w1 w2 w3 w4 w5 : List Value) (n4 n5 : Nat) (h' : Heap) (tk' : Nat), Fr h₀ L h' m →
      News h₀ L h' ((l, listOf #[.ref g0, .ref g1, .ref g2, .ref g3, .ref g4, .ref g5] 0) :: (g0, listOf w0.toArray 0) :: (g1, listOf w1.toArray 0) :: (g2, listOf w2.toArray 0) :: (g3, listOf w3.toArray 0) :: (g4, listOf w4.toArray n4) :: (g5, listOf w5.toArray n5) :: news) →
      IntsAre w0 (rs ks ws d 0 12) → IntsAre w1 (rs ks ws d 1 12) → IntsAre w2 (rs ks ws d 2 12) → IntsAre w3 (rs ks ws d 3 12) →
      IntsAre w4 (listN (fun k => (rs ks ws d 0 12).getD k 0 + (rs ks ws d 1 12).getD k 0) d) → IntsAre w5 (listN (fun k => (rs ks ws d 2 12).getD k 0 + (rs ks ws d 3 12).getD k 0) d) →
      (∀ b o, s.heap.get? b = some o → h'.get? b = some o) → Q (.ref l) { s with heap := h', toks := tk' }) :
    wpAny (model Pg w) (ktrTop dp un gd cn cs L a ccd cl outer) (call (.ref 87) [.ref lk, .ref lw]) Q E s := by
  obtain ⟨B, F, X, N, T, hk, hdp, hun⟩ := C
  have hback := fun (nw : List (Addr × Obj)) (L' : Addr) (m' : Str → Option Value) (h' : Heap) (F' : Fr s.heap L' h' m') (N' : News s.heap L' h' nw) => back_many F N F' N'
  refine wpAny_call ?_
  k_dflt ktr_step
  rename_i L1 h1 tk1 F1 B1 X1 T1 o1 o2 o3 o4 d1 d2 d3 d4 N1
  replace d1 : o1.data = Data.cell none := d1
  replace d2 : o2.data = Data.cell none := d2
  replace d3 : o3.data = Data.cell none := d3
  replace d4 : o4.data = Data.cell (some (.ref lw)) := d4
  clear F N B X T
  k_steps
  rename_i hq oD dD la ha lla lb hb llb Dz hz i1 n1 s1 e1 e2 e3 ll1 lp vp hp' hip lcmp hq2 oP F5 N5 dP eP h6 tk6 t6 u6 v6 R6 F6 N6 a6
  refine Halt.go ?_
  dsimp only
  have hdd : ((ws.length : Int) - 1) = (d : Int) := by omega
  have hip2 : IntsAre vp (1 :: List.replicate (d - 1) 0) := by
    have e : ((ws.length : Int) - 1 - 1).toNat = d - 1 := by omega
    rw [e, rep_one] at hip
    exact hip
  obtain ⟨td, dD⟩ : ∃ td, oD.data = Data.cell (some (.int (d : Int) td)) := ⟨_, by rw [dD, hdd]⟩
  have N2 : News s.heap L1 h6 [(lp, listOf vp.toArray 0), (L1 + 1 + 1 + 1 + 1, o1), (L1 + 1 + 1 + 1, oP), (L1 + 1 + 1, oD), (L1 + 1, o4)] := fun p hp => N6 p (by
    rcases List.mem_cons.mp hp with rfl | hp
    · k_mem
    rcases List.mem_cons.mp hp with rfl | hp
    · k_mem
    rcases List.mem_cons.mp hp with rfl | hp
    · k_mem
    rcases List.mem_cons.mp hp with rfl | hp
    · k_mem
    rcases List.mem_cons.mp hp with rfl | hp
    · k_mem
    exact nomatch hp)
  have hlp : L1 + 1 + 1 + 1 + 1 < lp := lcmp.2.2.2.1
  clear i1 n1 s1 e1 e2 e3 ll1 lla llb hip lcmp eP F5 N5 N6 d2 d3 a6
  refine CompSrc.range (n := 4) (by rfl) F6 N2 R6 (by decide) (by rfl) (by decide) (fun g => comp_ind (AInv _ d) ?_ ?_ 4 0 [] _ rfl AInv.zero)
  · intro i ys nx v I oI C oC D m₂ h tk E' hi hA hP hC hx Fa Na off ne
    clear F6 N2 R6
    have hmd := hA.mem (p := (L1 + 1 + 1, oD)) (.tail _ (.tail _ (.tail _ (.head _))))
    dsimp only
    k_steps
    refine Halt.go ?_
    rename_i l9 h9 F9 N9 l19
    refine KM.mul F9 N9 (PySem.IsL.isList (n := _) (N9 _ (.head _)).1) (.cons 0 _ .nil) (by omega) (by omega) (by simp; omega) ?_
    intro D8 h8 F8 N8 lt8 i8 n8 _ _ _ _
    rw [rep_one, Int.toNat_natCast] at i8
    obtain ⟨nx', hA', hsub⟩ := hA.step i8 (D := D8) fun p hp => lt8 p (.tail _ (.tail _ (.tail _ (.tail _ hp))))
    refine CompEnd.intro F8 N8 nx' ?_ ?_ trivial hA'
    · intro p hp
      rcases List.mem_cons.mp hp with rfl | hp
      · exact .tail _ (.tail _ (.head _))
      rcases List.mem_cons.mp hp with rfl | hp
      · exact .tail _ (.tail _ (.tail _ (.head _)))
      rcases List.mem_cons.mp hp with rfl | hp
      · exact .tail _ (.tail _ (.tail _ (.tail _ (.head _))))
      rcases List.mem_cons.mp (hsub p hp) with rfl | hp
      · exact .head _
      · exact .tail _ (.tail _ (.tail _ (.tail _ (.tail _ hp))))
    · refine Off3.of fun p hp => ?_
      rcases List.mem_cons.mp (hsub p hp) with rfl | hp
      · exact ⟨Nat.ne_of_gt (lt8 _ (.tail _ (.head _))), Nat.ne_of_gt (lt8 _ (.tail _ (.tail _ (.head _)))), Nat.ne_of_gt (lt8 _ (.tail _ (.tail _ (.tail _ (.head _)))))⟩
      · exact off.mem p hp
  · intro ys nx hA
    obtain ⟨g0, g1, g2, g3, v0, v1, v2, v3, rfl, rfl, ⟨i0, i1, i2, i3⟩, l1, l2, l3, lb⟩ := hA.four
    intro R hR tkR FR NR oR
    have l0 : lp < g0 := lb _ (.head _)
    obtain ⟨oR0, oR1, oR2, oR3, oR4, oR5, oR6, oR7, oR8, -⟩ := oR
    clear lb hA F6 N2 R6
    dsimp only
    k_steps
    refine Halt.go ?_
    (rename Fr _ _ _ _ => FR2)
    have hRo : (@Ne Nat g0 R) ∧ (@Ne Nat g1 R) ∧ (@Ne Nat g2 R) ∧ (@Ne Nat g3 R) ∧ (@Ne Nat lp R) ∧ (@Ne Nat (L1 + 1 + 1 + 1 + 1) R) ∧ (@Ne Nat (L1 + 1 + 1 + 1) R) ∧ (@Ne Nat (L1 + 1 + 1) R) ∧ (@Ne Nat (L1 + 1) R) := ⟨oR0, oR1, oR2, oR3, oR4, oR5, oR6, oR7, oR8⟩
    have hpo : LpOff R g0 g1 g2 g3 L1 lp := ⟨Nat.ne_of_lt l0, Nat.ne_of_lt (Nat.lt_trans l0 l1), Nat.ne_of_lt (Nat.lt_trans (Nat.lt_trans l0 l1) l2), Nat.ne_of_lt (Nat.lt_trans (Nat.lt_trans (Nat.lt_trans l0 l1) l2) l3), oR4, Nat.ne_of_gt hlp, Nat.ne_of_gt (Nat.lt_trans (Nat.lt_succ_self _) hlp), Nat.ne_of_gt (Nat.lt_trans (Nat.lt_succ_self _) (Nat.lt_trans (Nat.lt_succ_self _) hlp)), Nat.ne_of_gt (Nat.lt_trans (Nat.lt_succ_self _) (Nat.lt_trans (Nat.lt_succ_self _) (Nat.lt_trans (Nat.lt_succ_self _) hlp)))⟩
    have hgs : L1 + 1 + 1 + 1 + 1 < g0 := Nat.lt_trans hlp l0
    have hdc : d = 1 ∨ d = 2 ∨ d = 3 ∨ d = 4 := by omega
    have hsm : Builtin.Range.small 0 (d : Int) 1 = true := by rcases hdc with rfl | rfl | rfl | rfl <;> decide
    have hsz : Builtin.Range.rangeSize 0 (d : Int) 1 = ((d : Nat) : Int) := by rcases hdc with rfl | rfl | rfl | rfl <;> rfl
    have zz : ∀ g, rs ks ws d g 0 = List.replicate d 0 := fun _ => rfl
    refine my_list (h₀ := s.heap) (RJ ks ws d R g0 g1 g2 g3 L1 oD o4) rfl hlk hik FR2 NR ⟨lp, vp, v0, v1, v2, v3, 0, oP, o1, none, rfl, rfl, hip2, i0, i1, i2, i3, dP, d1, hpo⟩ ?_ ?_
    · clear oR0 oR1 oR2 oR3 oR4 oR5 oR6 oR7 oR8 hpo NR FR2 hip2 dP d1 hlp l0 i0 i1 i2 i3
      intro i n t m₁ nx I oI h tk hn hJ hoff Fl Nl
      obtain ⟨lp', vp', u0, u1, u2, u3, np, oP', oT, zT, rfl, hm, j, j0, j1, j2, j3, dP', dT, q1, q2, q3, q4, q5, q6, q7, q8, q9⟩ := hJ
      simp only [RLed, List.forall_mem_cons] at hoff Nl
      obtain ⟨w1, w2, w3, w4, w5, w6, w7, w8, w9, w0, -⟩ := hoff
      replace w1 : @Ne Nat R I := w1
      replace w2 : @Ne Nat g0 I := w2
      replace w3 : @Ne Nat g1 I := w3
      replace w4 : @Ne Nat g2 I := w4
      replace w5 : @Ne Nat g3 I := w5
      replace w6 : @Ne Nat lp' I := w6
      replace w7 : @Ne Nat (L1 + 1 + 1 + 1 + 1) I := w7
      replace w8 : @Ne Nat (L1 + 1 + 1 + 1) I := w8
      replace w9 : @Ne Nat (L1 + 1 + 1) I := w9
      replace w0 : @Ne Nat (L1 + 1) I := w0
      have em : kstB m₁ [(Str.ofString "rests", .ref R)] = m₁ := js_map (x := Str.ofString "k") (List.forall_mem_cons.mpr ⟨hm, List.forall_mem_nil _⟩)
      rw [← em] at Fl
      obtain ⟨x0, x1, x2, x3, -, x5, x6, x7, x8⟩ := hRo
      have y01 : @Ne Nat g0 g1 := Nat.ne_of_lt l1
      have y12 : @Ne Nat g1 g2 := Nat.ne_of_lt l2
      have y23 : @Ne Nat g2 g3 := Nat.ne_of_lt l3
      have y02 : @Ne Nat g0 g2 := Nat.ne_of_lt (Nat.lt_trans l1 l2)
      have y13 : @Ne Nat g1 g3 := Nat.ne_of_lt (Nat.lt_trans l2 l3)
      have y03 : @Ne Nat g0 g3 := Nat.ne_of_lt (Nat.lt_trans l1 (Nat.lt_trans l2 l3))
      obtain ⟨z01, z02, z03, z04⟩ := cellsNe hgs
      obtain ⟨z11, z12, z13, z14⟩ := cellsNe (Nat.lt_trans hgs l1)
      obtain ⟨z21, z22, z23, z24⟩ := cellsNe (Nat.lt_trans hgs (Nat.lt_trans l1 l2))
      obtain ⟨z31, z32, z33, z34⟩ := cellsNe (Nat.lt_trans hgs (Nat.lt_trans l1 (Nat.lt_trans l2 l3)))
      have a0 := rs_length ks ws d 0 i
      have a1 := rs_length ks ws d 1 i
      have a2 := rs_length ks ws d 2 i
      have a3 := rs_length ks ws d 3 i
      have ap := pw_length ws hd1 i
      refine wpAny_execs_cons (wpAny_mono (Q := fun f s' => f = .next ∧ ∃ h' tk' m' u0' u1' u2' u3', s' = { s with heap := h', toks := tk' } ∧ Fr s.heap L1 h' m' ∧ News s.heap L1 h' ((I, oI) :: RLed R g0 g1 g2 g3 L1 oD o4 lp' vp' u0' u1' u2' u3' np oP' oT) ∧ m' (Str.ofString "rests") = some (.ref R) ∧
        IntsAre u0' (rs ks ws d 0 (i + 1)) ∧ IntsAre u1' (rs ks ws d 1 (i + 1)) ∧ IntsAre u2' (rs ks ws d 2 (i + 1)) ∧ IntsAre u3' (rs ks ws d 3 (i + 1))) ?_ ?_ (fun _ _ e => e))
      · have hnn := hbk n (List.mem_of_getElem? hn)
        have aK := rs_length ks ws d n i
        refine kind_pick (ws := ws) (d := d) (tl := [(lp', listOf vp'.toArray np), (L1 + 1 + 1 + 1 + 1, oT), (L1 + 1 + 1 + 1, oP'), (L1 + 1 + 1, oD), (L1 + 1, o4)]) hn hnn j0 j1 j2 j3 y01 y02 y03 y12 y13 y23 fun gK gA gB gC vK vA vB vC hpk jK hin hPn hne hout => ?_
        have Nq : News s.heap L1 h ((I, oI) :: (R, listOf [.ref g0, .ref g1, .ref g2, .ref g3].toArray 4) :: (gK, listOf vK.toArray 0) :: (gA, listOf vA.toArray 0) :: (gB, listOf vB.toArray 0) :: (gC, listOf vC.toArray 0) :: [(lp', listOf vp'.toArray np), (L1 + 1 + 1 + 1 + 1, oT), (L1 + 1 + 1 + 1, oP'), (L1 + 1 + 1, oD), (L1 + 1, o4)]) := fun q hq => Nl q (mem2 hin hq)
        have kI := hPn I w2 w3 w4 w5
        have kR := hPn R x0 x1 x2 x3
        have kl := hPn lp' (Ne.symm q1) (Ne.symm q2) (Ne.symm q3) (Ne.symm q4)
        have kc1 := hPn _ (Ne.symm z01) (Ne.symm z11) (Ne.symm z21) (Ne.symm z31)
        have kc2 := hPn _ (Ne.symm z02) (Ne.symm z12) (Ne.symm z22) (Ne.symm z32)
        have kc3 := hPn _ (Ne.symm z03) (Ne.symm z13) (Ne.symm z23) (Ne.symm z33)
        have kc4 := hPn _ (Ne.symm z04) (Ne.symm z14) (Ne.symm z24) (Ne.symm z34)
        have kA := hne.1
        have kB := hne.2.1
        have kC := hne.2.2
        clear Nl hin hPn hne j0 j1 j2 j3 w1 w2 w3 w4 w5 w6 w7 w8 w9 w0 x0 x1 x2 x3 x5 x6 x7 x8 z01 z02 z03 z04 z11 z12 z13 z14 z21 z22 z23 z24 z31 z32 z33 z34 q1 q2 q3 q4 q5 q6 q7 q8 q9 y01 y02 y03 y12 y13 y23
        k_steps
        refine Halt.go ?_
        (rename Fr _ _ _ _ => F7)
        (rename News _ _ _ _ => N7)
        (rename IsRange _ _ _ _ _ _ _ _ => R7)
        refine my_range (n := d) (fun v : List Value => (I, oI) :: (R, listOf [.ref g0, .ref g1, .ref g2, .ref g3].toArray 4) :: (gK, listOf v.toArray 0) :: (gA, listOf vA.toArray 0) :: (gB, listOf vB.toArray 0) :: (gC, listOf vC.toArray 0) :: [(lp', listOf vp'.toArray np), (L1 + 1 + 1 + 1 + 1, oT), (L1 + 1 + 1 + 1, oP'), (L1 + 1 + 1, oD), (L1 + 1, o4)]) (fun _ => [(Str.ofString "rests", .ref R), (Str.ofString "kind", .int n t)]) (fun k v => IntsAre v (addN (pw ws d i) (rs ks ws d n i) k)) vK rfl R7 hsm hsz F7 N7 (List.forall_mem_cons.mpr ⟨by with_unfolding_all rfl, List.forall_mem_cons.mpr ⟨by with_unfolding_all rfl, List.forall_mem_nil _⟩⟩) (by assumption) ?_ ?_
        · intro v k tt u7 h7 tk7 own hk7 hoff7 hP F8 N8
          clear F7 N7 R7
          have aN := addN_length (pw ws d i) (rs ks ws d n i) k
          simp only [List.cons_append, List.nil_append] at N8
          (try k_fold)
          k_steps
          refine Halt.go ?_
          (rename Fr _ _ _ _ => FF)
          (rename News _ _ _ _ => NN)
          (rename IntsAre (List.set _ _ _) _ => iS)
          have ek : (0 + (k : Int)).toNat = k := by rw [Int.zero_add]; rfl
          have eS : addN (pw ws d i) (rs ks ws d n i) (k + 1) = (addN (pw ws d i) (rs ks ws d n i) k).set (0 + (k : Int)).toNat ((addN (pw ws d i) (rs ks ws d n i) k).getD (0 + (k : Int)).toNat 0 + (pw ws d i).getD (0 + (k : Int)).toNat 0) := by rw [ek]; rfl
          exact my_end _ FF NN (fun p hp => List.mem_append_left own hp) (fun p hp => List.mem_append_right ((I, oI) :: (R, listOf [.ref g0, .ref g1, .ref g2, .ref g3].toArray 4) :: (gK, listOf (v.set _ _).toArray 0) :: (gA, listOf vA.toArray 0) :: (gB, listOf vB.toArray 0) :: (gC, listOf vC.toArray 0) :: [(lp', listOf vp'.toArray np), (L1 + 1 + 1 + 1 + 1, oT), (L1 + 1 + 1 + 1, oP'), (L1 + 1 + 1, oD), (L1 + 1, o4)]) hp) rfl (List.forall_mem_cons.mpr ⟨by with_unfolding_all rfl, List.forall_mem_cons.mpr ⟨by with_unfolding_all rfl, List.forall_mem_nil _⟩⟩) (eS ▸ iS)
        · intro v u7 h7 tk7 hP F8 N8
          obtain ⟨u0', u1', u2', u3', hq, i0', i1', i2', i3'⟩ := hout v (by rw [rs_hit hn]; exact hP)
          exact ⟨rfl, _, _, _, u0', u1', u2', u3', rfl, F8, fun q h => N8 q (mem2 hq h), rfl, i0', i1', i2', i3'⟩
      · rintro f s' ⟨rfl, h5, tk5, m5, u0', u1', u2', u3', rfl, Ft, Nt, hm5, jj0, jj1, jj2, jj3⟩
        clear Fl Nl em
        have em5 : kstB m5 [(Str.ofString "rests", .ref R)] = m5 := js_map (x := Str.ofString "k") (List.forall_mem_cons.mpr ⟨hm5, List.forall_mem_nil _⟩)
        rw [← em5] at Ft
        simp only [RLed] at Nt
        dsimp only
        k_steps
        refine Halt.go ?_
        (rename News _ _ _ _ => lN')
        (rename IntsAre _ _ => lI')
        refine' c_concat (na := 0) ?kC ?ka ?kb ?kc ?kd ?_
        (case kC => regstrif_slice)
        (case ka => exact (lN' _ (.tail _ (.head _))).1)
        (case kb => exact Nat.le_of_ble_eq_true rfl)
        (case kc => exact PySem.IsL.isList (n := _) (lN' _ (.head _)).1)
        (case kd => (rw [IntsAre.length lI', List.length_take]; omega))
        intro l9 n9 h9 tk9 F9 N9 ne9 kp9
        have ng9 := gnNe_of ne9
        simp only [GnNe, and_true] at ng9
        clear ne9 kp9
        (try dsimp only)
        (try k_fold)
        k_steps
        refine Halt.go ?_
        (rename Fr _ _ _ _ => FC)
        (rename News _ _ _ _ => NC)
        (rename IsRange _ _ _ _ _ _ _ _ => RC)
        have hcat := hcat_of (p := pw ws d i) NC (by assumption)
        have hcl : (0 :: (pw ws d i).dropLast).length = d := by simp only [List.length_cons, List.length_dropLast]; omega
        have hk12 : i < 12 := by have := (List.getElem?_eq_some_iff.mp hn).1; omega
        have hbpi := hbp i hk12
        refine CompSrc.range (n := d) (by rfl) FC NC RC hsm hsz (by rw [PySem.sizeLine_eq]; omega) (fun gg => comp_ind (n := d) (fun k ys nws => nws = _ ∧ IntsAre ys (listN (fun k => (0 :: (pw ws d i).dropLast).getD k 0 - (pw ws d i).getD (d - 1) 0 * ws.getD k 0) k)) ?_ ?_ d 0 [] _ (Nat.zero_add d) ⟨rfl, .nil⟩)
        · rintro k ys _ v I2 oI2 C2 oC2 D2 m₂ h tk E' hk ⟨rfl, hIy⟩ hP hC hx Fa Na off ne
          clear FC NC RC
          obtain ⟨tv, rfl⟩ := hP
          dsimp only
          k_steps
          refine Halt.go ?_
          refine' c_mul ?kC ?k7 ?k8 ?_
          (case kC => regstrif_slice)
          (case k7 => exact bd_at (by assumption) (by decide) _)
          (case k8 => exact bd_at (by assumption) (by decide) _)
          regstrif_gather
          k_steps
          refine Halt.go ?_
          refine' c_sub ?kC ?_
          (case kC => regstrif_slice)
          regstrif_gather
          k_steps
          refine Halt.go ?_
          (rename Fr _ _ _ _ => FE)
          (rename News _ _ _ _ => NE)
          refine CompEnd.intro FE NE _ (fun p hp => hp) off trivial ⟨rfl, ints_step hIy ?_⟩
          have e1 : (0 + (k : Int)).toNat = k := by omega
          have e2 : ((d : Int) - 1).toNat = d - 1 := by omega
          simp only [e1, e2]
        · rintro ys _ ⟨rfl, hIy⟩ R2 hR2 tkR2 FR2 NR2 oR2
          clear FC NC RC
          obtain ⟨-, -, -, r0, r1, r2, r3, r4, r5, r6, r7, r8, r9, r10, -⟩ := oR2
          have NR3 : News s.heap L1 hR2 ((R2, listOf ys.toArray ys.length) :: (I, oI) :: RLed R g0 g1 g2 g3 L1 oD o4 lp' vp' u0' u1' u2' u3' np _ _) := fun p hp => NR2 p (by
            rcases List.mem_cons.mp hp with rfl | hp
            · exact .head _
            · exact .tail _ (.tail _ (.tail _ (.tail _ hp))))
          clear NR2
          simp only [RLed] at NR3
          dsimp only
          k_steps
          (rename Fr _ _ _ _ => FZ)
          (rename News _ _ _ _ => NZ)
          (rename Obj.data _ = Data.cell (some (Value.int _ _)) => dT2)
          (rename Obj.data _ = Data.cell (some (Value.ref R2)) => dP2)
          rw [em5] at FZ
          refine ⟨_, _, _, RLed R g0 g1 g2 g3 L1 oD o4 R2 ys u0' u1' u2' u3' ys.length _ _, rfl, FZ, fun p hp => NZ p ?_, ?_, R2, ys, u0', u1', u2', u3', ys.length, _, _, _, rfl, hm5, hIy, jj0, jj1, jj2, jj3, dP2, dT2, ⟨Ne.symm r2, Ne.symm r3, Ne.symm r4, Ne.symm r5, Ne.symm r1, Ne.symm r7, Ne.symm r8, Ne.symm r9, Ne.symm r10⟩⟩
          · rcases List.mem_cons.mp hp with rfl | hp
            · k_mem
            rcases List.mem_cons.mp hp with rfl | hp
            · k_mem
            rcases List.mem_cons.mp hp with rfl | hp
            · k_mem
            rcases List.mem_cons.mp hp with rfl | hp
            · k_mem
            rcases List.mem_cons.mp hp with rfl | hp
            · k_mem
            rcases List.mem_cons.mp hp with rfl | hp
            · k_mem
            rcases List.mem_cons.mp hp with rfl | hp
            · k_mem
            rcases List.mem_cons.mp hp with rfl | hp
            · k_mem
            rcases List.mem_cons.mp hp with rfl | hp
            · k_mem
            rcases List.mem_cons.mp hp with rfl | hp
            · k_mem
            rcases List.mem_cons.mp hp with rfl | hp
            · k_mem
            exact nomatch hp
          · simp only [RLed, List.forall_mem_cons]
            exact ⟨w1, w2, w3, w4, w5, Ne.symm r0, w7, w8, w9, w0, List.forall_mem_nil _⟩
    · intro m₁ nx h tk hJ Fl Nl
      clear oR0 oR1 oR2 oR3 oR4 oR5 oR6 oR7 oR8 hpo NR FR2 hip2 dP d1 hlp l0 i0 i1 i2 i3
      obtain ⟨lp', vp', u0, u1, u2, u3, np, oP', oT, zT, rfl, hm, j, j0, j1, j2, j3, dP', dT, q1, q2, q3, q4, q5, q6, q7, q8, q9⟩ := hJ
      have em : kstB m₁ [(Str.ofString "rests", .ref R)] = m₁ := js_map (x := Str.ofString "k") (List.forall_mem_cons.mpr ⟨hm, List.forall_mem_nil _⟩)
      rw [← em] at Fl
      have Nl2 : News s.heap L1 h [(R, listOf [.ref g0, .ref g1, .ref g2, .ref g3].toArray 4), (g0, listOf u0.toArray 0), (g1, listOf u1.toArray 0), (g2, listOf u2.toArray 0), (g3, listOf u3.toArray 0)] := fun p hp => Nl p (by
        rcases List.mem_cons.mp hp with rfl | hp
        · k_mem
        rcases List.mem_cons.mp hp with rfl | hp
        · k_mem
        rcases List.mem_cons.mp hp with rfl | hp
        · k_mem
        rcases List.mem_cons.mp hp with rfl | hp
        · k_mem
        rcases List.mem_cons.mp hp with rfl | hp
        · k_mem
        exact nomatch hp)
      clear Nl
      dsimp only
      k_steps
      refine Halt.go ?_
      (rename Fr _ _ _ _ => F3)
      (rename News _ _ _ _ => N3)
      refine zip_rows F3 (PySem.IsL.isList (n := _) (N3 _ (.tail _ (.head _))).1) (PySem.IsL.isList (n := _) (N3 _ (.tail _ (.tail _ (.head _)))).1) ?_
      intro h4 z TI TO i1 i2 D4 st F4 k4 b1 b2 b3 b4 _
      refine ⟨d, z, TI, TO, i1, i2, g0, g1, u0, u1, _, _, _, rfl, rfl, D4, st, j0, j1, rs_length ks ws d 0 _, rs_length ks ws d 1 _, (by rw [PySem.sizeLine_eq]; omega), F4, N3.grown k4, zip_off F3 N3 b1 b2 b3 b4, ?_⟩
      intro Ds ysS h5 tk5 F5 N5 o1 hIS
      clear F3 N3 F4 k4 b1 b2 b3 b4 st D4
      simp only [Off1, and_true] at o1
      dsimp only
      k_steps
      refine Halt.go ?_
      (rename Fr _ _ _ _ => F3)
      (rename News _ _ _ _ => N3)
      refine zip_rows F3 (PySem.IsL.isList (n := _) (N3 _ (.tail _ (.tail _ (.tail _ (.tail _ (.head _)))))).1) (PySem.IsL.isList (n := _) (N3 _ (.tail _ (.tail _ (.tail _ (.tail _ (.tail _ (.head _))))))).1) ?_
      intro h4 z TI TO i1 i2 D4 st F4 k4 b1 b2 b3 b4 _
      refine ⟨d, z, TI, TO, i1, i2, g2, g3, u2, u3, _, _, _, rfl, rfl, D4, st, j2, j3, rs_length ks ws d 2 _, rs_length ks ws d 3 _, (by rw [PySem.sizeLine_eq]; omega), F4, N3.grown k4, zip_off F3 N3 b1 b2 b3 b4, ?_⟩
      intro Dt ysT h6 tk6 F6 N6 o2 hIT
      clear F3 N3 F4 k4 b1 b2 b3 b4 st D4
      simp only [Off1, and_true] at o2
      dsimp only
      k_steps
      (rename Fr _ _ _ _ => FZ)
      (rename News _ _ _ _ => NZ)
      have NY : News s.heap L1 _ [(_, listOf #[.ref g0, .ref g1, .ref g2, .ref g3, .ref Ds, .ref Dt] 0), (g0, listOf u0.toArray 0), (g1, listOf u1.toArray 0), (g2, listOf u2.toArray 0), (g3, listOf u3.toArray 0), (Ds, listOf ysS.toArray ysS.length), (Dt, listOf ysT.toArray ysT.length)] := fun p hp => NZ p (by
        rcases List.mem_cons.mp hp with rfl | hp
        · k_mem
        rcases List.mem_cons.mp hp with rfl | hp
        · k_mem
        rcases List.mem_cons.mp hp with rfl | hp
        · k_mem
        rcases List.mem_cons.mp hp with rfl | hp
        · k_mem
        rcases List.mem_cons.mp hp with rfl | hp
        · k_mem
        rcases List.mem_cons.mp hp with rfl | hp
        · k_mem
        rcases List.mem_cons.mp hp with rfl | hp
        · k_mem
        exact nomatch hp)
      obtain ⟨f1, n1, kp⟩ := hback _ _ _ _ FZ NY
      rw [hnk] at j0 j1 j2 j3 hIS hIT
      exact ⟨_, _, _, FZ, NZ, fun _ _ => hret _ _ _ _ _ _ _ _ _ _ _ _ _ _ _ _ _ f1 n1 j0 j1 j2 j3 hIS hIT kp⟩
end
end Mine
namespace Mine
open Sem
section
variable {prog : Program} {w : World} {A : Around} {E : Value → Shared → Prop} {s : Shared}
def noEnd : GenEnd := fun _ _ _ _ => False
theorem pyNext_own {a : Addr} {g n : Nat} {gs : GenState} {Y : Protocol} {Q : Option Value → Shared → Prop}
    (hl : s.heap.NoLimit) (hroom : A.depth < recursionLimit) (hg : s.heap.IsGen a g) (hgs : s.gens[g]? = some gs)
    (hgo : gs.Goes (model prog w) A.in1 noEnd Y n (.send .none) (s.setGen g .running))
    (hY : ∀ v s₁ gs', gs'.bare = true → Y (n - 1) (s.setGen g .running) v s₁ (fun r' s'' => match n with
        | 0 => False
        | m + 1 => gs'.Goes (model prog w) A.in1 noEnd Y m r' s'') → Q (some v) (s₁.setGen g gs')) :
    wpAny (model prog w) A (pyNext (.ref a)) Q E s := by
  unfold pyNext
  refine wpAny_bind (wpAny_attempt (wpAny_callSpecial?_slot (name := Str.ofString "__next__") hg.typeIs slot_gen_next
    (wpAny_call_entry slot_gen_next hg.typeIs entry_gen_next ?_ (args_gen_next _))))
  show wpAny _ A.in1 (Builtin.Generator.genWake (.ref a) (.send .none)) _ _ s
  unfold Builtin.Generator.genWake
  refine wpAny_bind (wpAny_holding (wpAny_genNumber hg (wpAny_bind (wpAny_genState hgs ?_))))
  cases gs with
  | running => exact hgo.elim
  | finished => exact hgo.elim
  | _ =>
    refine wpAny_bind (wpAny_roomToWake hl hroom ?_)
    show wpAny _ A.in1 (.resume g (.send .none) [] _) _ _ s
    refine wpAny_resumeQ hgs hgo (fun x s₁ hx => hx.elim) (fun v s₁ gs' hb hv => ?_)
    exact wpAny_pure ⟨v, rfl, wpAny_pure (hY v s₁ gs' hb hv)⟩
theorem code_gen {h₀ : Heap} {L : Addr} {m mg mb : Str → Option Value} {K : Frag} {p : Program} {loose : List Str} {mean : ExcName → Option Value} {R : Result → Shared → Prop} {name qual : Str} {params : Arguments} {body : List Stmt} {scope : Scope} {dV kV doc pm cdv ct oc : Value} {an od : Option Addr} {osl : Array (Option Value)} {f : Addr} {args : Args} {binds : List (Str × Value)}
    (F : Fr h₀ L s.heap m) (X₀ : K.In h₀) (T : Top p loose mean mg mb h₀)
    (ho : K.lookup f = some ⟨oc, od, .func (fnOf name qual params body scope dV kV doc pm an cdv ct), osl⟩) (hcd : codeIn K cdv qual = true) (hroom : A.depth < recursionLimit)
    (hbind : BindsTo s (fnOf name qual params body scope dV kV doc pm an cdv ct) args binds) (hloc : ∀ y ∈ binds, scope.names.lookup y.1 = some .local)
    (h : ∀ (h₁ : Heap) (gob : Obj), h₁.Ns s.heap.objs.size (fun x => binds.reverse.lookup x) → h₁.objs.size = s.heap.objs.size + 1 → (∀ b o, s.heap.get? b = some o → h₁.get? b = some o) →
      gob.cls = .type "generator" → (∃ nm qn, gob.data = .fields #[.int s.gens.size 0, nm, qn]) → gob.slots = #[] → gob.isFreed = false →
      R (.ok (.ret (.ref h₁.objs.size))) { s with heap := h₁.push gob, gens := s.gens.push (.fresh (.func body (envOf qual scope s.heap.objs.size f cdv))), toks := s.toks + binds.length + 1 + 1 })
    (hco : scope.isCoroutine = false) (hgen : scope.isGenerator = true) (hk : scope.kind = .function) (hcell : ∀ x ∈ scope.names, x.2 ≠ .cell) : codeAny (model prog w) A (.call (.ref f) args) R s := by
  refine codeAny_call_generator hroom ((X₀.keeps F.keep) _ _ ho) rfl hco hgen rfl (codeRec_of (X₀.keeps F.keep) hcd) (hbind _ _ _ _ ?_)
  refine wpAny_newFunctionEnv hcell hloc (fun h₁ hns hsb => ?_) hk
  refine ⟨(T.nolimit.keeps F.keep).fresh _ hsb, ?_⟩
  exact h h₁ _ hns (by rw [hsb.1, Heap.size_push]) (fun b o e => hsb.extBut b o (Nat.ne_of_lt (Heap.lt_size e)) (Heap.get?_push_of_some _ e)) rfl ⟨_, _, rfl⟩ rfl rfl
end
section
variable {M : Model} {prog : Program} {w : World} {A : Around} {R : GenEnd} {Y : Protocol} {n : Nat} {s₀ : Shared} {c : Code} {fs : List Frame} {s : Shared} {env : Env} {K : Flow → Sem Fin} {H : Value → Sem Fin} {gd : Bool → Bool} {lv : List Value → List Value}
abbrev NoE : Value → Shared → Prop := fun _ _ => False
theorem seg_step {st : Stmt} {rest : List Stmt} (h : wpAny M (A.over c fs) (exec st env) (fun f s' => f = .next ∧ Seg M A R Y n s₀ c ((execs rest env).wrap K H gd lv) fs s') NoE s) :
    Seg M A R Y n s₀ c ((execs (st :: rest) env).wrap K H gd lv) fs s := by
  refine seg_execs_cons (seg_wrap (wpAny_mono h (fun f s' h' => ?_) fun _ _ e => e.elim))
  obtain ⟨rfl, h'⟩ := h'
  exact h'
theorem seg_For {target iter : PySem.Expr} {body : List Stmt} {pos : Pos}
    (h : wpAny M (A.over c fs) (eval iter env) (fun x s₁ => wpAny M (A.over c fs) (pyIter x) (fun it s₂ => ∀ p k, Seg M A R Y n s₀ (.forLoop target it body [] env) (M.den (.forLoop target it body [] env)) (.ret k none (gd false) (lv []) c p [] :: fs) s₂) NoE s₁) NoE s)
    (hs : ∀ x, foldedSetIterable iter env x = pure x := by intro _; rfl) : Seg M A R Y n s₀ c ((exec (.For target iter body [] pos) env).wrap K H gd lv) fs s := by
  rw [exec_For]
  refine PySem.seg_bind_wrap (wpAny_standAt ?_)
  refine PySem.seg_bind_wrap (wpAny_mono h (fun x s₁ h₁ => ?_) fun _ _ e => e.elim)
  refine PySem.seg_bind_wrap (wpAny_of_eq (hs x) ?_)
  refine PySem.seg_bind_wrap (wpAny_standAt ?_)
  refine PySem.seg_bind_wrap (wpAny_holding (wpAny_mono h₁ (fun it s₂ h₂ => ?_) fun _ _ e => e.elim))
  exact seg_call fun p => h₂ p _
theorem seg_forLoop {target : PySem.Expr} {it : Value} {body : List Stmt}
    (h : wpAny (model prog w) (A.over (.forLoop target it body [] env) fs) (pyNext it) (fun r s' => ∃ v, r = some v ∧ wpAny (model prog w) (A.over (.forLoop target it body [] env) fs) (letOwnedTupleGo target it v) (fun _ s₁ =>
        wpAny (model prog w) (A.over (.forLoop target it body [] env) fs) (assign target env v) (fun _ s₂ => ∀ K H, K .next = .pure (.again (.forLoop target it body [] env)) →
          Seg (model prog w) A R Y n s₀ (.forLoop target it body [] env) ((execs body env).wrap K H id id) fs s₂) NoE s₁) NoE s') NoE s) :
    Seg (model prog w) A R Y n s₀ (.forLoop target it body [] env) ((model prog w).den (.forLoop target it body [] env)) fs s := by
  show Seg _ A R Y n s₀ _ ((forTurn target it body [] env).onRaise (fun x => do noteFrame x env; theTreesLotGoes x)) fs s
  unfold forTurn
  rw [Sem.onRaise_eq_wrap]
  refine PySem.seg_bind_wrap (wpAny_standAt ?_)
  refine PySem.seg_bind_wrap (wpAny_onRaise (wpAny_mono h (fun r s' h' => ?_) fun _ _ e => e.elim))
  obtain ⟨v, rfl, h'⟩ := h'
  refine PySem.seg_bind_wrap (wpAny_mono h' (fun _ s₁ h₁ => ?_) fun _ _ e => e.elim)
  refine PySem.seg_bind_wrap (wpAny_mono h₁ (fun _ s₂ h₂ => ?_) fun _ _ e => e.elim)
  rw [Sem.bind_eq_wrap', Sem.wrap_wrap]
  exact h₂ _ _ rfl
theorem seg_If {test : PySem.Expr} {body orelse rest : List Stmt} {pos : Pos}
    (h : wpAny M (A.over c fs) (isTrue test env (eval test env)) (fun b s' => Seg M A R Y n s₀ c ((if b = true then execs body env else execs orelse env).wrap (fun f => match f with | .next => (execs rest env).wrap K H gd lv | f => K f) H gd lv) fs s') NoE s) :
    Seg M A R Y n s₀ c ((execs (.If test body orelse pos :: rest) env).wrap K H gd lv) fs s := by
  refine seg_execs_cons ?_
  rw [exec_If]
  refine PySem.seg_bind_wrap (wpAny_standAt ?_)
  refine PySem.seg_bind_wrap (wpAny_mono h (fun b s' h' => ?_) fun _ _ e => e.elim)
  exact h'
end
end Mine
namespace Mine
open Sem PyProof.Rows.LCg
def Itr (o : Obj) : Prop := o.cls = .type "list_iterator" ∧ ∃ fs, o.data = .fields fs
def GKeep (Lg : Addr) (h h' : Heap) : Prop := ∀ b o, b ≠ Lg → ¬ Itr o → h.get? b = some o → h'.get? b = some o
def GY (h₀ : Heap) (Lg l : Addr) (lo : Obj) (q : Int) : Protocol := fun m s₀ v s kap =>
  ∃ (t : Tok) (h' : Heap) (tk : Nat) (oL : Obj) (Ig : Addr) (oI : Obj), v = .int q t ∧ s = { s₀ with heap := h', toks := tk } ∧ h'.get? Lg = some oL ∧ (∃ m, NsObj oL m) ∧ h'.get? Ig = some oI ∧ Itr oI ∧ h₀.get? Ig = none ∧
    (∀ b o, h₀.get? b = some o → h'.get? b = some o) ∧ GKeep Lg s₀.heap h' ∧
    (0 < m → ∀ s'' : Shared, s''.heap.get? Lg = some oL → s''.heap.get? Ig = some oI → s''.heap.get? l = some lo → (∀ b o, h₀.get? b = some o → s''.heap.get? b = some o) → kap (.send .none) s'')
def GSt (Lg : Addr) (s₀ s : Shared) : Prop := ∃ (h' : Heap) (tk : Nat), s = { s₀ with heap := h', toks := tk } ∧ GKeep Lg s₀.heap h'
theorem GSt.refl {Lg : Addr} {s : Shared} : GSt Lg s s := ⟨s.heap, s.toks, rfl, fun _ _ _ _ e => e⟩
theorem GSt.step {Lg : Addr} {s₀ s : Shared} (x : GSt Lg s₀ s) {h' : Heap} {tk : Nat} (k : GKeep Lg s.heap h') : GSt Lg s₀ { s with heap := h', toks := tk } := by
  obtain ⟨h₁, tk₁, rfl, k₁⟩ := x
  exact ⟨h', tk, rfl, fun b o hb hi e => k b o hb hi (k₁ b o hb hi e)⟩
section
variable {prog : Program} {w : World} {A : Around} {R : GenEnd} {env : Env} {h₀ : Heap} {Lg l : Addr} {lo : Obj} {q : Int} {m : Str → Option Value}
theorem seg_W {test e : PySem.Expr} {yp ep : Pos} {t : Tok} {oI : Obj} {Ig : Addr} (hab : h₀.objs.size ≤ Lg)
    (htest : ∀ (A : Around) (s : Shared) (Q : Bool → Shared → Prop), Q true s → wpAny (model prog w) A (isTrue test env (eval test env)) Q NoE s)
    (hev : ∀ (A : Around) (s : Shared) (Q : Value → Shared → Prop), Fr h₀ Lg s.heap m → Q (.int q t) s → wpAny (model prog w) A (eval e env) Q NoE s)
    (hco : env.scope.isCoroutine = false) (hi : interactive env = false) (hItr : Itr oI) (hI₀ : h₀.get? Ig = none) :
    ∀ n fs s₀ s, splitAtGen fs = none → fs.any Frame.guarded = false → GSt Lg s₀ s → Fr h₀ Lg s.heap m → s.heap.get? Ig = some oI →
      Seg (model prog w) A R (GY h₀ Lg l lo q) (n + 1) s₀ (.whileLoop test [.Expr (.Yield (some e) yp) ep] [] env) ((model prog w).den (.whileLoop test [.Expr (.Yield (some e) yp) ep] [] env)) fs s := by
  intro n
  induction n with
  | zero =>
    intro fs s₀ s hfs hfg hs F hI
    refine seg_whileLoop (wpAny_mono (htest _ s (fun b s' => b = true ∧ s' = s) ⟨rfl, rfl⟩) ?_ fun _ _ x => x.elim)
    rintro b _ ⟨rfl, rfl⟩
    rw [if_pos rfl]
    refine seg_execs_cons (seg_Expr_Yield hfs rfl hfg ?_ hco hi)
    refine wpAny_mono (hev _ _ _ F ?_) (fun _ _ h => h) (fun _ _ x => x.elim)
    intro kap hk
    obtain ⟨h', tk, rfl, kp⟩ := hs
    obtain ⟨oL, eL, nL⟩ := ns_obj F.ns
    exact ⟨t, h', tk, oL, Ig, oI, rfl, rfl, eL, ⟨_, nL⟩, hI, hItr, hI₀, F.keep, kp, fun h => absurd h (Nat.lt_irrefl 0)⟩
  | succ n ih =>
    intro fs s₀ s hfs hfg hs F hI
    refine seg_whileLoop (wpAny_mono (htest _ s (fun b s' => b = true ∧ s' = s) ⟨rfl, rfl⟩) ?_ fun _ _ x => x.elim)
    rintro b _ ⟨rfl, rfl⟩
    rw [if_pos rfl]
    refine seg_execs_cons (seg_Expr_Yield hfs rfl hfg ?_ hco hi)
    refine wpAny_mono (hev _ _ _ F ?_) (fun _ _ h => h) (fun _ _ x => x.elim)
    intro kap hk
    obtain ⟨h', tk, rfl, kp⟩ := hs
    obtain ⟨oL, eL, nL⟩ := ns_obj F.ns
    refine ⟨t, h', tk, oL, Ig, oI, rfl, rfl, eL, ⟨_, nL⟩, hI, hItr, hI₀, F.keep, kp, fun _ s'' e1 e2 e3 e4 => hk .none s'' ?_⟩
    refine seg_execs_nil ?_
    exact seg_again rfl (ih fs s'' s'' hfs hfg GSt.refl ⟨nL.ns e1, e4, hab⟩ e2)
end
end Mine
namespace Mine
open Sem PyProof.Rows.LCg
theorem nt_itr_seq {o : Obj} {a : Array Value} {n : Nat} (h : o.data = .seq a n) : ¬ Itr o := by
  rintro ⟨_, fs, e⟩
  rw [h] at e; cases e
theorem nt_itr_ns {o : Obj} {m : Str → Option Value} (h : NsObj o m) : ¬ Itr o := by
  rintro ⟨_, fs, e⟩
  obtain ⟨es, ep, hd, -⟩ := h
  rw [hd] at e; cases e
theorem rest_ex (h₀ h : Heap) (Lg : Addr) : ∃ rest : List (Addr × Obj), News h₀ Lg h rest ∧ (∀ p ∈ rest, ¬ Itr p.2) ∧ ∀ b o, b ≠ Lg → ¬ Itr o → h₀.get? b = none → h.get? b = some o → (b, o) ∈ rest := by
  classical
  refine ⟨(List.range h.objs.size).filterMap fun b => (h.get? b).bind fun o => if b ≠ Lg ∧ ¬ Itr o ∧ h₀.get? b = none then some (b, o) else none, fun p hp => ?_, fun p hp => ?_, fun b o hb hi h0 e => ?_⟩
  · obtain ⟨b, -, e⟩ := List.mem_filterMap.mp hp
    obtain ⟨o, eo, e⟩ := Option.bind_eq_some_iff.mp e
    split at e
    · rename_i c
      cases e
      exact ⟨eo, c.1, c.2.2⟩
    · cases e
  · obtain ⟨b, -, e⟩ := List.mem_filterMap.mp hp
    obtain ⟨o, eo, e⟩ := Option.bind_eq_some_iff.mp e
    split at e
    · rename_i c
      cases e
      exact c.2.1
    · cases e
  · refine List.mem_filterMap.mpr ⟨b, List.mem_range.mpr (Heap.lt_size e), ?_⟩
    rw [e, Option.bind_some, if_pos ⟨hb, hi, h0⟩]
theorem gkeep_of {h₀ g h' : Heap} {Lg : Addr} {m : Str → Option Value} {pre rest : List (Addr × Obj)} (hb : ∀ b o, h₀.get? b = some o → g.get? b = some o) (hr : ∀ b o, b ≠ Lg → ¬ Itr o → h₀.get? b = none → g.get? b = some o → (b, o) ∈ rest)
    (F : Fr h₀ Lg h' m) (N : News h₀ Lg h' (pre ++ rest)) : GKeep Lg g h' := by
  intro b o hbL hi e
  cases e0 : h₀.get? b with
  | none => exact (N (b, o) (List.mem_append_right _ (hr b o hbL hi e0 e))).1
  | some x =>
    have := hb b x e0
    rw [e] at this
    cases this
    exact F.keep _ _ e0
theorem itr_off {h₀ h : Heap} {L Ig : Addr} {oI : Obj} {news : List (Addr × Obj)} (N : News h₀ L h news) (hn : ∀ p ∈ news, ¬ Itr p.2) (e : h.get? Ig = some oI) (hI : Itr oI) : ∀ p ∈ news, p.1 ≠ Ig := fun p hp z => by
  have := (N p hp).1
  rw [z, e] at this
  cases this
  exact hn p hp hI
theorem ledger_add {h₀ h h' : Heap} {L Ig : Addr} {oI : Obj} {news : List (Addr × Obj)} (N : News h₀ L h news) (hs : Heap.ExtBut Ig h h') (off : ∀ p ∈ news, p.1 ≠ Ig) (e : h'.get? Ig = some oI) (hL : Ig ≠ L) (h0 : h₀.get? Ig = none) : News h₀ L h' ((Ig, oI) :: news) := by
  intro p hp
  rcases List.mem_cons.mp hp with rfl | hp
  · exact ⟨e, hL, h0⟩
  · exact ⟨hs _ _ (off p hp) (N p hp).1, (N p hp).2⟩
section
set_option maxHeartbeats 400000 in
theorem c_grouping {w : World} {mean : ExcName → Option Value} {mg mb : Str → Option Value} {h₀ : Heap} {L : Addr} {m : Str → Option Value} {s : Shared} {A : Around} {Q E : Value → Shared → Prop} {news : List (Addr × Obj)} {l : Addr} {q : Int} {tq tz : Tok} {nl : Nat}
    (F : Fr h₀ L s.heap m) (X : (hd.heap_39 w.params).In h₀) (N : News h₀ L s.heap news) (T : Tp mean mg mb h₀) (hroom : A.depth < recursionLimit)
    (hl : (l, listOf #[.int q tq, .int 0 tz] nl) ∈ news) (hq : 1 ≤ q ∧ q ≤ 12)
    (hret : ∀ (G Lg : Addr) (gob oL : Obj) (gs : GenState) (h' : Heap) (tk' : Nat), Fr h₀ L h' m → News h₀ L h' ((G, gob) :: (Lg, oL) :: news) → (∀ p ∈ news, p.1 ≠ G ∧ p.1 ≠ Lg) → @Ne Nat G Lg → gob.cls = .type "generator" → (∃ nm qn, gob.data = .fields #[.int s.gens.size 0, nm, qn]) → gob.slots = #[] → (∃ m, NsObj oL m) → gs.bare = true →
      (∀ (A' : Around) (n : Nat) (s' : Shared), A'.handled = none → (∀ b o, h₀.get? b = some o → s'.heap.get? b = some o) → s'.heap.get? l = some (listOf #[.int q tq, .int 0 tz] nl) → s'.heap.get? Lg = some oL → gs.Goes (model Pg w) A' noEnd (GY h₀ Lg l (listOf #[.int q tq, .int 0 tz] nl) q) (n + 1) (.send .none) s') →
      Q (.ref G) { s with heap := h', gens := s.gens.push gs, toks := tk' }) :
    wpAny (model Pg w) A (call (.ref 21) [.ref l]) Q E s := by
  refine wpAny_call ?_
  refine code_gen F X T (by k_is) (by k_is) hroom (BindsTo.of_eq rfl) (locs rfl) ?_ rfl rfl rfl (by decide)
  intro h₁ gob hns hsz hk gc gd gsl gfr
  dsimp only
  obtain ⟨oL, eL, nL⟩ := ns_obj hns
  have hlo := N _ hl
  have lo : ∀ p ∈ news, p.1 < s.heap.objs.size := fun p hp => Heap.lt_size (N p hp).1
  have hLl : @Ne Nat s.heap.objs.size l := Nat.ne_of_gt (lo _ hl)
  refine hret h₁.objs.size s.heap.objs.size gob oL _ (h₁.push gob) _ (F.keeps fun b o e => Heap.get?_push_of_some _ (hk b o e)) (fun p hp => ?_) (fun p hp => ⟨?_, Nat.ne_of_lt (lo p hp)⟩) (by rw [hsz]; exact Nat.succ_ne_self _) gc gd gsl ⟨_, nL⟩ rfl ?_
  · rcases List.mem_cons.mp hp with rfl | hp
    · exact ⟨Heap.get?_push_size _ gfr, Nat.ne_of_gt (Nat.lt_of_lt_of_le F.ns.lt (by rw [hsz]; exact Nat.le_succ _)), ktu_new F (by rw [hsz]; exact Nat.le_succ _)⟩
    rcases List.mem_cons.mp hp with rfl | hp
    · exact ⟨Heap.get?_push_of_some _ eL, Nat.ne_of_gt F.ns.lt, ktu_new F (Nat.le_refl _)⟩
    · exact ⟨Heap.get?_push_of_some _ (hk _ _ (N p hp).1), (N p hp).2⟩
  · rw [hsz]; exact Nat.ne_of_lt (Nat.lt_succ_of_lt (lo p hp))
  · intro A' n s' hA' hb hls hLs
    refine ⟨rfl, ?_⟩
    have F1 : Fr h₀ s.heap.objs.size s'.heap _ := ⟨nL.ns hLs, hb, Nat.le_of_lt (Nat.lt_of_le_of_lt F.above F.ns.lt)⟩
    obtain ⟨rest, Nr, hri, hra⟩ := rest_ex h₀ s'.heap s.heap.objs.size
    have N1 : News h₀ s.heap.objs.size s'.heap ((l, listOf #[.int q tq, .int 0 tz] nl) :: rest) := fun p hp => by
      rcases List.mem_cons.mp hp with rfl | hp
      · exact ⟨hls, Ne.symm hLl, hlo.2.2⟩
      · exact Nr p hp
    generalize s.heap.objs.size = Lg at *
    have hab : h₀.objs.size ≤ Lg := F1.above
    have gk := fun (h' : Heap) (m' : Str → Option Value) (pre : List (Addr × Obj)) (F' : Fr h₀ Lg h' m') (N' : News h₀ Lg h' (pre ++ rest)) => gkeep_of hb hra F' N'
    obtain ⟨hq1, hq2⟩ := hq
    clear F N hret hk eL hns hlo lo hb hls hl hra Nr hLs nL
    refine seg_func ?_
    refine seg_step ?_
    (try k_fold)
    k_steps
    (rename Fr _ _ _ _ => F2)
    (rename News _ _ _ _ => N2)
    (try clear F1)
    (try clear N1)
    refine seg_execs_cons (seg_For ?_)
    k_steps
    refine Halt.go ?_
    refine wpAny_pyIter_list (PySem.IsL.isList (n := _) (N2 _ (.head _)).1) ?_
    intro p k
    dsimp only
    rename Heap => h2
    have hLI := F2.ns.lt
    have hI0 := ktu_new F2 (Nat.le_refl _)
    refine seg_forLoop ?_
    refine wpAny_pyNext_list_item (i := 0) (x := .int q tq) ⟨_, Heap.get?_push_size _ rfl, rfl, rfl⟩ (PySem.IsL.isList (n := _) (Heap.get?_push_of_some _ (N2 _ (.head _)).1)) rfl fun h3 hit3 hs3 => ⟨_, rfl, wpAny_pure (wpAny_assign_Name ?_)⟩
    obtain ⟨oI, eI, cI, dI⟩ := hit3
    have iI : Itr oI := ⟨cI, _, dI⟩
    have F3 := (F2.push { cls := .type "list_iterator", data := .fields #[.ref l, .int 0 0] }).sameNew hLI hs3
    have N3 := ledger_add (N2.grown fun b o e => Heap.get?_push_of_some { cls := .type "list_iterator", data := .fields #[.ref l, .int 0 0] } e) hs3.extBut (fun p hp => Nat.ne_of_lt (Heap.lt_size (N2 p hp).1)) eI (Nat.ne_of_gt hLI) hI0
    clear F2 N2 hs3 eI
    dsimp only at F3 N3 ⊢
    generalize h2.objs.size = Ig at *
    (try k_fold)
    k_steps
    rename_i K1 H1 hK1
    refine seg_step ?_
    (try k_fold)
    k_steps
    · exfalso; omega
    · exfalso; omega
    refine seg_If ?_
    k_steps
    rw [if_neg (show ¬ ((q == 0) = true) by simp only [beq_iff_eq]; omega)]
    refine seg_execs_nil ?_
    refine seg_execs_cons (seg_Expr_Yield rfl rfl rfl ?_ rfl rfl)
    k_steps
    rename_i kap hkap
    (rename Fr _ _ _ _ => F5)
    (rename News _ _ _ _ => N5)
    obtain ⟨oL5, eL5, nL5⟩ := ns_obj F5.ns
    refine ⟨tq, _, _, oL5, Ig, oI, rfl, rfl, eL5, ⟨_, nL5⟩, (N5 _ (.head _)).1, iI, hI0, F5.keep, gk _ _ [_, _] F5 N5, fun hn s5 e1 e2 e3 e4 => hkap .none s5 ?_⟩
    obtain ⟨n, rfl⟩ : ∃ k, n = k + 1 := ⟨n - 1, by omega⟩
    dsimp only
    have nlo := (N5 _ (.tail _ (.head _))).2
    obtain ⟨rest6, N6, hri6, hra6⟩ := rest_ex h₀ s5.heap Lg
    have F6 : Fr h₀ Lg s5.heap _ := ⟨nL5.ns e1, e4, hab⟩
    have N7 : News h₀ Lg s5.heap ((Ig, oI) :: (l, listOf #[.int q tq, .int 0 tz] nl) :: rest6) := fun p hp => by
      rcases List.mem_cons.mp hp with rfl | hp
      · exact ⟨e2, Nat.ne_of_gt hLI, hI0⟩
      rcases List.mem_cons.mp hp with rfl | hp
      · exact ⟨e3, nlo⟩
      · exact N6 p hp
    have gk6 := fun (h' : Heap) (m' : Str → Option Value) (pre : List (Addr × Obj)) (F' : Fr h₀ Lg h' m') (N' : News h₀ Lg h' (pre ++ rest6)) => gkeep_of e4 hra6 F' N'
    clear gk F5 N5 nL5 e1 e2 e3 e4 hra6 N6 hri
    refine seg_step ?_
    (try k_fold)
    k_steps
    refine seg_execs_nil ?_
    rw [hK1]
    refine seg_again rfl ?_
    (rename Fr _ _ _ _ => F8)
    (rename News _ _ _ _ => N8)
    obtain ⟨cI, fI, dI'⟩ := id iI
    refine seg_forLoop ?_
    refine wpAny_pyNext_list_item (i := 1) (x := .int 0 tz) ⟨_, (N8 _ (.head _)).1, cI, dI⟩ (PySem.IsL.isList (n := _) (N8 _ (.tail _ (.head _))).1) rfl fun h9 hit9 hs9 => ⟨_, rfl, wpAny_pure (wpAny_assign_Name ?_)⟩
    obtain ⟨oJ, eJ, cJ, dJ⟩ := hit9
    have iJ : Itr oJ := ⟨cJ, _, dJ⟩
    have N8' : News h₀ Lg _ ((l, listOf #[.int q tq, .int 0 tz] nl) :: rest6) := fun p hp => N8 p (.tail _ hp)
    have F9 := F8.sameNew hLI hs9
    have N9 := ledger_add N8' hs9.extBut (itr_off N8' (List.forall_mem_cons.mpr ⟨nt_itr_seq rfl, hri6⟩) (N8 _ (.head _)).1 iI) eJ (Nat.ne_of_gt hLI) hI0
    clear F8 N8 N8' hs9 eJ
    dsimp only at F9 N9 ⊢
    (try k_fold)
    k_steps
    rename_i K2 H2 hK2
    refine seg_step ?_
    (try k_fold)
    k_steps
    refine seg_If ?_
    k_steps
    rw [if_pos (show ((0 : Int) == 0) = true by decide)]
    refine seg_step ?_
    k_steps
    refine seg_execs_cons (seg_While fun p2 => ?_)
    (rename Fr _ _ _ _ => Fa)
    (rename News _ _ _ _ => Na)
    refine seg_W (t := tq) (oI := oJ) (Ig := Ig) hab ?_ ?_ rfl rfl iJ hI0 n _ _ _ rfl rfl ⟨_, _, rfl, gk6 _ _ [_, _] Fa Na⟩ Fa (Na _ (.head _)).1
    · intro A1 s1 Q1 h1
      k_steps
      exact h1
    · intro A1 s1 Q1 F1 h1
      k_steps
      exact h1
end
end Mine
namespace Mine
open Sem PyProof.Rows.LCg
section
variable {prog : Program} {w : World} {A : Around} {E : Value → Shared → Prop} {s : Shared} {env : Env} {h₀ : Heap} {Q : Flow → Shared → Prop}
def TurnAt (prog : Program) (w : World) (A : Around) (env : Env) (target : PySem.Expr) (body : List Stmt) (Q : Flow → Shared → Prop) (E : Value → Shared → Prop) (it : Value) (Inv : Nat → Shared → Prop) (k : Nat) (s' : Shared) : Prop :=
  wpAny (model prog w) A (pyNext it) (fun r s₁ => match r with
    | none => Q .next s₁
    | some v => wpAny (model prog w) A (letOwnedTupleGo target it v) (fun _ s₁' => wpAny (model prog w) A (assign target env v) (fun _ s₂ => wpAny (model prog w) A (execs body env) (fun f s₃ => match f with
      | .next | .cont => ∃ j, j < k ∧ Inv j s₃
      | .brk => Q .next s₃
      | .ret v => Q (.ret v) s₃) E s₂) E s₁') E s₁) E s'
def OwnAt (prog : Program) (w : World) (A : Around) (env : Env) (target : PySem.Expr) (body : List Stmt) (Q : Flow → Shared → Prop) (E : Value → Shared → Prop) (it : Value) (s₂ : Shared) : Prop :=
  ∃ (Inv : Nat → Shared → Prop) (n : Nat), Inv n s₂ ∧ ∀ k s', Inv k s' → TurnAt prog w A env target body Q E it Inv k s'
theorem for_own {target iter : PySem.Expr} {body : List Stmt} {pos : Pos} {L : Addr} {m : Str → Option Value} (_F : Fr h₀ L s.heap m)
    (h : wpAny (model prog w) A (eval iter env) (fun xv s₁ => wpAny (model prog w) A (pyIter xv) (OwnAt prog w A env target body Q E) E s₁) E s)
    (hs : ∀ x, foldedSetIterable iter env x = pure x := by intro _; rfl)
    (hE : PassesOwn (model prog w) A env E := by passes_own) :
    wpAny (model prog w) A (exec (.For target iter body [] pos) env) Q E s := by
  refine wpAny_For (wpAny_mono h (fun xv s₁ h₁ => wpAny_mono h₁ (fun it s₂ h₂ => ?_) fun _ _ e => e) fun _ _ e => e) hs
  obtain ⟨Inv, n, h0, turn⟩ := h₂
  refine codeAny_forLoop_any Inv (fun k s' hI => ?_) n h0
  refine wpAny_mono (turn k s' hI) (fun r s₁ h₁ => ?_) hE
  cases r with
  | none => exact wpAny_execs_nil h₁
  | some v => exact wpAny_mono h₁ (fun _ s₁' h₁' => wpAny_mono h₁' (fun _ s₂ h₂ => wpAny_mono h₂ (fun f s₃ h₃ => by cases f <;> exact h₃) hE) hE) hE
end
theorem setGen_bare {s : Shared} {g : Nat} {x y gs : GenState} (hg : s.gens[g]? = some gs) (hy : y.bare = true) (hb : AllBare s.gens) : AllBare ((s.setGen g x).setGen g y).gens :=
  GenOnlyQ.bare (g := g) (GenOnlyQ.of ((GenOnly.setGen s g x).trans (GenOnly.setGen _ g y)) (setGen_self (setGen_self hg)) hy) hb
section
variable {prog : Program} {w : World} {A : Around} {E : Value → Shared → Prop} {s : Shared} {env : Env} {h₀ : Heap} {x : Str} {body : List Stmt} {Q : Flow → Shared → Prop}
theorem gen_loop {σ : Type} {G Lg l : Addr} {gob oL lo : Obj} {gs : GenState} {q : Int} {px : Pos} {m : Str → Option Value} (Led : σ → List (Addr × Obj)) (ps : σ → List (Str × Value)) (P : Nat → σ → Prop) (c₀ : σ) (adr : List Addr)
    (hh : A.handled = none) (hroom : A.depth < recursionLimit) (hlim : h₀.NoLimit) (hx : env.kindOf x = some .local) (hcl : (env.scope.kind == .class || (env.scope.kind == .module && env.locals != env.globals)) = false)
    (F : Fr h₀ env.locals s.heap m) (N : News h₀ env.locals s.heap ((G, gob) :: (Lg, oL) :: (l, lo) :: Led c₀)) (hgs : s.gens[g]? = some gs)
    (hGL : @Ne Nat G Lg) (hlL : @Ne Nat l Lg) (hlG : @Ne Nat l G) (hadr : ∀ c, (Led c).map (·.1) = adr) (hoff : ∀ b ∈ adr, b ≠ Lg) (hti : ∀ c, ∀ p ∈ Led c, ¬ Itr p.2) (hGi : gob.cls = .type "generator") (hGd : ∃ nm qn, gob.data = .fields #[.int (g : Nat) 0, nm, qn]) (hGs : gob.slots = #[]) (hli : ¬ Itr lo)
    (hgo : ∀ (A' : Around) (n : Nat) (s' : Shared), A'.handled = none → (∀ b o, h₀.get? b = some o → s'.heap.get? b = some o) → s'.heap.get? l = some lo → s'.heap.get? Lg = some oL → gs.Goes (model prog w) A' noEnd (GY h₀ Lg l lo q) (n + 1) (.send .none) s')
    (hk : ∀ p ∈ ps c₀, m p.1 = some p.2) (hp : P 0 c₀) (hb : ∀ i c, P i c → i ≤ 12)
    (turn : ∀ c i t u h tk gens Ig oI oL', P i c → (AllBare s.gens → AllBare gens) → (∀ p ∈ (Lg, oL') :: (G, gob) :: (l, lo) :: Led c, p.1 ≠ Ig) → Fr h₀ env.locals h (fun y => if y = x then some (.int q t) else kstB u (ps c) y) → News h₀ env.locals h ((Ig, oI) :: (Lg, oL') :: (G, gob) :: (l, lo) :: Led c) →
      wpAny (model prog w) A (execs body env) (fun f s₃ => match f with
        | .ret v => Q (.ret v) s₃
        | .brk => Q .next s₃
        | _ => ∃ h' tk' c' m', s₃ = { s with heap := h', toks := tk', gens := gens } ∧ Fr h₀ env.locals h' m' ∧ News h₀ env.locals h' ((Ig, oI) :: (Lg, oL') :: (G, gob) :: (l, lo) :: Led c') ∧ (∀ p ∈ ps c', m' p.1 = some p.2) ∧ P (i + 1) c') E { s with heap := h, toks := tk, gens := gens }) :
    wpAny (model prog w) A (pyIter (.ref G)) (OwnAt prog w A env (.Name x px) body Q E) E s := by
  have isg : ∀ {h : Heap}, h.get? G = some gob → h.IsGen G g := fun e => by
    obtain ⟨nm, qn, hd⟩ := hGd
    exact ⟨gob, nm, qn, e, hGi, hd, hGs⟩
  refine wpAny_pyIter_gen (isg (N _ (.head _)).1) ?_
  refine ⟨fun k s' => ∃ i h tk gens gs' oL' own c m', i + k = 13 ∧ s' = { s with heap := h, toks := tk, gens := gens } ∧ gens[g]? = some gs' ∧ (AllBare s.gens → AllBare gens) ∧ Fr h₀ env.locals h m' ∧ News h₀ env.locals h ((G, gob) :: (Lg, oL') :: (l, lo) :: (own ++ Led c)) ∧ (∀ p ∈ ps c, m' p.1 = some p.2) ∧ P i c ∧
      (∀ (s' : Shared), 1 ≤ k → (∀ b o, h₀.get? b = some o → s'.heap.get? b = some o) → s'.heap.get? l = some lo → s'.heap.get? Lg = some oL' → (∀ p ∈ own, s'.heap.get? p.1 = some p.2) → gs'.Goes (model prog w) A.in1 noEnd (GY h₀ Lg l lo q) k (.send .none) s'), 13,
    ⟨0, s.heap, s.toks, s.gens, gs, oL, [], c₀, m, rfl, rfl, hgs, id, F, N, hk, hp, fun s' _ e1 e2 e3 _ => hgo A.in1 12 s' hh e1 e2 e3⟩, ?_⟩
  rintro k s' ⟨i, h, tk, gens, gs', oL', own, c, m', hik, rfl, hgs', hbar, F', N', hk', hP, hgo'⟩
  have hi := hb i c hP
  unfold TurnAt
  have ne : ∀ {a b : Addr} {o o' : Obj}, h.get? a = some o → h.get? b = some o' → ¬ Itr o → Itr o' → a ≠ b := fun {a b o o'} e e' n y z => by
    rw [z, e'] at e; cases e; exact n y
  refine pyNext_own (n := k) ((hlim.keeps F'.keep)) hroom (isg (N' _ (.head _)).1) hgs' (hgo' _ (by omega) F'.keep (N' _ (.tail _ (.tail _ (.head _)))).1 (N' _ (.tail _ (.head _))).1 (fun p hp => (N' p (.tail _ (.tail _ (.tail _ (List.mem_append_left _ hp))))).1)) ?_
  rintro v s₁ gs2 hbare ⟨t, h2, tk2, oL2, Ig, oI, rfl, rfl, eL, ⟨mL, nL⟩, eI, iI, hI0, hbk, gk, hnext⟩
  obtain ⟨oF, eF, nF⟩ := ns_obj F'.ns
  have NL := N' (Lg, oL') (.tail _ (.head _))
  have hLLg : env.locals ≠ Lg := Ne.symm NL.2.1
  have eF2 := gk _ _ hLLg (nt_itr_ns nF) eF
  have F2 : Fr h₀ env.locals h2 m' := ⟨nF.ns eF2, hbk, F'.above⟩
  have off2 : ∀ p ∈ Led c, p.1 ≠ Lg := fun p hp => hoff _ (by rw [← hadr c]; exact List.mem_map.mpr ⟨p, hp, rfl⟩)
  have eG := gk _ _ hGL (fun y => by have := y.1; rw [hGi] at this; exact absurd (Value.type.inj this) (by decide)) (N' _ (.head _)).1
  have el := gk _ _ hlL hli (N' _ (.tail _ (.tail _ (.head _)))).1
  have hILoc : Ig ≠ env.locals := fun z => by rw [z, eF2] at eI; cases eI; exact nt_itr_ns nF iI
  have N2 : News h₀ env.locals h2 ((Ig, oI) :: (Lg, oL2) :: (G, gob) :: (l, lo) :: Led c) := fun p hp => by
    rcases List.mem_cons.mp hp with rfl | hp
    · exact ⟨eI, hILoc, hI0⟩
    rcases List.mem_cons.mp hp with rfl | hp
    · exact ⟨eL, NL.2⟩
    rcases List.mem_cons.mp hp with rfl | hp
    · exact ⟨eG, (N' _ (.head _)).2⟩
    rcases List.mem_cons.mp hp with rfl | hp
    · exact ⟨el, (N' _ (.tail _ (.tail _ (.head _)))).2⟩
    · have z := N' p (.tail _ (.tail _ (.tail _ (List.mem_append_right _ hp))))
      exact ⟨gk _ _ (off2 p hp) (hti c p hp) z.1, z.2⟩
  have nI : ∀ p ∈ (Lg, oL2) :: (G, gob) :: (l, lo) :: Led c, p.1 ≠ Ig := fun p hp z => by
    have e := (N2 p (.tail _ hp)).1
    rw [z, eI] at e
    cases e
    rcases List.mem_cons.mp hp with rfl | hp
    · exact nt_itr_ns nL iI
    rcases List.mem_cons.mp hp with rfl | hp
    · have := iI.1; rw [hGi] at this; exact absurd (Value.type.inj this) (by decide)
    rcases List.mem_cons.mp hp with rfl | hp
    · exact hli iI
    · exact hti c p hp iI
  refine wpAny_pure (wpAny_assign_Name (wpAny_storeName_local hx F2.ns (fun h3 hn3 hs3 => ?_) hcl))
  have em : kstB m' (ps c) = m' := js_map (x := x) hk'
  have F3 : Fr h₀ env.locals h3 (fun y => if y = x then some (.int q t) else kstB m' (ps c) y) := by
    rw [em]; exact F2.set hn3 hs3
  have N3 : News h₀ env.locals h3 ((Ig, oI) :: (Lg, oL2) :: (G, gob) :: (l, lo) :: Led c) := fun p hp => ⟨hs3.extBut _ _ (N2 p hp).2.1 (N2 p hp).1, (N2 p hp).2⟩
  refine wpAny_mono (turn c i t m' h3 _ ((({ s with heap := h, toks := tk, gens := gens } : Shared).setGen g .running).setGen g gs2).gens Ig oI oL2 hP (fun ha => setGen_bare hgs' hbare (hbar ha)) nI F3 N3) (fun f s₃ h₃ => ?_) fun _ _ e => e
  have fin : ∀ s₃ : Shared, (∃ h' tk' c' m', s₃ = { s with heap := h', toks := tk', gens := ((({ s with heap := h, toks := tk, gens := gens } : Shared).setGen g .running).setGen g gs2).gens } ∧ Fr h₀ env.locals h' m' ∧ News h₀ env.locals h' ((Ig, oI) :: (Lg, oL2) :: (G, gob) :: (l, lo) :: Led c') ∧ (∀ p ∈ ps c', m' p.1 = some p.2) ∧ P (i + 1) c') →
      ∃ j, j < k ∧ ∃ i h tk gens gs' oL' own c m', i + j = 13 ∧ s₃ = { s with heap := h, toks := tk, gens := gens } ∧ gens[g]? = some gs' ∧ (AllBare s.gens → AllBare gens) ∧ Fr h₀ env.locals h m' ∧ News h₀ env.locals h ((G, gob) :: (Lg, oL') :: (l, lo) :: (own ++ Led c)) ∧ (∀ p ∈ ps c, m' p.1 = some p.2) ∧ P i c ∧
      (∀ (s' : Shared), 1 ≤ j → (∀ b o, h₀.get? b = some o → s'.heap.get? b = some o) → s'.heap.get? l = some lo → s'.heap.get? Lg = some oL' → (∀ p ∈ own, s'.heap.get? p.1 = some p.2) → gs'.Goes (model prog w) A.in1 noEnd (GY h₀ Lg l lo q) j (.send .none) s') := by
    rintro s₃ ⟨h', tk', c', m2, rfl, F4, N4, hk4, hP4⟩
    have hi4 := hb _ _ hP4
    refine ⟨k - 1, by omega, i + 1, h', tk', _, gs2, oL2, [(Ig, oI)], c', m2, by omega, rfl, setGen_self (setGen_self hgs'), fun ha => setGen_bare hgs' hbare (hbar ha), F4, fun p hp => N4 p ?_, hk4, hP4, fun s'' h1 e1 e2 e3 e4 => ?_⟩
    · simp only [List.mem_cons, List.mem_append, List.not_mem_nil, or_false] at hp ⊢
      rcases hp with hp | hp | hp | hp | hp
      · exact .inr (.inr (.inl hp))
      · exact .inr (.inl hp)
      · exact .inr (.inr (.inr (.inl hp)))
      · exact .inl hp
      · exact .inr (.inr (.inr (.inr hp)))
    · have hz := hnext (by omega) s'' e3 (e4 (Ig, oI) (.head _)) e2 e1
      obtain ⟨k', rfl⟩ : ∃ k', k = k' + 1 := ⟨k - 1, by omega⟩
      exact hz
  cases f with
  | ret v => exact h₃
  | brk => exact h₃
  | next => exact fin _ h₃
  | cont => exact fin _ h₃
end
end Mine
namespace Mine
open Sem PyProof.Rows.LCg
abbrev tupO (vs : Array Value) (n : Nat) : Obj := { cls := .type "tuple", data := .seq vs n }
section
variable {prog : Program} {w : World} {A : Around} {E : Value → Shared → Prop} {s : Shared} {env : Env} {h₀ : Heap} {y1 y2 : Str} {body : List Stmt} {Q : Flow → Shared → Prop}
theorem pairs_loop {σ : Type} {T : Addr} {nT : Nat} {p1 p2 tp : Pos} {tkk} {m : Str → Option Value} (its : List (Addr × Value × Value)) (tl : List (Addr × Obj)) (Led : σ → List (Addr × Obj)) (ps : σ → List (Str × Value)) (P : Nat → σ → Prop) (c₀ : σ)
    (hh : A.handled = none) (hx1 : env.kindOf y1 = some .local) (hx2 : env.kindOf y2 = some .local) (hcl : (env.scope.kind == .class || (env.scope.kind == .module && env.locals != env.globals)) = false)
    (hT : (T, tupO (its.map (fun p => Value.ref p.1)).toArray nT) ∈ tl) (hits : ∀ p ∈ its, ∃ n, (p.1, tupO #[p.2.1, p.2.2] n) ∈ tl) (hadr : ∀ c, (Led c).map (·.1) = (Led c₀).map (·.1))
    (F : Fr h₀ env.locals s.heap m) (N : News h₀ env.locals s.heap (Led c₀ ++ tl)) (hk : ∀ p ∈ ps c₀, m p.1 = some p.2) (hp : P 0 c₀)
    (turn : ∀ c i p u h tk gens I oI, its[i]? = some p → P i c → (AllBare s.gens → AllBare gens) → (∀ r ∈ Led c ++ tl, r.1 ≠ I) → ¬ Itr oI → Fr h₀ env.locals h (fun y => if y = y2 then some p.2.2 else if y = y1 then some p.2.1 else kstB u (ps c) y) → News h₀ env.locals h ((I, oI) :: (Led c ++ tl)) →
      wpAny (model prog w) A (execs body env) (fun f s₃ => match f with
        | .ret v => Q (.ret v) s₃
        | .brk => Q .next s₃
        | _ => ∃ h' tk' gens' c' m', s₃ = { s with heap := h', toks := tk', gens := gens' } ∧ (AllBare gens → AllBare gens') ∧ Fr h₀ env.locals h' m' ∧ News h₀ env.locals h' ((I, oI) :: (Led c' ++ tl)) ∧ (∀ p ∈ ps c', m' p.1 = some p.2) ∧ P (i + 1) c') E { s with heap := h, toks := tk, gens := gens })
    (done : ∀ c u h tk gens, P its.length c → (AllBare s.gens → AllBare gens) → Fr h₀ env.locals h (kstB u (ps c)) → News h₀ env.locals h (Led c) → Q .next { s with heap := h, toks := tk, gens := gens }) :
    wpAny (model prog w) A (pyIter (.ref T)) (OwnAt prog w A env (.Tuple [.Name y1 p1, .Name y2 p2] tkk tp) body Q E) E s := by
  have hTT : s.heap.IsTuple T (its.map (fun p => Value.ref p.1)).toArray := ⟨_, (N _ (List.mem_append_right _ hT)).1, rfl, _, rfl⟩
  refine wpAny_pyIter_tuple hTT ?_
  have hLI := F.ns.lt
  have hI0 := ktu_new F (Nat.le_refl _)
  have hoffI : ∀ r ∈ Led c₀ ++ tl, r.1 ≠ s.heap.objs.size := fun r hr => Nat.ne_of_lt (Heap.lt_size (N r hr).1)
  have hoffA : ∀ c, ∀ r ∈ Led c ++ tl, r.1 ≠ s.heap.objs.size := fun c r hr => by
    rcases List.mem_append.mp hr with hr | hr
    · have : r.1 ∈ (Led c₀).map (·.1) := by rw [← hadr c]; exact List.mem_map.mpr ⟨r, hr, rfl⟩
      obtain ⟨r', hr', e⟩ := List.mem_map.mp this
      rw [← e]; exact hoffI r' (List.mem_append_left _ hr')
    · exact hoffI r (List.mem_append_right _ hr)
  refine ⟨fun k s' => ∃ i h tk gens c m', i + k = its.length ∧ s' = { s with heap := h, toks := tk, gens := gens } ∧ (AllBare s.gens → AllBare gens) ∧ Fr h₀ env.locals h m' ∧ News h₀ env.locals h (Led c ++ tl) ∧ h.IsTupleIter s.heap.objs.size T i ∧ (∀ p ∈ ps c, m' p.1 = some p.2) ∧ P i c, its.length,
    ⟨0, _, _, _, c₀, m, by omega, rfl, id, F.push _, N.grown fun b o e => Heap.get?_push_of_some _ e, ⟨_, Heap.get?_push_size _ rfl, rfl, rfl⟩, hk, hp⟩, ?_⟩
  generalize s.heap.objs.size = I at *
  rintro k s' ⟨i, h, tk, gens, c, m', hik, rfl, hbar, F', N', hit, hk', hP⟩
  have em : kstB m' (ps c) = m' := js_map (x := y1) hk'
  have hT' : h.IsTuple T (its.map (fun p => Value.ref p.1)).toArray := ⟨_, (N' _ (List.mem_append_right _ hT)).1, rfl, _, rfl⟩
  unfold TurnAt
  by_cases hlt : i < its.length
  · obtain ⟨p, hpi⟩ : ∃ p, its[i]? = some p := ⟨its[i], List.getElem?_eq_getElem hlt⟩
    refine wpAny_pyNext_tuple_item (x := .ref p.1) hit hT' (by simp [hpi]) fun h2 hit2 hs2 => ?_
    refine letGo_tupleiter hit2 ?_
    have F2 := F'.sameNew hLI hs2
    have N2 : News h₀ env.locals h2 (Led c ++ tl) := fun r hr => ⟨hs2.extBut _ _ (hoffA c r hr) (N' r hr).1, (N' r hr).2⟩
    obtain ⟨np, hpt⟩ := hits p (List.mem_of_getElem? hpi)
    have htp : IsTup h2 p.1 #[p.2.1, p.2.2] := ⟨_, (N2 _ (List.mem_append_right _ hpt)).1, rfl, _, rfl⟩
    refine assign_Tuple_tuple hh htp rfl rfl fun h5 he => ?_
    have he' : ∀ b o, h2.get? b = some o → h5.get? b = some o := fun b o e => he b o (Nat.ne_of_lt (Heap.lt_size e)) e
    have F5 := F2.keeps he'
    refine assignInOrder_cons (wpAny_assign_Name (wpAny_storeName_local hx1 F5.ns (fun h6 hn6 hs6 => ?_) hcl))
    refine assignInOrder_cons (wpAny_assign_Name (wpAny_storeName_local hx2 hn6 (fun h7 hn7 hs7 => ?_) hcl))
    refine assignInOrder_nil ?_
    have F7 := (F5.set hn6 hs6).set hn7 hs7
    have k7 : ∀ b o, b ≠ env.locals → h2.get? b = some o → h7.get? b = some o := fun b o hb e => hs7.extBut _ _ hb (hs6.extBut _ _ hb (he' _ _ e))
    obtain ⟨oI, eI, cI, dI⟩ := id hit2
    have nI : ¬ Itr oI := fun y => by have := y.1; rw [cI] at this; exact absurd (Value.type.inj this) (by decide)
    have N7 : News h₀ env.locals h7 ((I, oI) :: (Led c ++ tl)) := fun r hr => by
      rcases List.mem_cons.mp hr with rfl | hr
      · exact ⟨k7 _ _ (Nat.ne_of_gt hLI) eI, Nat.ne_of_gt hLI, hI0⟩
      · exact ⟨k7 _ _ (N2 r hr).2.1 (N2 r hr).1, (N2 r hr).2⟩
    refine wpAny_mono (turn c i p m' h7 _ gens I oI hpi hP hbar (hoffA c) nI (by rw [em]; exact F7) N7) (fun f s₃ h₃ => ?_) fun _ _ e => e
    have fin : ∀ s₃ : Shared, (∃ h' tk' gens' c' m', s₃ = { s with heap := h', toks := tk', gens := gens' } ∧ (AllBare gens → AllBare gens') ∧ Fr h₀ env.locals h' m' ∧ News h₀ env.locals h' ((I, oI) :: (Led c' ++ tl)) ∧ (∀ p ∈ ps c', m' p.1 = some p.2) ∧ P (i + 1) c') →
        ∃ j, j < k ∧ ∃ i h tk gens c m', i + j = its.length ∧ s₃ = { s with heap := h, toks := tk, gens := gens } ∧ (AllBare s.gens → AllBare gens) ∧ Fr h₀ env.locals h m' ∧ News h₀ env.locals h (Led c ++ tl) ∧ h.IsTupleIter I T i ∧ (∀ p ∈ ps c, m' p.1 = some p.2) ∧ P i c := by
      rintro s₃ ⟨h', tk', gens', c', m2, rfl, hb2, F8, N8, hk8, hP8⟩
      exact ⟨k - 1, by omega, i + 1, h', tk', gens', c', m2, by omega, rfl, fun ha => hb2 (hbar ha), F8, fun r hr => N8 r (.tail _ hr), ⟨oI, (N8 _ (.head _)).1, cI, dI⟩, hk8, hP8⟩
    cases f with
    | ret v => exact h₃
    | brk => exact h₃
    | next => exact fin _ h₃
    | cont => exact fin _ h₃
  · obtain rfl : i = its.length := by omega
    refine wpAny_pyNext_tuple_end hh hit hT' (by simp) fun h2 hs2 => ?_
    have ok : ∀ b o, b ≠ I → h.get? b = some o → h2.get? b = some o := fun b o hb e => hs2 b o hb e
    refine done c m' h2 tk gens hP hbar ?_ (fun r hr => ⟨ok _ _ (hoffA c r (List.mem_append_left _ hr)) (N' r (List.mem_append_left _ hr)).1, (N' r (List.mem_append_left _ hr)).2⟩)
    rw [em]
    exact ⟨F'.ns.at' fun o e => ok _ o (Nat.ne_of_lt hLI) e, fun b o e => ok b o (fun q => by rw [q, hI0] at e; cases e) (F'.keep b o e), F'.above⟩
end
end Mine
namespace Mine
noncomputable def gstep (q c : Int) (W : List Int) : Nat → List Int
  | 0 => W
  | i + 1 => (gstep q c W i).set (Int.fmod (q * (i : Int) + q) 12).toNat ((gstep q c W i).getD (Int.fmod (q * (i : Int) + q) 12).toNat 0 + c)
def nOf (q : Int) : Nat := (12 / q).toNat
def cuts : List (Int × Int) := [(1, 1), (2, -1), (3, -1), (6, 1)]
noncomputable def wcut (o : Int) : Nat → List Int
  | 0 => List.replicate 12 0
  | i + 1 => match cuts[i]? with
    | some (cut, way) => if Int.fmod o cut = 0 then gstep (Int.fdiv o cut) (way * Int.fdiv o cut) (wcut o i) (nOf (Int.fdiv o cut)) else wcut o i
    | none => wcut o i
theorem gstep_length (q c : Int) (W : List Int) : ∀ i, (gstep q c W i).length = W.length
  | 0 => rfl
  | i + 1 => by simp [gstep, gstep_length q c W i]
theorem wcut_length (o : Int) : ∀ i, (wcut o i).length = 12
  | 0 => rfl
  | i + 1 => by
    simp only [wcut]
    split
    · split
      · rw [gstep_length]; exact wcut_length o i
      · exact wcut_length o i
    · exact wcut_length o i
theorem wcut_hit {o cut way : Int} {i : Nat} (h : cuts[i]? = some (cut, way)) (hm : Int.fmod o cut = 0) : wcut o (i + 1) = gstep (Int.fdiv o cut) (way * Int.fdiv o cut) (wcut o i) (nOf (Int.fdiv o cut)) := by
  simp [wcut, h, hm]
theorem wcut_miss {o cut way : Int} {i : Nat} (h : cuts[i]? = some (cut, way)) (hm : Int.fmod o cut ≠ 0) : wcut o (i + 1) = wcut o i := by
  simp [wcut, h, hm]
theorem cuts_bd {cut way : Int} {i : Nat} (h : cuts[i]? = some (cut, way)) : (cut = 1 ∨ cut = 2 ∨ cut = 3 ∨ cut = 6) ∧ (way = 1 ∨ way = -1) := by
  have := List.mem_of_getElem? h
  simp only [cuts, List.mem_cons, List.not_mem_nil, or_false, Prod.mk.injEq] at this
  omega
theorem cuts_q {o cut : Int} (ho : o = 2 ∨ o = 3 ∨ o = 4 ∨ o = 6 ∨ o = 12) (hc : cut = 1 ∨ cut = 2 ∨ cut = 3 ∨ cut = 6) (hm : Int.fmod o cut = 0) : 1 ≤ Int.fdiv o cut ∧ Int.fdiv o cut ≤ 12 := by
  rcases ho with rfl | rfl | rfl | rfl | rfl <;> rcases hc with rfl | rfl | rfl | rfl <;> revert hm <;> decide
theorem nOf_eq {q : Int} {i : Nat} (h1 : 1 ≤ q) (_h2 : q ≤ 12) (h3 : q * (i : Int) ≤ 12) (h4 : 12 < q * (i : Int) + q) : i = nOf q := by
  have a : (i : Int) ≤ 12 / q := Int.le_ediv_of_mul_le (by omega) (by rw [Int.mul_comm]; exact h3)
  have b : 12 / q < (i : Int) + 1 := Int.ediv_lt_of_lt_mul (by omega) (by rw [Int.add_mul, Int.one_mul, Int.mul_comm]; exact h4)
  unfold nOf
  generalize (12 : Int) / q = z at a b ⊢
  omega
theorem le_twelve {q : Int} {i : Nat} (h1 : 1 ≤ q) (h3 : q * (i : Int) ≤ 12) : i ≤ 12 := by
  have := Int.mul_le_mul_of_nonneg_right h1 (Int.natCast_nonneg i)
  omega
structure WSt where
  vs : List Value
  nw : Nat
structure GSt2 where
  vs : List Value
  nw : Nat
  r : Int
  tr : Tok
section
open PyProof.Rows.LCg
variable {prog : Program} {w : World} {A : Around} {E : Value → Shared → Prop} {s : Shared} {env : Env} {h₀ : Heap} {body : List Stmt} {Q : Flow → Shared → Prop}
def WPost (h₀ : Heap) (L : Addr) (s : Shared) (Q : Flow → Shared → Prop) (o : Int) (to_ : Tok) (lw : Addr) (i : Nat) (gens : Array GenState) (nk : List (Addr × Obj)) (f : Flow) (s₃ : Shared) : Prop := match f with
  | .ret v => Q (.ret v) s₃
  | .brk => Q .next s₃
  | _ => ∃ (h' : Heap) (tk' : Nat) (gens' : Array GenState) (vs' : List Value) (nw' : Nat) (m' : Str → Option Value), s₃ = { s with heap := h', toks := tk', gens := gens' } ∧ (AllBare gens → AllBare gens') ∧ Fr h₀ L h' m' ∧ News h₀ L h' ((lw, listOf vs'.toArray nw') :: nk) ∧ m' (Str.ofString "order") = some (.int o to_) ∧ m' (Str.ofString "weights") = some (.ref lw) ∧ IntsAre vs' (wcut o (i + 1))
theorem weights_outer {T t1 t2 t3 t4 lw : Addr} {nT n1 n2 n3 n4 : Nat} {x1 x2 x3 x4 y1 y2 y3 y4 : Tok} {V : List Value} {jn : List (Addr × Obj)} {p1 p2 tp : Pos} {tkk} {m : Str → Option Value} {o : Int} {to_ : Tok}
    (hh : A.handled = none) (hx1 : env.kindOf (Str.ofString "cut") = some .local) (hx2 : env.kindOf (Str.ofString "way") = some .local) (hcl : (env.scope.kind == .class || (env.scope.kind == .module && env.locals != env.globals)) = false)
    (F : Fr h₀ env.locals s.heap m) (N : News h₀ env.locals s.heap ((T, tupO #[.ref t1, .ref t2, .ref t3, .ref t4] nT) :: (t4, tupO #[.int 6 x4, .int 1 y4] n4) :: (t3, tupO #[.int 3 x3, .int (-1) y3] n3) :: (t2, tupO #[.int 2 x2, .int (-1) y2] n2) :: (t1, tupO #[.int 1 x1, .int 1 y1] n1) :: (lw, listOf V.toArray 0) :: jn))
    (hV : IntsAre V (List.replicate 12 0)) (hne : t1 ≠ lw ∧ t2 ≠ lw ∧ t3 ≠ lw ∧ t4 ≠ lw ∧ T ≠ lw) (hm1 : m (Str.ofString "order") = some (.int o to_)) (hm2 : m (Str.ofString "weights") = some (.ref lw))
    (turn : ∀ vs nw i cut way tc tw u h tk gens nk, cuts[i]? = some (cut, way) → IntsAre vs (wcut o i) → (AllBare s.gens → AllBare gens) → (∀ p ∈ nk, ¬ Itr p.2 ∧ p.1 ≠ lw) →
      Fr h₀ env.locals h (fun y => if y = Str.ofString "way" then some (.int way tw) else if y = Str.ofString "cut" then some (.int cut tc) else kstB u [(Str.ofString "order", .int o to_), (Str.ofString "weights", .ref lw)] y) → News h₀ env.locals h ((lw, listOf vs.toArray nw) :: nk) →
      wpAny (model prog w) A (execs body env) (WPost h₀ env.locals s Q o to_ lw i gens nk) E { s with heap := h, toks := tk, gens := gens })
    (done : ∀ vs nw u h tk gens, IntsAre vs (wcut o 4) → (AllBare s.gens → AllBare gens) → Fr h₀ env.locals h (kstB u [(Str.ofString "order", .int o to_), (Str.ofString "weights", .ref lw)]) → News h₀ env.locals h [(lw, listOf vs.toArray nw)] → Q .next { s with heap := h, toks := tk, gens := gens }) :
    wpAny (model prog w) A (pyIter (.ref T)) (OwnAt prog w A env (.Tuple [.Name (Str.ofString "cut") p1, .Name (Str.ofString "way") p2] tkk tp) body Q E) E s := by
  refine pairs_loop (σ := WSt) [(t1, .int 1 x1, .int 1 y1), (t2, .int 2 x2, .int (-1) y2), (t3, .int 3 x3, .int (-1) y3), (t4, .int 6 x4, .int 1 y4)] [(T, tupO #[.ref t1, .ref t2, .ref t3, .ref t4] nT), (t4, tupO #[.int 6 x4, .int 1 y4] n4), (t3, tupO #[.int 3 x3, .int (-1) y3] n3), (t2, tupO #[.int 2 x2, .int (-1) y2] n2), (t1, tupO #[.int 1 x1, .int 1 y1] n1)]
    (fun c => [(lw, listOf c.vs.toArray c.nw)]) (fun c => [(Str.ofString "order", .int o to_), (Str.ofString "weights", .ref lw)]) (fun i c => IntsAre c.vs (wcut o i)) ⟨V, 0⟩ hh hx1 hx2 hcl (.head _) ?_ (fun _ => rfl) F (fun p hp => N p ?_) (List.forall_mem_cons.mpr ⟨hm1, List.forall_mem_cons.mpr ⟨hm2, List.forall_mem_nil _⟩⟩) hV ?_ ?_
  · intro p hp
    simp only [List.mem_cons, List.not_mem_nil, or_false] at hp
    rcases hp with rfl | rfl | rfl | rfl
    · exact ⟨n1, .tail _ (.tail _ (.tail _ (.tail _ (.head _))))⟩
    · exact ⟨n2, .tail _ (.tail _ (.tail _ (.head _)))⟩
    · exact ⟨n3, .tail _ (.tail _ (.head _))⟩
    · exact ⟨n4, .tail _ (.head _)⟩
  · dsimp only [List.cons_append, List.nil_append] at hp ⊢
    rcases List.mem_cons.mp hp with rfl | hp
    · k_mem
    rcases List.mem_cons.mp hp with rfl | hp
    · k_mem
    rcases List.mem_cons.mp hp with rfl | hp
    · k_mem
    rcases List.mem_cons.mp hp with rfl | hp
    · k_mem
    rcases List.mem_cons.mp hp with rfl | hp
    · k_mem
    rcases List.mem_cons.mp hp with rfl | hp
    · k_mem
    exact nomatch hp
  · rintro c i p u h tk gens I oI hpi hI hb hoI hnI Fh Nh
    obtain ⟨cut, way, tc, tw, hc, e1, e2⟩ : ∃ cut way tc tw, cuts[i]? = some (cut, way) ∧ p.2.1 = .int cut tc ∧ p.2.2 = .int way tw := by
      match i, hpi with
      | 0, e => cases e; exact ⟨_, _, _, _, rfl, rfl, rfl⟩
      | 1, e => cases e; exact ⟨_, _, _, _, rfl, rfl, rfl⟩
      | 2, e => cases e; exact ⟨_, _, _, _, rfl, rfl, rfl⟩
      | 3, e => cases e; exact ⟨_, _, _, _, rfl, rfl, rfl⟩
    rw [e1, e2] at Fh
    have hkN : ∀ p ∈ (I, oI) :: [(T, tupO #[.ref t1, .ref t2, .ref t3, .ref t4] nT), (t4, tupO #[.int 6 x4, .int 1 y4] n4), (t3, tupO #[.int 3 x3, .int (-1) y3] n3), (t2, tupO #[.int 2 x2, .int (-1) y2] n2), (t1, tupO #[.int 1 x1, .int 1 y1] n1)], ¬ Itr p.2 ∧ p.1 ≠ lw := by
      simp only [List.forall_mem_cons]
      exact ⟨⟨hnI, fun z => hoI _ (.head _) z.symm⟩, ⟨nt_itr_seq rfl, hne.2.2.2.2⟩, ⟨nt_itr_seq rfl, hne.2.2.2.1⟩, ⟨nt_itr_seq rfl, hne.2.2.1⟩, ⟨nt_itr_seq rfl, hne.2.1⟩, ⟨nt_itr_seq rfl, hne.1⟩, List.forall_mem_nil _⟩
    refine wpAny_mono (turn c.vs c.nw i cut way tc tw u h tk gens _ hc hI hb hkN Fh fun p hp => Nh p ?_) (fun f s₃ h₃ => ?_) fun _ _ e => e
    · dsimp only [List.cons_append, List.nil_append] at hp ⊢
      rcases List.mem_cons.mp hp with rfl | hp
      · k_mem
      rcases List.mem_cons.mp hp with rfl | hp
      · k_mem
      rcases List.mem_cons.mp hp with rfl | hp
      · k_mem
      rcases List.mem_cons.mp hp with rfl | hp
      · k_mem
      rcases List.mem_cons.mp hp with rfl | hp
      · k_mem
      rcases List.mem_cons.mp hp with rfl | hp
      · k_mem
      rcases List.mem_cons.mp hp with rfl | hp
      · k_mem
      exact nomatch hp
    · cases f with
      | ret v => exact h₃
      | brk => exact h₃
      | next =>
        obtain ⟨h', tk', gens', vs', nw', m', e, b, F', N', g1, g2, hI'⟩ := h₃
        refine ⟨h', tk', gens', ⟨vs', nw'⟩, m', e, b, F', fun p hp => N' p ?_, List.forall_mem_cons.mpr ⟨g1, List.forall_mem_cons.mpr ⟨g2, List.forall_mem_nil _⟩⟩, hI'⟩
        dsimp only [List.cons_append, List.nil_append] at hp ⊢
        rcases List.mem_cons.mp hp with rfl | hp
        · k_mem
        rcases List.mem_cons.mp hp with rfl | hp
        · k_mem
        rcases List.mem_cons.mp hp with rfl | hp
        · k_mem
        rcases List.mem_cons.mp hp with rfl | hp
        · k_mem
        rcases List.mem_cons.mp hp with rfl | hp
        · k_mem
        rcases List.mem_cons.mp hp with rfl | hp
        · k_mem
        rcases List.mem_cons.mp hp with rfl | hp
        · k_mem
        exact nomatch hp
      | cont =>
        obtain ⟨h', tk', gens', vs', nw', m', e, b, F', N', g1, g2, hI'⟩ := h₃
        refine ⟨h', tk', gens', ⟨vs', nw'⟩, m', e, b, F', fun p hp => N' p ?_, List.forall_mem_cons.mpr ⟨g1, List.forall_mem_cons.mpr ⟨g2, List.forall_mem_nil _⟩⟩, hI'⟩
        dsimp only [List.cons_append, List.nil_append] at hp ⊢
        rcases List.mem_cons.mp hp with rfl | hp
        · k_mem
        rcases List.mem_cons.mp hp with rfl | hp
        · k_mem
        rcases List.mem_cons.mp hp with rfl | hp
        · k_mem
        rcases List.mem_cons.mp hp with rfl | hp
        · k_mem
        rcases List.mem_cons.mp hp with rfl | hp
        · k_mem
        rcases List.mem_cons.mp hp with rfl | hp
        · k_mem
        rcases List.mem_cons.mp hp with rfl | hp
        · k_mem
        exact nomatch hp
  · rintro c u h tk gens hI hb Fh Nh
    exact done c.vs c.nw u h tk gens hI hb Fh Nh
end
section
open PyProof.Rows.LCg
variable {prog : Program} {w : World} {A : Around} {E : Value → Shared → Prop} {s : Shared} {env : Env} {h₀ : Heap} {body : List Stmt} {Q : Flow → Shared → Prop}
theorem weights_gen {G Lg l lw : Addr} {gob oL lo : Obj} {gs : GenState} {q c : Int} {W : List Int} {px : Pos} {m : Str → Option Value} {vs : List Value} {nw : Nat} {nk : List (Addr × Obj)} {o cut way : Int} {to_ tc tw tr : Tok}
    (hh : A.handled = none) (hroom : A.depth < recursionLimit) (hlim : h₀.NoLimit) (hx : env.kindOf (Str.ofString "gap") = some .local) (hcl : (env.scope.kind == .class || (env.scope.kind == .module && env.locals != env.globals)) = false)
    (F : Fr h₀ env.locals s.heap m) (N : News h₀ env.locals s.heap ((G, gob) :: (Lg, oL) :: (l, lo) :: (lw, listOf vs.toArray nw) :: nk)) (hgs : s.gens[g]? = some gs)
    (hGL : @Ne Nat G Lg) (hne : ∀ p ∈ (l, lo) :: (lw, listOf vs.toArray nw) :: nk, p.1 ≠ G ∧ p.1 ≠ Lg) (hnk : ∀ p ∈ nk, ¬ Itr p.2 ∧ p.1 ≠ lw) (hGi : gob.cls = .type "generator") (hGd : ∃ nm qn, gob.data = .fields #[.int (g : Nat) 0, nm, qn]) (hGs : gob.slots = #[]) (hli : ¬ Itr lo) (hlw : @Ne Nat l lw)
    (hgo : ∀ (A' : Around) (n : Nat) (s' : Shared), A'.handled = none → (∀ b o, h₀.get? b = some o → s'.heap.get? b = some o) → s'.heap.get? l = some lo → s'.heap.get? Lg = some oL → gs.Goes (model prog w) A' noEnd (GY h₀ Lg l lo q) (n + 1) (.send .none) s')
    (hm1 : m (Str.ofString "order") = some (.int o to_)) (hm2 : m (Str.ofString "weights") = some (.ref lw)) (hm3 : m (Str.ofString "cut") = some (.int cut tc)) (hm4 : m (Str.ofString "way") = some (.int way tw)) (hm5 : m (Str.ofString "reach") = some (.int 0 tr))
    (hq : 1 ≤ q) (hI : IntsAre vs W)
    (turn : ∀ vs nw (r : Int) tr k t u h tk gens nx, IntsAre vs (gstep q c W k) → r = q * (k : Int) → r ≤ 12 → (AllBare s.gens → AllBare gens) → (∀ p ∈ nx, p.1 ≠ lw) → (∀ p ∈ nk, p ∈ nx) →
      Fr h₀ env.locals h (fun y => if y = Str.ofString "gap" then some (.int q t) else kstB u [(Str.ofString "order", .int o to_), (Str.ofString "weights", .ref lw), (Str.ofString "cut", .int cut tc), (Str.ofString "way", .int way tw), (Str.ofString "reach", .int r tr)] y) → News h₀ env.locals h ((lw, listOf vs.toArray nw) :: nx) →
      wpAny (model prog w) A (execs body env) (fun f s₃ => match f with
        | .ret v => Q (.ret v) s₃
        | .brk => Q .next s₃
        | _ => ∃ (h' : Heap) (tk' : Nat) (vs' : List Value) (nw' : Nat) (r' : Int) (tr' : Tok) (m' : Str → Option Value), s₃ = { s with heap := h', toks := tk', gens := gens } ∧ Fr h₀ env.locals h' m' ∧ News h₀ env.locals h' ((lw, listOf vs'.toArray nw') :: nx) ∧
          (∀ p ∈ [(Str.ofString "order", Value.int o to_), (Str.ofString "weights", .ref lw), (Str.ofString "cut", .int cut tc), (Str.ofString "way", .int way tw), (Str.ofString "reach", .int r' tr')], m' p.1 = some p.2) ∧ IntsAre vs' (gstep q c W (k + 1)) ∧ r' = q * ((k + 1 : Nat) : Int) ∧ r' ≤ 12) E { s with heap := h, toks := tk, gens := gens }) :
    wpAny (model prog w) A (pyIter (.ref G)) (OwnAt prog w A env (.Name (Str.ofString "gap") px) body Q E) E s := by
  refine gen_loop (σ := GSt2) (g := g) (fun c => (lw, listOf c.vs.toArray c.nw) :: nk) (fun c => [(Str.ofString "order", .int o to_), (Str.ofString "weights", .ref lw), (Str.ofString "cut", .int cut tc), (Str.ofString "way", .int way tw), (Str.ofString "reach", .int c.r c.tr)])
    (fun k x => IntsAre x.vs (gstep q c W k) ∧ x.r = q * (k : Int) ∧ x.r ≤ 12) ⟨vs, nw, 0, tr⟩ (lw :: nk.map (·.1)) hh hroom hlim hx hcl F N hgs hGL (hne _ (.head _)).2 (hne _ (.head _)).1 (fun _ => rfl) ?_ ?_ hGi hGd hGs hli hgo (by simp [hm1, hm2, hm3, hm4, hm5]) ⟨hI, (Int.mul_zero _).symm, (by show (0 : Int) ≤ 12; decide)⟩ (fun k c hP => le_twelve hq (by have := hP.2.1; have := hP.2.2; omega)) ?_
  · intro b hb
    rcases List.mem_cons.mp hb with rfl | hb
    · exact (hne _ (.tail _ (.head _))).2
    · obtain ⟨p, hp, rfl⟩ := List.mem_map.mp hb
      exact (hne p (.tail _ (.tail _ hp))).2
  · intro c p hp
    rcases List.mem_cons.mp hp with rfl | hp
    · exact nt_itr_seq rfl
    · exact (hnk p hp).1
  · rintro x k t u h tk gens Ig oI oL' ⟨h1, h2, h3⟩ hb hnI Fh Nh
    have hw := (hne _ (.tail _ (.head _)))
    refine wpAny_mono (turn x.vs x.nw x.r x.tr k t u h tk gens ((Ig, oI) :: (Lg, oL') :: (G, gob) :: (l, lo) :: nk) h1 h2 h3 hb ?_ ?_ Fh fun p hp => Nh p ?_) (fun f s₃ h₃ => ?_) fun _ _ e => e
    · simp only [List.forall_mem_cons]
      exact ⟨fun z => hnI _ (.tail _ (.tail _ (.tail _ (.head _)))) z.symm, Ne.symm hw.2, Ne.symm hw.1, hlw, fun p hp => (hnk p hp).2⟩
    · exact fun p hp => .tail _ (.tail _ (.tail _ (.tail _ hp)))
    · rcases List.mem_cons.mp hp with rfl | hp
      · k_mem
      rcases List.mem_cons.mp hp with rfl | hp
      · k_mem
      rcases List.mem_cons.mp hp with rfl | hp
      · k_mem
      rcases List.mem_cons.mp hp with rfl | hp
      · k_mem
      rcases List.mem_cons.mp hp with rfl | hp
      · k_mem
      exact .tail _ (.tail _ (.tail _ (.tail _ (.tail _ hp))))
    · have fin : ∀ h' (vs' : List Value) nw', News h₀ env.locals h' ((lw, listOf vs'.toArray nw') :: (Ig, oI) :: (Lg, oL') :: (G, gob) :: (l, lo) :: nk) → News h₀ env.locals h' ((Ig, oI) :: (Lg, oL') :: (G, gob) :: (l, lo) :: (lw, listOf vs'.toArray nw') :: nk) := fun h' vs' nw' N' p hp => N' p (by
        rcases List.mem_cons.mp hp with rfl | hp
        · k_mem
        rcases List.mem_cons.mp hp with rfl | hp
        · k_mem
        rcases List.mem_cons.mp hp with rfl | hp
        · k_mem
        rcases List.mem_cons.mp hp with rfl | hp
        · k_mem
        rcases List.mem_cons.mp hp with rfl | hp
        · k_mem
        exact .tail _ (.tail _ (.tail _ (.tail _ (.tail _ hp)))))
      cases f with
      | ret v => exact h₃
      | brk => exact h₃
      | next =>
        obtain ⟨h', tk', vs', nw', r', tr', m', e, F', N', hk', g1, g2, g3⟩ := h₃
        exact ⟨h', tk', ⟨vs', nw', r', tr'⟩, m', e, F', fin _ _ _ N', hk', g1, g2, g3⟩
      | cont =>
        obtain ⟨h', tk', vs', nw', r', tr', m', e, F', N', hk', g1, g2, g3⟩ := h₃
        exact ⟨h', tk', ⟨vs', nw', r', tr'⟩, m', e, F', fin _ _ _ N', hk', g1, g2, g3⟩
end
section
local macro_rules | `(tactic| walk_at "exec For Tuple Tuple cons nil") => `(tactic| (k_here; (rename Fr _ _ _ _ => lF'); k_dflt (refine for_own lF' ?_)))
local macro_rules | `(tactic| walk_at "exec For Name Call cons nil") => `(tactic| (k_here; (rename Fr _ _ _ _ => lF'); k_dflt (refine for_own lF' ?_)))
local macro_rules | `(tactic| walk_at "setItem ref int") => `(tactic| (k_here; refine halt ?_))
local macro_rules | `(tactic| walk_at "Exists") => `(tactic| (refine halt ?_))
set_option maxHeartbeats 600000 in
theorem c_weights {w : World} {mean : ExcName → Option Value} {mg mb : Str → Option Value} {dp un : Nat} {gd : Option (List Code)} {cn : Str} {cs : Scope} {a : Addr} {ccd : Value} {cl : List (Str × Addr)} {outer : List Env} {A₀ : Around} {base h₀ : Heap} {L : Addr} {m : Str → Option Value} {s : Shared} {Q E : Value → Shared → Prop} {news : List (Addr × Obj)} {o : Int} {to_ : Tok}
    (C : CC w mean mg mb A₀ base outer h₀ L m s news cs dp un 2) (ho : o = 2 ∨ o = 3 ∨ o = 4 ∨ o = 6 ∨ o = 12)
    (hret : ∀ (l : Addr) (vs : List Value) (n : Nat) (h' : Heap) (tk' : Nat) (gens' : Array GenState), (AllBare s.gens → AllBare gens') → Fr h₀ L h' m → News h₀ L h' ((l, listOf vs.toArray n) :: news) → (∀ p ∈ news, p.1 ≠ l) → IntsAre vs (wcut o 4) → (∀ b o, s.heap.get? b = some o → h'.get? b = some o) → Q (.ref l) { s with heap := h', toks := tk', gens := gens' }) :
    wpAny (model Pg w) (ktrTop dp un gd cn cs L a ccd cl outer) (call (.ref 82) [.int o to_]) Q E s := by
  obtain ⟨B, F, X, N, T, hk, hdp, hun⟩ := C
  refine wpAny_call ?_
  k_dflt ktr_enter
  rename GSub _ _ _ => GS
  have hback : ∀ (l : Addr) (o : Obj) (L' : Addr) (m' : Str → Option Value) (h' : Heap) , Fr _ L' h' m' → News _ L' h' [(l, o)] → Fr h₀ L h' m ∧ (News h₀ L h' ((l, o) :: news) ∧ ∀ p ∈ news, p.1 ≠ l) ∧ (∀ b o, s.heap.get? b = some o → h'.get? b = some o) := fun l o L' m' h' F' N' => ⟨fr_back F (keep_of GS F'), news_back F N GS (keep_of GS F') N', keep_of GS F'⟩
  clear F N B X T
  k_steps
  refine Halt.go ?_
  (rename Fr _ _ _ _ => F1)
  (rename News _ _ _ _ => N1)
  refine weights_outer (o := o) (to_ := to_) rfl rfl rfl rfl F1 N1 (by assumption) ?_ rfl rfl ?_ ?_
  · exact ⟨by k_ne, by k_ne, by k_ne, by k_ne, by k_ne⟩
  · intro vs nw i cut way tc tw u h tk gens nk hc hI hbare hnk Fi Ni
    (try clear F1)
    (try clear N1)
    have hz := @cuts_bd cut way i hc
    have hcut := hz.1
    have hc2 : 1 ≤ cut := by omega
    have hc3 : cut ≤ 6 := by omega
    have hw2 : -1 ≤ way := by omega
    have hw3 : way ≤ 1 := by omega
    have ho2 : 2 ≤ o := by omega
    have ho3 : o ≤ 12 := by omega
    clear hz
    (try k_fold)
    k_steps
    · refine Halt.go ?_
      (rename Int.fmod o cut = 0 => hmod)
      (rename Fr _ _ _ _ => F2)
      (rename News _ _ _ _ => N2)
      have hq := cuts_q ho hcut hmod
      have hq1 := hq.1
      have hq2 := hq.2
      refine c_grouping F2 (by assumption) N2 (by assumption) (by ktr_room) (.head _) hq ?_
      intro G Lg gob oL gs h3 tk3 F3 N3 hne3 hGL gc gd gsl hnsL gbare hgo3
      have hl3 := hne3 _ (.head _)
      have hw3' := hne3 _ (.tail _ (.head _))
      clear F2 N2
      dsimp only
      refine weights_gen (g := gens.size) (c := way * Int.fdiv o cut) (W := wcut o i) rfl (by ktr_room) (Top.nolimit (by assumption)) rfl rfl F3 N3 (Array.getElem?_push_size ..) hGL hne3 hnk gc gd gsl (nt_itr_seq rfl) (by k_ne) hgo3 (by with_unfolding_all rfl) (by with_unfolding_all rfl) (by with_unfolding_all rfl) (by with_unfolding_all rfl) (by with_unfolding_all rfl) hq1 hI ?_
      intro vs4 nw4 r4 tr4 k t u h tk gens2 nx hI4 hr4 hr5 hbar2 hnx hsub F4 N4
      have aG := gstep_length (Int.fdiv o cut) (way * Int.fdiv o cut) (wcut o i) k
      rw [wcut_length] at aG
      clear F3 N3 Fi Ni hI
      (try k_fold)
      dsimp only
      k_steps
      refine Halt.go ?_
      refine' c_add ?kC ?_
      (case kC => regstrif_slice)
      regstrif_gather
      k_steps
      · (rename Fr _ _ _ _ => F5)
        (rename News _ _ _ _ => N5)
        (rename 12 < r4 + _ => hlt)
        refine ⟨_, _, gens2, vs4, nw4, _, rfl, fun ha => hbar2 (AllBare.push ha gbare), F5, fun p hp => N5 p ?_, by with_unfolding_all rfl, by with_unfolding_all rfl, ?_⟩
        · rcases List.mem_cons.mp hp with rfl | hp
          · exact .head _
          · exact .tail _ (hsub p hp)
        · rw [wcut_hit hc hmod, ← nOf_eq (i := k) hq1 hq2 (by omega) (by omega)]
          exact hI4
      · refine Halt.go ?_
        refine' c_mul ?kC ?k7 ?k8 ?_
        (case kC => regstrif_slice)
        (case k7 => omega)
        (case k8 => omega)
        regstrif_gather
        k_steps
        refine Halt.go ?_
        refine' c_add ?kC ?_
        (case kC => regstrif_slice)
        regstrif_gather
        k_steps
        refine Halt.go ?_
        (rename Fr _ _ _ _ => F5)
        (rename News _ _ _ _ => N5)
        have fb := fmod_bd (r4 + Int.fdiv o cut) (k := 12) (by decide)
        refine ksa_set F5 N5 (.head hnx) hI4 fb.1 (by rw [aG]; exact fb.2) (Int.lt_trans fb.2 (by decide)) fun h6 F6 N6 hI6 _ _ => ?_
        clear F5 N5
        k_steps
        refine Halt.go ?_
        refine ⟨_, _, _, _, r4 + Int.fdiv o cut, _, _, rfl, F6, N6, List.forall_mem_cons.mpr ⟨by with_unfolding_all rfl, List.forall_mem_cons.mpr ⟨by with_unfolding_all rfl, List.forall_mem_cons.mpr ⟨by with_unfolding_all rfl, List.forall_mem_cons.mpr ⟨by with_unfolding_all rfl, List.forall_mem_cons.mpr ⟨by with_unfolding_all rfl, List.forall_mem_nil _⟩⟩⟩⟩⟩, ?_, ?_, by omega⟩
        · have e9 : gstep (Int.fdiv o cut) (way * Int.fdiv o cut) (wcut o i) (k + 1) = (gstep (Int.fdiv o cut) (way * Int.fdiv o cut) (wcut o i) k).set (Int.fmod (r4 + Int.fdiv o cut) 12).toNat ((gstep (Int.fdiv o cut) (way * Int.fdiv o cut) (wcut o i) k).getD (Int.fmod (r4 + Int.fdiv o cut) 12).toNat 0 + way * Int.fdiv o cut) := by
            rw [hr4]; rfl
          rw [e9]
          exact hI6
        · rw [hr4, Int.natCast_succ, Int.mul_add, Int.mul_one]
    · refine ⟨_, _, gens, vs, nw, _, rfl, id, Fi, Ni, by with_unfolding_all rfl, by with_unfolding_all rfl, ?_⟩
      rw [wcut_miss hc (by assumption)]
      exact hI
  · intro vs nw u h tk gens hI hbare Fi Ni
    (try clear F1)
    (try clear N1)
    (try k_fold)
    dsimp only
    k_steps
    refine Halt.go ?_
    obtain ⟨f1, ⟨n1, ne⟩, kp⟩ := hback _ _ _ _ _ Fi Ni
    exact ⟨_, _, _, Fi, Ni, fun _ _ => hret _ _ _ _ _ _ hbare f1 n1 ne hI kp⟩
end
end Mine
namespace Mine
section
open PyProof.Rows.LCg
variable {prog : Program} {w : World} {A : Around} {E : Value → Shared → Prop} {s : Shared} {env : Env} {h₀ : Heap} {y1 y2 : Str} {body : List Stmt} {Q : Flow → Shared → Prop}
theorem enum_loop {σ : Type} {e it l : Addr} {items : Array Value} {p1 p2 tp : Pos} {tkk} {m : Str → Option Value} (Led : σ → List (Addr × Obj)) (ps : σ → List (Str × Value)) (P : Nat → σ → Prop) (c₀ : σ)
    (hh : A.handled = none) (hx1 : env.kindOf y1 = some .local) (hx2 : env.kindOf y2 = some .local) (hcl : (env.scope.kind == .class || (env.scope.kind == .module && env.locals != env.globals)) = false)
    (hei : e ≠ it) (hle : l ≠ e) (hli : l ≠ it) (hst : IsEnum s.heap e it 0 .none ∧ s.heap.IsListIter it l 0 ∧ s.heap.IsList l items) (hnew : ∀ b ∈ [e, it, l], env.locals ≠ b ∧ h₀.get? b = none) (hoff : ∀ c, ∀ p ∈ Led c, p.1 ∉ [e, it, l])
    (F : Fr h₀ env.locals s.heap m) (N : News h₀ env.locals s.heap (Led c₀)) (hk : ∀ p ∈ ps c₀, m p.1 = some p.2) (hp : P 0 c₀)
    (turn : ∀ c i v t u h tk own, items[i]? = some v → P i c → (∀ p ∈ own, p.1 ∈ [e, it, l]) → Fr h₀ env.locals h (fun y => if y = y2 then some v else if y = y1 then some (.int (i : Nat) t) else kstB u (ps c) y) → News h₀ env.locals h (Led c ++ own) →
      wpAny (model prog w) A (execs body env) (fun f s₃ => match f with
        | .ret v => Q (.ret v) s₃
        | .brk => Q .next s₃
        | _ => ∃ h' tk' c' m', s₃ = { s with heap := h', toks := tk' } ∧ Fr h₀ env.locals h' m' ∧ News h₀ env.locals h' (Led c' ++ own) ∧ (∀ p ∈ ps c', m' p.1 = some p.2) ∧ P (i + 1) c') E { s with heap := h, toks := tk })
    (done : ∀ c u h tk, P items.size c → Fr h₀ env.locals h (kstB u (ps c)) → News h₀ env.locals h (Led c) → Q .next { s with heap := h, toks := tk }) :
    wpAny (model prog w) A (pyIter (.ref e)) (OwnAt prog w A env (.Tuple [.Name y1 p1, .Name y2 p2] tkk tp) body Q E) E s := by
  have W := (WalksT.enumerate (prog := prog) (w := w) hh e it l hei hle hli items).toU
  refine W.self 0 _ _ _ ⟨⟨_, hst.1⟩, hst.2⟩ ?_
  refine ⟨fun k s' => ∃ i h tk c m', i + k = items.size + 1 ∧ 0 < k ∧ s' = { s with heap := h, toks := tk } ∧ Fr h₀ env.locals h m' ∧ News h₀ env.locals h (Led c) ∧ ((∃ old, IsEnum h e it i old) ∧ h.IsListIter it l i ∧ h.IsList l items) ∧ (∀ p ∈ ps c, m' p.1 = some p.2) ∧ P i c, items.size + 1,
    ⟨0, _, _, c₀, m, by omega, by omega, rfl, F, N, ⟨⟨_, hst.1⟩, hst.2⟩, hk, hp⟩, ?_⟩
  rintro k s' ⟨i, h, tk, c, m', hik, hk0, rfl, F', N', hst', hk', hP⟩
  have em : kstB m' (ps c) = m' := js_map (x := y1) hk'
  have hLw : env.locals ∉ [e, it] := fun q => by
    rcases List.mem_cons.mp q with q | q
    · exact (hnew e (by simp)).1 q
    · exact (hnew it (by simp)).1 (List.mem_singleton.mp q)
  have frw : ∀ {h h' : Heap}, Fr h₀ env.locals h m' → (∀ b o, b ∉ [e, it] → h.get? b = some o → h'.get? b = some o) → Fr h₀ env.locals h' m' := fun F hk => ⟨F.ns.at' fun o e => hk _ o hLw e, fun b o x => hk b o (fun q => by
    have : h₀.get? b = none := by
      rcases List.mem_cons.mp q with q | q
      · rw [q]; exact (hnew e (by simp)).2
      · rw [List.mem_singleton.mp q]; exact (hnew it (by simp)).2
    rw [this] at x; cases x) (F.keep b o x), F.above⟩
  have nww : ∀ {h h' : Heap}, News h₀ env.locals h (Led c) → (∀ b o, b ∉ [e, it] → h.get? b = some o → h'.get? b = some o) → News h₀ env.locals h' (Led c) := fun N hk p hp => ⟨hk _ _ (fun q => hoff c p hp (by
    rcases List.mem_cons.mp q with q | q
    · rw [q]; simp
    · rw [List.mem_singleton.mp q]; simp)) (N p hp).1, (N p hp).2⟩
  unfold TurnAt
  by_cases hlt : i < items.size
  · refine W.item i _ _ _ hlt hst' fun T vals h2 tk2 hPv hT hmid hk2 => ?_
    obtain ⟨t, v, hv, rfl⟩ := hPv
    have hTw := W.apart _ _ _ hmid
    refine W.go _ _ _ i T _ _ _ hmid fun h3 hst3 hk3 => ?_
    have htp : IsTup h3 T #[.int (i : Nat) t, v] := by
      obtain ⟨o, ho, hc, nt, hd⟩ := hT
      exact ⟨o, hk3 _ _ hTw ho, hc, nt, hd⟩
    have F3 := frw (frw F' hk2) hk3
    have N3 := nww (nww N' hk2) hk3
    refine assign_Tuple_tuple hh htp rfl rfl fun h5 he => ?_
    have he' : ∀ b o, h3.get? b = some o → h5.get? b = some o := fun b o e => he b o (Nat.ne_of_lt (Heap.lt_size e)) e
    have F5 := F3.keeps he'
    refine assignInOrder_cons (wpAny_assign_Name (wpAny_storeName_local hx1 F5.ns (fun h6 hn6 hs6 => ?_) hcl))
    refine assignInOrder_cons (wpAny_assign_Name (wpAny_storeName_local hx2 hn6 (fun h7 hn7 hs7 => ?_) hcl))
    refine assignInOrder_nil ?_
    have F7 := (F5.set hn6 hs6).set hn7 hs7
    have k7 : ∀ b o, b ≠ env.locals → h3.get? b = some o → h7.get? b = some o := fun b o hb e => hs7.extBut _ _ hb (hs6.extBut _ _ hb (he' _ _ e))
    obtain ⟨⟨old, hee⟩, ⟨oi, hi1, hi2⟩, ⟨ol, hl1, hl2⟩⟩ := hst3
    obtain ⟨oe, hoe, hoe2⟩ : ∃ oe, h3.get? e = some oe ∧ ∀ h : Heap, h.get? e = some oe → IsEnum h e it ((i + 1 : Nat) : Int) old := ⟨_, hee, fun _ x => x⟩
    have nb : ∀ b ∈ [e, it, l], b ≠ env.locals := fun b hb => Ne.symm (hnew b hb).1
    have N7 : News h₀ env.locals h7 (Led c ++ [(e, oe), (it, oi), (l, ol)]) := fun p hp => by
      rcases List.mem_append.mp hp with hp | hp
      · exact ⟨k7 _ _ (N3 p hp).2.1 (N3 p hp).1, (N3 p hp).2⟩
      simp only [List.mem_cons, List.not_mem_nil, or_false] at hp
      rcases hp with rfl | rfl | rfl
      · exact ⟨k7 _ _ (nb e (by simp)) hoe, nb e (by simp), (hnew e (by simp)).2⟩
      · exact ⟨k7 _ _ (nb it (by simp)) hi1, nb it (by simp), (hnew it (by simp)).2⟩
      · exact ⟨k7 _ _ (nb l (by simp)) hl1, nb l (by simp), (hnew l (by simp)).2⟩
    refine wpAny_mono (turn c i v t m' h7 _ [(e, oe), (it, oi), (l, ol)] hv hP (by simp) (by rw [em]; exact F7) N7) (fun f s₃ h₃ => ?_) fun _ _ e => e
    have fin : ∀ s₃ : Shared, (∃ h' tk' c' m', s₃ = { s with heap := h', toks := tk' } ∧ Fr h₀ env.locals h' m' ∧ News h₀ env.locals h' (Led c' ++ [(e, oe), (it, oi), (l, ol)]) ∧ (∀ p ∈ ps c', m' p.1 = some p.2) ∧ P (i + 1) c') →
        ∃ j, j < k ∧ ∃ i h tk c m', i + j = items.size + 1 ∧ 0 < j ∧ s₃ = { s with heap := h, toks := tk } ∧ Fr h₀ env.locals h m' ∧ News h₀ env.locals h (Led c) ∧ ((∃ old, IsEnum h e it i old) ∧ h.IsListIter it l i ∧ h.IsList l items) ∧ (∀ p ∈ ps c, m' p.1 = some p.2) ∧ P i c := by
      rintro s₃ ⟨h', tk', c', m2, rfl, F8, N8, hk8, hP8⟩
      exact ⟨k - 1, by omega, i + 1, h', tk', c', m2, by omega, by omega, rfl, F8, fun p hp => N8 p (List.mem_append_left _ hp), ⟨⟨_, hoe2 _ (N8 (e, oe) (List.mem_append_right _ (by simp))).1⟩, ⟨oi, (N8 (it, oi) (List.mem_append_right _ (by simp))).1, hi2⟩, ⟨ol, (N8 (l, ol) (List.mem_append_right _ (by simp))).1, hl2⟩⟩, hk8, hP8⟩
    cases f with
    | ret v => exact h₃
    | brk => exact h₃
    | next => exact fin _ h₃
    | cont => exact fin _ h₃
  · obtain rfl : i = items.size := by omega
    refine W.done _ _ _ hst' fun h2 tk2 hk2 => ?_
    refine done c m' h2 _ hP ?_ (nww N' hk2)
    rw [em]
    exact frw F' hk2
theorem item_four {value slice : PySem.Expr} {t : Addr} {l : List Value} {k : Int} {v : Tok} {Q : Value → Shared → Prop} (ht : IsTup s.heap t l.toArray) (hl : l.length = 4) (h0 : 0 ≤ k) (h1 : k < 4) (h : ∀ x ∈ l, Q x s)
    (hs : subscripted slice false (.ref t) (.int k v) = operate [.ref t, .int k v] (getItem (.ref t) (.int k v)) := by with_unfolding_all rfl) :
    wpAny (model prog w) A (subscriptTail value slice (.ref t) (.int k v)) Q E s := by
  have hk : k.toNat < l.length := by omega
  exact item_tupleT ht (by omega) (by omega) (seqIndex_of h0 (by omega)) (List.getElem?_eq_getElem hk) (h _ (List.getElem_mem hk)) hs
theorem mem_per {x : Value} {a b c d : Tok} (h : x ∈ [Value.int 12 a, .int 6 b, .int 4 c, .int 3 d]) : ∃ p t, x = .int p t ∧ 3 ≤ p ∧ p ≤ 12 := by
  simp only [List.mem_cons, List.not_mem_nil, or_false] at h
  rcases h with rfl | rfl | rfl | rfl
  · exact ⟨_, _, rfl, by decide, by decide⟩
  · exact ⟨_, _, rfl, by decide, by decide⟩
  · exact ⟨_, _, rfl, by decide, by decide⟩
  · exact ⟨_, _, rfl, by decide, by decide⟩
theorem mem_let {x : Value} {tk : Nat} (ht : 1 ≤ tk) (h : x ∈ [Value.str (Str.ofString "a") tk, .str (Str.ofString "A") (tk + 1), .str (Str.ofString "b") (tk + 1 + 1), .str (Str.ofString "B") (tk + 1 + 1 + 1)]) : ∃ y t, x = .str y t ∧ IsL y ∧ t ≠ 0 ∧ t < tk + 1 + 1 + 1 + 1 := by
  simp only [List.mem_cons, List.not_mem_nil, or_false] at h
  rcases h with rfl | rfl | rfl | rfl
  · exact ⟨_, _, rfl, .inl rfl, by show @Ne Nat _ 0; omega, by show @LT.lt Nat _ _ _; omega⟩
  · exact ⟨_, _, rfl, .inr (.inl rfl), by show @Ne Nat _ 0; omega, by show @LT.lt Nat _ _ _; omega⟩
  · exact ⟨_, _, rfl, .inr (.inr (.inl rfl)), by show @Ne Nat _ 0; omega, by show @LT.lt Nat _ _ _; omega⟩
  · exact ⟨_, _, rfl, .inr (.inr (.inr rfl)), by show @Ne Nat _ 0; omega, by show @LT.lt Nat _ _ _; omega⟩
theorem item_let {value slice : PySem.Expr} {t : Addr} {tk : Nat} {k : Int} {v : Tok} {Q : Value → Shared → Prop} (hs0 : tk + 1 + 1 + 1 + 1 ≤ s.toks) (htk : 1 ≤ tk) (ht : IsTup s.heap t #[Value.str (Str.ofString "a") tk, .str (Str.ofString "A") (tk + 1), .str (Str.ofString "b") (tk + 1 + 1), .str (Str.ofString "B") (tk + 1 + 1 + 1)]) (h0 : 0 ≤ k ∧ k < 4) (h : ∀ y t, IsL y → t ≠ 0 → t < s.toks → Q (.str y t) s)
    (hs : subscripted slice false (.ref t) (.int k v) = operate [.ref t, .int k v] (getItem (.ref t) (.int k v)) := by with_unfolding_all rfl) :
    wpAny (model prog w) A (subscriptTail value slice (.ref t) (.int k v)) Q E s := by
  refine item_four (l := [Value.str (Str.ofString "a") tk, .str (Str.ofString "A") (tk + 1), .str (Str.ofString "b") (tk + 1 + 1), .str (Str.ofString "B") (tk + 1 + 1 + 1)]) ht rfl h0.1 h0.2 (fun x hx => ?_) hs
  obtain ⟨y, t, rfl, h1, h2, h3⟩ := mem_let htk hx
  exact h y t h1 h2 (Nat.lt_of_lt_of_le h3 hs0)
theorem item_per {value slice : PySem.Expr} {t : Addr} {a b c d : Tok} {k : Int} {v : Tok} {Q : Value → Shared → Prop} (ht : IsTup s.heap t #[Value.int 12 a, .int 6 b, .int 4 c, .int 3 d]) (h0 : 0 ≤ k ∧ k < 4) (h : ∀ p t, 3 ≤ p → p ≤ 12 → Q (.int p t) s)
    (hs : subscripted slice false (.ref t) (.int k v) = operate [.ref t, .int k v] (getItem (.ref t) (.int k v)) := by with_unfolding_all rfl) :
    wpAny (model prog w) A (subscriptTail value slice (.ref t) (.int k v)) Q E s := by
  refine item_four (l := [Value.int 12 a, .int 6 b, .int 4 c, .int 3 d]) ht rfl h0.1 h0.2 (fun x hx => ?_) hs
  obtain ⟨p, t, rfl, h1, h2⟩ := mem_per hx
  exact h p t h1 h2
def RJ2 (_ : Nat) (ys : List Value) (tk : Nat) : Prop := 1 ≤ tk ∧ ∀ y ∈ ys, ∃ x t, y = Value.str x t ∧ IsL x ∧ t ≠ 0 ∧ t < tk
theorem ring_loop {D lb cP cB : Addr} {oP oB : Obj} {ws Bs : List Value} {nd nb : Nat} {ms : List Int} {p1 p2 tp : Pos} {tkk} {m : Str → Option Value}
    (hh : A.handled = none) (hx1 : env.kindOf (Str.ofString "place") = some .local) (hx2 : env.kindOf (Str.ofString "x") = some .local) (hcl : (env.scope.kind == .class || (env.scope.kind == .module && env.locals != env.globals)) = false)
    (F : Fr h₀ env.locals s.heap m) (N : News h₀ env.locals s.heap [(D, listOf ws.toArray nd), (lb, listOf Bs.toArray nb), (cP, oP), (cB, oB)]) (hI : IntsAre ws ms) (hms : ms.length ≤ 12)
    (hB : ∃ ns', IntsAre Bs ns' ∧ ns'.length = 12) (hne : @Ne Nat lb D ∧ @Ne Nat cP lb ∧ @Ne Nat cB lb ∧ @Ne Nat cP D ∧ @Ne Nat cB D)
    (turn : ∀ (vs : List Value) (ns' : List Int) (i : Nat) (x : Int) (tx t : Tok) (u : Str → Option Value) (h : Heap) (tk : Nat) (nx : List (Addr × Obj)), i < 12 → IntsAre vs ns' → ns'.length = 12 → (∀ p ∈ nx, p.1 ≠ lb) →
      Fr h₀ env.locals h (fun y => if y = Str.ofString "x" then some (.int x tx) else if y = Str.ofString "place" then some (.int (i : Nat) t) else u y) → News h₀ env.locals h ((lb, listOf vs.toArray nb) :: (cB, oB) :: nx) →
      wpAny (model prog w) A (execs body env) (fun f s₃ => match f with
        | .ret v => Q (.ret v) s₃
        | .brk => Q .next s₃
        | _ => ∃ (h' : Heap) (tk' : Nat) (vs' : List Value) (ns'' : List Int) (m' : Str → Option Value), s₃ = { s with heap := h', toks := tk' } ∧ Fr h₀ env.locals h' m' ∧ News h₀ env.locals h' ((lb, listOf vs'.toArray nb) :: (cB, oB) :: nx) ∧ IntsAre vs' ns'' ∧ ns''.length = 12) E { s with heap := h, toks := tk })
    (done : ∀ (vs : List Value) (ns' : List Int) (u : Str → Option Value) (h : Heap) (tk : Nat), IntsAre vs ns' → ns'.length = 12 → Fr h₀ env.locals h u → News h₀ env.locals h [(lb, listOf vs.toArray nb), (cP, oP), (cB, oB)] → Q .next { s with heap := h, toks := tk }) :
    wpAny (model prog w) A (call (.type "enumerate") [.ref D]) (fun xv s₁ => wpAny (model prog w) A (pyIter xv) (OwnAt prog w A env (.Tuple [.Name (Str.ofString "place") p1, .Name (Str.ofString "x") p2] tkk tp) body Q E) E s₁) E s := by
  have hD := N _ (.head _)
  have hlt : ∀ p ∈ [(D, listOf ws.toArray nd), (lb, listOf Bs.toArray nb), (cP, oP), (cB, oB)], p.1 < s.heap.objs.size := fun p hp => Heap.lt_size (N p hp).1
  refine call_enumerate_list (PySem.IsL.isList (n := nd) hD.1) fun h2 he hit hsz hk2 => ?_
  have N2 := N.grown hk2
  have hDs := hlt _ (.head _)
  have nw : ∀ b, s.heap.objs.size ≤ b → env.locals ≠ b ∧ h₀.get? b = none := fun b hb => ⟨Nat.ne_of_lt (Nat.lt_of_lt_of_le F.ns.lt hb), ktu_new F hb⟩
  refine enum_loop (σ := List Value) (l := D) (fun c => [(lb, listOf c.toArray nb), (cP, oP), (cB, oB)]) (fun _ => []) (fun _ c => ∃ ns', IntsAre c ns' ∧ ns'.length = 12) Bs hh hx1 hx2 hcl (Nat.succ_ne_self _) (Nat.ne_of_lt (Nat.lt_succ_of_lt hDs)) (Nat.ne_of_lt hDs) ⟨he, hit, PySem.IsL.isList (n := nd) (N2 _ (.head _)).1⟩ ?_ ?_ (F.keeps hk2) (fun p hp => N2 p (.tail _ hp)) (fun _ h => nomatch h) hB ?_ ?_
  · intro b hb
    simp only [List.mem_cons, List.not_mem_nil, or_false] at hb
    rcases hb with rfl | rfl | rfl
    · exact nw _ (Nat.le_succ _)
    · exact nw _ (Nat.le_refl _)
    · exact ⟨Ne.symm hD.2.1, hD.2.2⟩
  · intro c p hp hb
    have hps : p.1 < s.heap.objs.size ∧ p.1 ≠ D := by
      simp only [List.mem_cons, List.not_mem_nil, or_false] at hp
      rcases hp with rfl | rfl | rfl
      · exact ⟨hlt (lb, listOf Bs.toArray nb) (by simp), hne.1⟩
      · exact ⟨hlt (cP, oP) (by simp), hne.2.2.2.1⟩
      · exact ⟨hlt (cB, oB) (by simp), hne.2.2.2.2⟩
    simp only [List.mem_cons, List.not_mem_nil, or_false] at hb
    rcases hb with q | q | q
    · rw [q] at hps; exact absurd hps.1 (Nat.not_lt.mpr (Nat.le_succ _))
    · rw [q] at hps; exact absurd hps.1 (Nat.lt_irrefl _)
    · exact hps.2 q
  · rintro c i v t u h tk own hv ⟨ns', hc, hn⟩ hown Fh Nh
    obtain ⟨x, tx, rfl, hx⟩ := hI.at i v (by simpa using hv)
    have hi12 : i < 12 := Nat.lt_of_lt_of_le (List.getElem?_eq_some_iff.mp hx).1 hms
    have hlbs := hlt (lb, listOf Bs.toArray nb) (by simp)
    refine wpAny_mono (turn c ns' i x tx t u h tk ((cP, oP) :: own) hi12 hc hn (fun p hp => ?_) Fh fun p hp => Nh p ?_) (fun f s₃ h₃ => ?_) fun _ _ e => e
    · rcases List.mem_cons.mp hp with rfl | hp
      · exact hne.2.1
      · have := hown p hp
        simp only [List.mem_cons, List.not_mem_nil, or_false] at this
        rcases this with q | q | q
        · rw [q]; exact Nat.ne_of_gt (Nat.lt_succ_of_lt hlbs)
        · rw [q]; exact Nat.ne_of_gt hlbs
        · rw [q]; exact Ne.symm hne.1
    · dsimp only [List.cons_append, List.nil_append] at hp ⊢
      rcases List.mem_cons.mp hp with rfl | hp
      · k_mem
      rcases List.mem_cons.mp hp with rfl | hp
      · k_mem
      rcases List.mem_cons.mp hp with rfl | hp
      · k_mem
      exact .tail _ (.tail _ (.tail _ hp))
    · have fin : ∀ h' (vs' : List Value), News h₀ env.locals h' ((lb, listOf vs'.toArray nb) :: (cB, oB) :: (cP, oP) :: own) → News h₀ env.locals h' ([(lb, listOf vs'.toArray nb), (cP, oP), (cB, oB)] ++ own) := fun h' vs' N' p hp => N' p (by
        dsimp only [List.cons_append, List.nil_append] at hp ⊢
        rcases List.mem_cons.mp hp with rfl | hp
        · k_mem
        rcases List.mem_cons.mp hp with rfl | hp
        · k_mem
        rcases List.mem_cons.mp hp with rfl | hp
        · k_mem
        exact .tail _ (.tail _ (.tail _ hp)))
      cases f with
      | ret v => exact h₃
      | brk => exact h₃
      | next =>
        obtain ⟨h', tk', vs', ns'', m', e, F', N', g1, g2⟩ := h₃
        exact ⟨h', tk', vs', m', e, F', fin _ _ N', (fun _ h => nomatch h), ns'', g1, g2⟩
      | cont =>
        obtain ⟨h', tk', vs', ns'', m', e, F', N', g1, g2⟩ := h₃
        exact ⟨h', tk', vs', m', e, F', fin _ _ N', (fun _ h => nomatch h), ns'', g1, g2⟩
  · rintro c u h tk ⟨ns', hc, hn⟩ Fh Nh
    exact done c ns' u h tk hc hn Fh Nh
end
section
local macro_rules | `(tactic| walk_at "exec For Tuple Call cons nil") => `(tactic| (k_here; (rename Fr _ _ _ _ => lF'); k_dflt (refine for_own lF' ?_)))
local macro_rules | `(tactic| walk_at "subscriptTail Tuple cons BinOp ref int") => `(tactic| (k_here; refine halt ?_))
local macro_rules | `(tactic| walk_at "eval ListComp") => `(tactic| (k_here; (rename Fr _ _ _ _ => lF'); k_dflt (refine comp_range (n := 12) (J := RJ2) lF' (by rfl) (by decide) (by rfl) (by decide) (by rfl) ?_); refine wpAny_with_toks (n := 1) (Nat.le_add_left 1 _) ?_))
local macro_rules | `(tactic| walk_at "execs cons") => `(tactic| (refine wpAny_execs_cons ?_))
local macro_rules | `(tactic| walk_at "CompSrc") => `(tactic| (k_here; refine halt ?_))
local macro_rules | `(tactic| walk_at "setItem ref int") => `(tactic| (k_here; refine halt ?_))
local macro_rules | `(tactic| walk_at "Exists") => `(tactic| (refine halt ?_))
local macro_rules | `(tactic| walk_at "call type:enumerate") => `(tactic| (k_here; refine halt ?_))
set_option maxHeartbeats 300000 in
theorem c_ring {w : World} {mean : ExcName → Option Value} {mg mb : Str → Option Value} {dp un : Nat} {gd : Option (List Code)} {cn : Str} {cs : Scope} {a : Addr} {ccd : Value} {cl : List (Str × Addr)} {outer : List Env} {A₀ : Around} {base h₀ : Heap} {L : Addr} {m : Str → Option Value} {s : Shared} {Q E : Value → Shared → Prop} {news : List (Addr × Obj)} {ls : Addr} {vs : List Value} {ns : List Int}
    (C : CC w mean mg mb A₀ base outer h₀ L m s news cs dp un 1) (hls : s.heap.IsList ls vs.toArray) (hi : IntsAre vs ns) (hlen : ns.length ≤ 100)
    (hret : ∀ (l : Addr) (ys : List Value) (h' : Heap) (tk' : Nat), Fr h₀ L h' m → News h₀ L h' ((l, listOf ys.toArray ys.length) :: news) → ys.length = 12 → (∀ y ∈ ys, ∃ x t, y = Value.str x t ∧ IsL x ∧ t ≠ 0 ∧ t < tk') → (∀ b o, s.heap.get? b = some o → h'.get? b = some o) → Q (.ref l) { s with heap := h', toks := tk' }) :
    wpAny (model Pg w) (ktrTop dp un gd cn cs L a ccd cl outer) (call (.ref 68) [.ref ls]) Q E s := by
  obtain ⟨B, F, X, N, T, hk, hdp, hun⟩ := C
  have hback := fun (nw : List (Addr × Obj)) (L' : Addr) (m' : Str → Option Value) (h' : Heap) (F' : Fr s.heap L' h' m') (N' : News s.heap L' h' nw) => back_many F N F' N'
  refine wpAny_call ?_
  k_dflt ktr_step
  rename_i L1 h1 tk1 F1 B1 X1 T1 o1 o2 d1 d2 N1
  replace d1 : o1.data = Data.cell none := d1
  replace d2 : o2.data = Data.cell none := d2
  clear F N B X T
  k_steps
  refine Halt.go ?_
  (rename Fr _ _ _ _ => F2)
  (rename News _ _ _ _ => N2)
  refine ring_loop rfl rfl rfl rfl F2 N2 (by assumption) (by rw [List.length_take]; omega) ⟨[1, 0, 3, 2, 1, 0, 2, 3, 1, 1, 2, 0], ?_, rfl⟩ ⟨by k_ne, by k_ne, by k_ne, by k_ne, by k_ne⟩ ?_ ?_
  · with_unfolding_all repeat (first | exact .nil | refine .cons _ _ ?_)
  · intro vs2 ns2 i x tx t u h tk nx hi12 hI2 hn2 hnx Fi Ni
    (try clear F2)
    (try clear N2)
    (try k_fold)
    k_steps
    refine Halt.go ?_
    (rename Fr _ _ _ _ => F5)
    (rename News _ _ _ _ => N5)
    refine ksa_set F5 N5 (.head (List.forall_mem_cons.mpr ⟨by k_ne, hnx⟩)) hI2 (Int.natCast_nonneg i) (by omega) (by omega) fun h6 F6 N6 hI6 hn6 _ => ?_
    clear F5 N5
    k_steps
    refine Halt.go ?_
    exact ⟨_, _, _, _, _, rfl, F6, N6, hI6, hn6.trans hn2⟩
  · intro vs2 ns2 u h tk hI2 hn2 Fi Ni
    (try clear F2)
    (try clear N2)
    (try k_fold)
    dsimp only
    k_steps
    refine Halt.go ?_
    (rename Fr _ _ _ _ => F5)
    (rename News _ _ _ _ => N5)
    have fb := fmod_bd (Int.fdiv (ns2.getD (Int.toNat 0) 0) 4) (k := 4) (by decide)
    refine item_per ⟨_, (N5 _ (.head _)).1, rfl, _, rfl⟩ fb fun p tp hp1 hp2 => ?_
    clear fb
    dsimp only
    k_steps
    refine Halt.go ?_
    (rename Fr _ _ _ _ => F6)
    (rename News _ _ _ _ => N6)
    (rename IsRange _ _ _ _ _ _ _ _ => R6)
    refine ⟨_, _, _, _, _, _, _, rfl, rfl, F6, N6, R6, by decide, by rfl, by rw [PySem.sizeLine_eq]; omega, ⟨by assumption, fun y hy => nomatch hy⟩, (fun i ys a b hab hJ => ⟨Nat.le_trans hJ.1 hab, fun y hy => ?_⟩), ?_, ?_⟩
    · exact Exists.elim (hJ.2 y hy) fun x hx => Exists.elim hx fun t ht => ⟨x, t, ht.1, ht.2.1, ht.2.2.1, Nat.lt_of_lt_of_le ht.2.2.2 hab⟩
    · intro i v ys I oI C oC D m₂ h tk E' hi12 hv hJ hC hx Fa Na off ne
      obtain ⟨tv, rfl⟩ := hv
      clear F6 N6 R6
      dsimp only
      k_steps
      refine Halt.go ?_
      (rename Fr _ _ _ _ => F8)
      (rename News _ _ _ _ => N8)
      refine item_let (tk := tk) (by dsimp only; omega) hJ.1 ⟨_, (N8 _ (.head _)).1, rfl, _, rfl⟩ (fmod_bd _ (by decide)) fun y t hy ht1 ht2 => ?_
      refine ⟨_, _, rfl, F8, fun p hp => N8 p (.tail _ hp), Nat.le_trans (Nat.succ_le_of_lt (Nat.lt_of_le_of_lt (Nat.zero_le _) ht2)) (Nat.le_refl _), fun z hz => ?_⟩
      rcases List.mem_append.mp hz with hz | hz
      · exact Exists.elim (hJ.2 z hz) fun x hx => Exists.elim hx fun t ht => ⟨x, t, ht.1, ht.2.1, ht.2.2.1, Nat.lt_of_lt_of_le ht.2.2.2 (by dsimp only; omega)⟩
      · exact ⟨y, t, List.mem_singleton.mp hz, hy, ht1, ht2⟩
    · intro D ys h tk Fa Na o1 hl hJ
      clear F6 N6 R6
      dsimp only
      k_steps
      refine Halt.go ?_
      have NY : News s.heap L1 h [(D, listOf ys.toArray ys.length)] := fun p hp => by
        rw [List.mem_singleton.mp hp]; exact Na _ (.head _)
      have hz := hback _ _ _ _ Fa NY
      exact ⟨_, _, _, Fa, Na, fun _ _ => hret _ _ _ _ hz.1 hz.2.1 hl hJ.2 hz.2.2⟩
end
end Mine
namespace Mine
open PyProof.Rows.LCg PySem.Spec
section
variable {prog : Program} {w : World} {A : Around} {E : Value → Shared → Prop} {s : Shared} {h₀ : Heap} {L : Addr} {m : Str → Option Value} {env : Env}
def ListAt (prog : Program) (w : World) (A : Around) (h₀ : Heap) (L : Addr) (m : Str → Option Value) (env : Env) (elt : PySem.Expr) (x : Str) (scope : Scope) (cl : List (Str × Addr)) (J : Nat → List Value → Nat → Prop) (Fin : Shared → Addr → List Value → List (Addr × Obj) → Heap → Nat → Prop) (xv : Value) (s₁ : Shared) : Prop :=
  ∃ (l : Addr) (items : Array Value) (no : Nat) (news : List (Addr × Obj)), xv = .ref l ∧ A.handled = none ∧ Fr h₀ L s₁.heap m ∧ News h₀ L s₁.heap news ∧ (l, listOf items no) ∈ news ∧ items.size ≤ sizeLine ∧
      J 0 [] s₁.toks ∧ (∀ i ys a b, a ≤ b → J i ys a → J i ys b) ∧ TurnT prog w A h₀ L m env elt x scope cl s₁ news items.size (fun i v => items[i]? = some v) J ∧
      (∀ D ys h tk, ys.length = items.size → J items.size ys tk → Off1 D news → Fin s₁ D ys news h tk)
theorem list_block {elt iter : PySem.Expr} {x : Str} {px : Pos} {scope : Scope} {cl : List (Str × Addr)} {pos : Pos} {J : Nat → List Value → Nat → Prop} {l : Addr} {items : Array Value} {no : Nat} {news : List (Addr × Obj)} {RR : Value → Addr → Result → Shared → Prop}
    (hcell : ∀ y ∈ scope.names, y.2 ≠ .cell) (hkind : scope.kind = .function) (hx : scope.names.lookup x = some .local)
    (hh : A.handled = none) (F : Fr h₀ L s.heap m) (N : News h₀ L s.heap news) (hm : (l, listOf items no) ∈ news) (hsz : items.size ≤ sizeLine) (hJ : J 0 [] s.toks) (hJm : ∀ i ys a b, a ≤ b → J i ys a → J i ys b)
    (turn : TurnT prog w A h₀ L m env elt x scope cl s news items.size (fun i v => items[i]? = some v) J)
    (hRR : ∀ D C h tk m' ys, Fr h₀ L h m → News h₀ L h ((D, lst ys) :: news) → Off1 D news → h.Ns C m' → h₀.get? C = none → h₀.get? D = none → C ≠ L → D ≠ L → C ≠ D → (∀ p ∈ news, p.1 ≠ C) → ys.length = items.size → J items.size ys tk → RR (.ref D) C (.ok .next) { s with heap := h, toks := tk }) :
    wpAny (model prog w) A (pyIter (.ref l)) (fun it s₂ => wpAny (model prog w) A (newList []) (fun acc s₃ => wpAny (model prog w) A (newFunctionEnv scope env.globals cl [] env.qual none .none (some env)) (fun cenv s₄ =>
      codeAny (model prog w) A (.compStart (.ListComp elt [⟨.Name x px, iter, [], 0⟩] scope pos) 0 it acc { cenv with scope := relabel scope env }) (RR acc cenv.locals) s₄) E s₃) E s₂) E s := by
  have hl := PySem.IsL.isList (n := no) (N _ hm).1
  have hlt : l < s.heap.objs.size := Heap.lt_size (N _ hm).1
  refine wpAny_pyIter_list hl ?_
  refine block_T (St := fun i h => h.IsListIter s.heap.objs.size l i ∧ h.IsList l items) (Walks.list hh s.heap.objs.size l (Nat.ne_of_lt hlt) items) hsz (fun i h st => by obtain ⟨o, e, _⟩ := st.1; exact ⟨o, e⟩) (fun i h h' o st e e' _ N' => ⟨?_, PySem.IsL.isList (n := no) (N' _ hm).1⟩) hcell hkind hx ⟨⟨_, Heap.get?_push_size _ rfl, rfl, rfl⟩, hl.push _⟩ (fun b hb => ?_)
    (F.push _) (N.grown fun b o e => Heap.get?_push_of_some _ e) (Nat.ne_of_lt F.ns.lt) (next_is_new F) (fun p hp => Nat.ne_of_lt (Heap.lt_size (N p hp).1)) hJ hJm ?_ ?_
  · obtain ⟨o', e1, r⟩ := st.1
    rw [e] at e1
    cases e1
    exact ⟨o, e', r⟩
  · show b < (s.heap.push _).objs.size
    rw [Heap.size_push]
    rcases List.mem_cons.mp hb with rfl | hb
    · exact Nat.lt_succ_self _
    · rw [List.mem_singleton.mp hb]; exact Nat.lt_succ_of_lt hlt
  · exact turn
  · exact hRR
theorem comp_list {elt iter : PySem.Expr} {x : Str} {px : Pos} {scope : Scope} {cl : List (Str × Addr)} {pos : Pos} {Q : Value → Shared → Prop} {J : Nat → List Value → Nat → Prop} (_F : Fr h₀ L s.heap m)
    (hclos : closureFor scope env = pure cl) (hcell : ∀ y ∈ scope.names, y.2 ≠ .cell) (hkind : scope.kind = .function)
    (hnames : ∀ y ∈ scope.names, y.2 = .local → scope.names.lookup y.1 = some .local) (hx : scope.names.lookup x = some .local)
    (h : wpAny (model prog w) A (eval iter env) (ListAt prog w A h₀ L m env elt x scope cl J (fun s₁ D ys news h tk => Fr h₀ L h m → News h₀ L h ((D, lst ys) :: news) → Q (.ref D) { s₁ with heap := h, toks := tk })) E s)
    (hs : ∀ x, foldedSetIterable iter env x = pure x := by intro _; rfl) :
    wpAny (model prog w) A (eval (.ListComp elt [⟨.Name x px, iter, [], 0⟩] scope pos) env) Q E s := by
  rw [eval_ListComp]
  refine wpAny_comprehension_free (use := none) rfl hs hclos hkind hnames (wpAny_mono h (fun xv s₁ h₁ => ?_) fun _ _ e => e)
  obtain ⟨l, items, no, news, rfl, hh, F, N, hm, hsz, hJ, hJm, turn, fin⟩ := h₁
  refine list_block hcell hkind hx hh F N hm hsz hJ hJm turn ?_
  intro D C h tk m' ys F' N' o1 hn hC₀ hD₀ hCL hDL hCD offC hyl hJ'
  refine ⟨m', hn, fun h'' hs'' => ?_⟩
  obtain ⟨F'', N''⟩ := comp_done F' N' hn hC₀ hCL hCD offC hs''
  exact fin D ys h'' tk hyl hJ' o1 F'' N''
theorem assign_list {elt iter : PySem.Expr} {x yy : Str} {px pyy : Pos} {scope : Scope} {cl : List (Str × Addr)} {pos spos : Pos} {Q : Flow → Shared → Prop} {J : Nat → List Value → Nat → Prop} (_F : Fr h₀ L s.heap m) (hLe : env.locals = L)
    (hsw : swapsWith (.ListComp elt [⟨.Name x px, iter, [], 0⟩] scope pos) (some (.Name yy pyy)) spos.line env = pure true)
    (hclos : closureFor scope env = pure cl) (hcell : ∀ y ∈ scope.names, y.2 ≠ .cell) (hkind : scope.kind = .function)
    (hnames : ∀ y ∈ scope.names, y.2 = .local → scope.names.lookup y.1 = some .local) (hx : scope.names.lookup x = some .local)
    (hyy : env.kindOf yy = some .local) (hp : (env.scope.kind == .class || (env.scope.kind == .module && env.locals != env.globals)) = false)
    (h : wpAny (model prog w) A (eval iter env) (ListAt prog w A h₀ L m env elt x scope cl J (fun s₁ D ys news h tk => Fr h₀ L h (fun z => if z = yy then some (.ref D) else m z) → News h₀ L h ((D, lst ys) :: news) → Q .next { s₁ with heap := h, toks := tk + 1 })) E s)
    (hs : ∀ x, foldedSetIterable iter env x = pure x := by intro _; rfl) :
    wpAny (model prog w) A (exec (.Assign [.Name yy pyy] (.ListComp elt [⟨.Name x px, iter, [], 0⟩] scope pos) spos) env) Q E s := by
  subst hLe
  rw [exec_Assign_Name_used _ _ _ _ hsw]
  refine wpAny_bind (wpAny_standAt (wpAny_bind ?_))
  show wpAny _ A (do let _ ← comprehension (.ListComp elt [⟨.Name x px, iter, [], 0⟩] scope pos) scope env _ (newList []) false (eval iter env) (some (assign (.Name yy pyy) env))) _ _ s
  refine wpAny_bind (wpAny_mono (wpAny_comprehension_free (use := some (assign (.Name yy pyy) env)) (Q := fun _ s' => Q .next s') rfl hs hclos hkind hnames
    (wpAny_mono h (fun xv s₁ h₁ => ?_) fun _ _ e => e)) (fun _ s' hq => wpAny_pure (wpAny_pure hq)) fun _ _ e => e)
  obtain ⟨l, items, no, news, rfl, hh, F, N, hm, hsz, hJ, hJm, turn, fin⟩ := h₁
  refine list_block hcell hkind hx hh F N hm hsz hJ hJm turn ?_
  intro D C h tk m' ys F' N' o1 hn hC₀ hD₀ hCL hDL hCD offC hyl hJ'
  show wpAny _ A (assign (.Name yy pyy) env (.ref D)) _ _ _
  refine wpAny_assign_Name (wpAny_storeName_local hyy F'.ns (fun h₂ hn₂ hs₂ => ?_) hp)
  have hL₀ : h₀.get? env.locals = none := Heap.get?_none_of_le F'.above
  have F₂ : Fr h₀ env.locals h₂ (fun z => if z = yy then some (.ref D) else m z) := ⟨hn₂, fun b o e => hs₂.extBut b o (fun q => by rw [q, hL₀] at e; cases e) (F'.keep b o e), F'.above⟩
  refine ⟨m', hn.sameBut hs₂ hCL, fun h'' hs'' => fin D ys h'' tk hyl hJ' o1 (F₂.change hs'' hCL hC₀) (fun p hp => ?_)⟩
  have z : h₂.get? p.1 = some p.2 := hs₂.extBut _ _ (N' p hp).2.1 (N' p hp).1
  refine ⟨hs''.extBut _ _ ?_ z, (N' p hp).2⟩
  rcases List.mem_cons.mp hp with rfl | hp
  · exact Ne.symm hCD
  · exact offC p hp
end
end Mine
namespace Mine
theorem strs_ex {tk : Nat} : ∀ {ys : List Value}, (∀ y ∈ ys, ∃ x t, y = Value.str x t ∧ IsL x ∧ t ≠ 0 ∧ t < tk) → ∃ xs, StrsAre ys xs ∧ (∀ x ∈ xs, IsL x) ∧ xs.length = ys.length ∧ ∀ (i : Nat) v, ys[i]? = some v → ∃ x t, v = Value.str x t ∧ xs[i]? = some x ∧ t ≠ 0 ∧ t < tk
  | [], _ => ⟨[], .nil, (fun _ h => nomatch h), rfl, fun i v h => by simp at h⟩
  | y :: ys, h => by
    obtain ⟨x, t, rfl, hx, h1, h2⟩ := h y (.head _)
    obtain ⟨xs, g1, g2, g3, g4⟩ := strs_ex (fun z hz => h z (.tail _ hz))
    refine ⟨x :: xs, .cons x t g1, List.forall_mem_cons.mpr ⟨hx, g2⟩, by simp [g3], fun i v hv => ?_⟩
    cases i with
    | zero => simp at hv; exact ⟨x, t, hv.symm, by simp, h1, h2⟩
    | succ i => simpa using g4 i v (by simpa using hv)
def HTok (ys : List Value) (xs : List Str) (TK : Nat) : Prop := ∀ (i : Nat) v, ys[i]? = some v → ∃ x t, v = Value.str x t ∧ xs[i]? = some x ∧ t ≠ 0 ∧ t < TK
abbrev tkOf {ys : List Value} {xs : List Str} {TK : Nat} (_ : HTok ys xs TK) : Nat := TK
abbrev xsOf {ys : List Value} {xs : List Str} {TK : Nat} (_ : HTok ys xs TK) : List Str := xs
theorem c_ring2 {w : World} {mean : ExcName → Option Value} {mg mb : Str → Option Value} {dp un : Nat} {gd : Option (List Code)} {cn : Str} {cs : Scope} {a : Addr} {ccd : Value} {cl : List (Str × Addr)} {outer : List Env} {A₀ : Around} {base h₀ : Heap} {L : Addr} {m : Str → Option Value} {s : Shared} {Q E : Value → Shared → Prop} {news : List (Addr × Obj)} {ls : Addr} {vs : List Value} {ns : List Int}
    (C : CC w mean mg mb A₀ base outer h₀ L m s news cs dp un 1) (hls : s.heap.IsList ls vs.toArray) (hi : IntsAre vs ns) (hlen : ns.length ≤ 100)
    (hret : ∀ (l : Addr) (ys : List Value) (xs : List Str) (h' : Heap) (tk' : Nat), Fr h₀ L h' m → News h₀ L h' ((l, listOf ys.toArray ys.length) :: news) → StrsAre ys xs → (∀ x ∈ xs, IsL x) → xs.length = 12 → ys.length = 12 → HTok ys xs tk' → Q (.ref l) { s with heap := h', toks := tk' }) :
    wpAny (model Pg w) (ktrTop dp un gd cn cs L a ccd cl outer) (call (.ref 68) [.ref ls]) Q E s := by
  refine c_ring C hls hi hlen fun l ys h' tk' F' N' hl hy _ => ?_
  obtain ⟨xs, g1, g2, g3, g4⟩ := strs_ex hy
  exact hret l ys xs h' tk' F' N' g1 g2 (g3.trans hl) hl g4
def dOf (o : Int) : Nat := if o = 2 then 1 else if o = 12 then 4 else 2
def enOf (o : Int) (r : List Int) : Int :=
  if o = 2 then r.getD 0 0 * r.getD 0 0
  else if o = 12 then 4 * (0 + r.getD 0 0 * r.getD 0 0 + r.getD 2 0 * r.getD 2 0 + 1 * r.getD 0 0 * r.getD 2 0 + r.getD 1 0 * r.getD 1 0 + r.getD 3 0 * r.getD 3 0 + 1 * r.getD 1 0 * r.getD 3 0)
  else 2 * (0 + r.getD 0 0 * r.getD 0 0 + r.getD 1 0 * r.getD 1 0 + (o - 4 - (if o = 6 then 1 else 0)) * r.getD 0 0 * r.getD 1 0)
theorem ints1 {vs : List Value} {r : List Int} (h : IntsAre vs r) (hl : r.length = 1) : ∃ x0 t0, vs = [.int x0 t0] ∧ r = [x0] := by
  cases h with
  | nil => simp at hl
  | cons x t h => cases h with
    | nil => exact ⟨_, _, rfl, rfl⟩
    | cons _ _ _ => simp at hl
theorem c_energy {w : World} {mean : ExcName → Option Value} {mg mb : Str → Option Value} {dp un : Nat} {gd : Option (List Code)} {cn : Str} {cs : Scope} {a : Addr} {ccd : Value} {cl : List (Str × Addr)} {outer : List Env} {A₀ : Around} {base h₀ : Heap} {L : Addr} {m : Str → Option Value} {s : Shared} {Q E : Value → Shared → Prop} {news : List (Addr × Obj)} {lr : Addr} {to_ : Tok} {o : Int} {vs : List Value} {r : List Int}
    (C : CC w mean mg mb A₀ base outer h₀ L m s news cs dp un 1) (ho : o = 2 ∨ o = 3 ∨ o = 4 ∨ o = 6 ∨ o = 12)
    (hl : s.heap.IsList lr vs.toArray) (hi : IntsAre vs r) (hd : r.length = dOf o) (hb : ∀ x ∈ r, -1000 ≤ x ∧ x ≤ 1000)
    (hret : ∀ (t : Tok) (h' : Heap) (tk' : Nat), Fr h₀ L h' m → News h₀ L h' news → (∀ b o, s.heap.get? b = some o → h'.get? b = some o) → Q (.int (enOf o r) t) { s with heap := h', toks := tk' }) :
    wpAny (model Pg w) (ktrTop dp un gd cn cs L a ccd cl outer) (call (.ref 94) [.int o to_, .ref lr]) Q E s := by
  have key : ∀ n : Nat, (o = 3 ∨ o = 4 ∨ o = 6 ∨ o = 12) → (n = 1 ∨ n = 2) → r.length = 2 * n → enOf o r = (2 * n : Nat) * enSum r n (tiltOf o) n → wpAny (model Pg w) (ktrTop dp un gd cn cs L a ccd cl outer) (call (.ref 94) [.int o to_, .ref lr]) Q E s := fun n ho hn hl2 he =>
    c_energyG C ho hl hi hl2 hn hb fun t h' tk' F' N' k => he ▸ hret t h' tk' F' N' k
  rcases ho with rfl | rfl | rfl | rfl | rfl
  · obtain ⟨x0, t0, rfl, rfl⟩ := ints1 hi hd
    exact c_energy2 C hl (hb _ (by simp)) fun t h' tk' F' N' k => hret t h' tk' F' N' k
  · exact key 1 (by decide) (by decide) hd (by simp [enOf, enSum, tiltOf])
  · exact key 1 (by decide) (by decide) hd (by simp [enOf, enSum, tiltOf])
  · exact key 1 (by decide) (by decide) hd (by simp [enOf, enSum, tiltOf])
  · exact key 2 (by decide) (by decide) hd (by simp [enOf, enSum, tiltOf])
end Mine
namespace Mine
open PyProof.Rows.LCg
section
variable {prog : Program} {w : World} {A : Around} {E : Value → Shared → Prop} {s : Shared} {env : Env} {h₀ : Heap} {y1 y2 : Str} {body : List Stmt} {Q : Flow → Shared → Prop}
def CPost (h₀ : Heap) (L : Addr) (s : Shared) (Q : Flow → Shared → Prop) (gens : Array GenState) (nk : List (Addr × Obj)) (ps : List (Str × Value)) (f : Flow) (s₃ : Shared) : Prop := match f with
  | .ret v => Q (.ret v) s₃
  | .brk => Q .next s₃
  | _ => ∃ (h' : Heap) (tk' : Nat) (gens' : Array GenState) (m' : Str → Option Value), s₃ = { s with heap := h', toks := tk', gens := gens' } ∧ (AllBare gens → AllBare gens') ∧ Fr h₀ L h' m' ∧ News h₀ L h' nk ∧ (∀ p ∈ ps, m' p.1 = some p.2)
theorem cell_set {h h' : Heap} {c : Addr} {v : Value} (x : h'.IsCell c (some v)) : ∃ o', h'.get? c = some o' ∧ o'.data = .cell (some v) := x
theorem pairs_cell {T cO : Addr} {oO : Obj} {nT : Nat} {p1 p2 tp : Pos} {tkk} {m : Str → Option Value} (its : List (Addr × Value × Value)) (tl : List (Addr × Obj)) (ps : List (Str × Value))
    (hh : A.handled = none) (hsk : env.scope.kind = .function) (hx1 : env.kindOf y1 = some .cell) (hc : env.cells.lookup y1 = some cO) (hx2 : env.kindOf y2 = some .local) (hcl : (env.scope.kind == .class || (env.scope.kind == .module && env.locals != env.globals)) = false)
    (hT : (T, tupO (its.map (fun p => Value.ref p.1)).toArray nT) ∈ tl) (hits : ∀ p ∈ its, ∃ n, (p.1, tupO #[p.2.1, p.2.2] n) ∈ tl)
    (F : Fr h₀ env.locals s.heap m) (N : News h₀ env.locals s.heap ((cO, oO) :: tl)) (hoO : ∃ z, oO.data = .cell z) (hoff : ∀ p ∈ tl, p.1 ≠ cO) (hk : ∀ p ∈ ps, m p.1 = some p.2)
    (turn : ∀ (i : Nat) (p : Addr × Value × Value) (u : Str → Option Value) (h : Heap) (tk : Nat) (gens : Array GenState) (I : Addr) (oI oO' : Obj), its[i]? = some p → oO'.data = .cell (some p.2.1) → (AllBare s.gens → AllBare gens) → Fr h₀ env.locals h (fun y => if y = y2 then some p.2.2 else kstB u ps y) → News h₀ env.locals h ((I, oI) :: (cO, oO') :: tl) →
      wpAny (model prog w) A (execs body env) (CPost h₀ env.locals s Q gens ((I, oI) :: (cO, oO') :: tl) ps) E { s with heap := h, toks := tk, gens := gens })
    (done : ∀ (u : Str → Option Value) (h : Heap) (tk : Nat) (gens : Array GenState), (AllBare s.gens → AllBare gens) → Fr h₀ env.locals h u → Q .next { s with heap := h, toks := tk, gens := gens }) :
    wpAny (model prog w) A (pyIter (.ref T)) (OwnAt prog w A env (.Tuple [.Name y1 p1, .Name y2 p2] tkk tp) body Q E) E s := by
  have hTT : s.heap.IsTuple T (its.map (fun p => Value.ref p.1)).toArray := ⟨_, (N _ (.tail _ hT)).1, rfl, _, rfl⟩
  refine wpAny_pyIter_tuple hTT ?_
  have hLI := F.ns.lt
  have hI0 := ktu_new F (Nat.le_refl _)
  have hoffI : ∀ r ∈ (cO, oO) :: tl, r.1 ≠ s.heap.objs.size := fun r hr => Nat.ne_of_lt (Heap.lt_size (N r hr).1)
  have hcI : cO ≠ s.heap.objs.size := hoffI (cO, oO) (.head _)
  refine ⟨fun k s' => ∃ i h tk gens oO' m', i + k = its.length ∧ s' = { s with heap := h, toks := tk, gens := gens } ∧ (AllBare s.gens → AllBare gens) ∧ Fr h₀ env.locals h m' ∧ News h₀ env.locals h ((cO, oO') :: tl) ∧ (∃ z, oO'.data = .cell z) ∧ h.IsTupleIter s.heap.objs.size T i ∧ (∀ p ∈ ps, m' p.1 = some p.2), its.length,
    ⟨0, _, _, _, oO, m, by omega, rfl, id, F.push _, N.grown fun b o e => Heap.get?_push_of_some _ e, hoO, ⟨_, Heap.get?_push_size _ rfl, rfl, rfl⟩, hk⟩, ?_⟩
  generalize s.heap.objs.size = I at *
  rintro k s' ⟨i, h, tk, gens, oO', m', hik, rfl, hbar, F', N', ⟨z, hz⟩, hit, hk'⟩
  have em : kstB m' ps = m' := js_map (x := y1) hk'
  have hT' : h.IsTuple T (its.map (fun p => Value.ref p.1)).toArray := ⟨_, (N' _ (.tail _ hT)).1, rfl, _, rfl⟩
  have nI : ∀ r ∈ (cO, oO') :: tl, r.1 ≠ I := fun r hr => by
    rcases List.mem_cons.mp hr with rfl | hr
    · exact hcI
    · exact hoffI r (.tail _ hr)
  unfold TurnAt
  by_cases hlt : i < its.length
  · obtain ⟨p, hpi⟩ : ∃ p, its[i]? = some p := ⟨its[i], List.getElem?_eq_getElem hlt⟩
    refine wpAny_pyNext_tuple_item (x := .ref p.1) hit hT' (by simp [hpi]) fun h2 hit2 hs2 => ?_
    refine letGo_tupleiter hit2 ?_
    have F2 := F'.sameNew hLI hs2
    have N2 : News h₀ env.locals h2 ((cO, oO') :: tl) := fun r hr => ⟨hs2.extBut _ _ (nI r hr) (N' r hr).1, (N' r hr).2⟩
    obtain ⟨np, hpt⟩ := hits p (List.mem_of_getElem? hpi)
    have htp : IsTup h2 p.1 #[p.2.1, p.2.2] := ⟨_, (N2 _ (.tail _ hpt)).1, rfl, _, rfl⟩
    refine assign_Tuple_tuple hh htp rfl rfl fun h5 he => ?_
    have he' : ∀ b o, h2.get? b = some o → h5.get? b = some o := fun b o e => he b o (Nat.ne_of_lt (Heap.lt_size e)) e
    have F5 := F2.keeps he'
    have N5 := N2.grown he'
    have hcN := N5 (cO, oO') (.head _)
    refine assignInOrder_cons (wpAny_assign_Name (wpAny_storeName_cell hsk hx1 hc ⟨_, hcN.1, hz⟩ fun h6 hc6 hs6 => ?_))
    obtain ⟨oO2, eO2, dO2⟩ := cell_set (h := h5) hc6
    have F6 := F5.change hs6 hcN.2.1 hcN.2.2
    refine assignInOrder_cons (wpAny_assign_Name (wpAny_storeName_local hx2 F6.ns (fun h7 hn7 hs7 => ?_) hcl))
    refine assignInOrder_nil ?_
    have F7 := F6.set hn7 hs7
    have N6 : News h₀ env.locals h6 ((cO, oO2) :: tl) := fun r hr => by
      rcases List.mem_cons.mp hr with rfl | hr
      · exact ⟨eO2, hcN.2⟩
      · exact ⟨hs6.extBut _ _ (hoff r hr) (N5 r (.tail _ hr)).1, (N5 r (.tail _ hr)).2⟩
    obtain ⟨oI, eI, cI, dI⟩ := id hit2
    have N7 : News h₀ env.locals h7 ((I, oI) :: (cO, oO2) :: tl) := fun r hr => by
      rcases List.mem_cons.mp hr with rfl | hr
      · exact ⟨hs7.extBut _ _ (Nat.ne_of_gt hLI) (hs6.extBut _ _ (Ne.symm hcI) (he' _ _ eI)), Nat.ne_of_gt hLI, hI0⟩
      · exact ⟨hs7.extBut _ _ (N6 r hr).2.1 (N6 r hr).1, (N6 r hr).2⟩
    refine wpAny_mono (turn i p m' h7 _ gens I oI oO2 hpi dO2 hbar (by rw [em]; exact F7) N7) (fun f s₃ h₃ => ?_) fun _ _ e => e
    have fin : ∀ s₃ : Shared, (∃ (h' : Heap) (tk' : Nat) (gens' : Array GenState) (m' : Str → Option Value), s₃ = { s with heap := h', toks := tk', gens := gens' } ∧ (AllBare gens → AllBare gens') ∧ Fr h₀ env.locals h' m' ∧ News h₀ env.locals h' ((I, oI) :: (cO, oO2) :: tl) ∧ (∀ p ∈ ps, m' p.1 = some p.2)) →
        ∃ j, j < k ∧ ∃ i h tk gens oO' m', i + j = its.length ∧ s₃ = { s with heap := h, toks := tk, gens := gens } ∧ (AllBare s.gens → AllBare gens) ∧ Fr h₀ env.locals h m' ∧ News h₀ env.locals h ((cO, oO') :: tl) ∧ (∃ z, oO'.data = .cell z) ∧ h.IsTupleIter I T i ∧ (∀ p ∈ ps, m' p.1 = some p.2) := by
      rintro s₃ ⟨h', tk', gens', m2, rfl, hb2, F8, N8, hk8⟩
      exact ⟨k - 1, by omega, i + 1, h', tk', gens', oO2, m2, by omega, rfl, fun ha => hb2 (hbar ha), F8, fun r hr => N8 r (.tail _ hr), ⟨_, dO2⟩, ⟨oI, (N8 _ (.head _)).1, cI, dI⟩, hk8⟩
    cases f with
    | ret v => exact h₃
    | brk => exact h₃
    | next => exact fin _ h₃
    | cont => exact fin _ h₃
  · obtain rfl : i = its.length := by omega
    refine wpAny_pyNext_tuple_end hh hit hT' (by simp) fun h2 hs2 => ?_
    have ok : ∀ b o, b ≠ I → h.get? b = some o → h2.get? b = some o := fun b o hb e => hs2 b o hb e
    exact done m' h2 tk gens hbar ⟨F'.ns.at' fun o e => ok _ o (Nat.ne_of_lt hLI) e, fun b o e => ok b o (fun q => by rw [q, hI0] at e; cases e) (F'.keep b o e), F'.above⟩
end
def wholes : List (Int × List Int) := [(2, [1, 1]), (3, [1, 1, 1]), (4, [1, 0, 1]), (6, [1, -1, 1]), (12, [1, 0, -1, 0, 1])]
section
variable {prog : Program} {w : World} {A : Around} {E : Value → Shared → Prop} {s : Shared} {env : Env} {h₀ : Heap} {body : List Stmt} {Q : Flow → Shared → Prop}
theorem mem_rot {α : Type} {x p : α} {tl : List α} (h : p ∈ x :: tl) : p ∈ tl ++ [x] := by
  rcases List.mem_cons.mp h with rfl | h
  · exact List.mem_append_right _ (.head _)
  · exact List.mem_append_left _ h
theorem mem_in {α : Type} {a b c d q i : α} {nx tl : List α} (hb : b ∈ tl) (hc : c ∈ tl) (hd : d ∈ tl) (h : q ∈ a :: b :: c :: d :: i :: tl) : q ∈ i :: a :: tl := by
  rcases List.mem_cons.mp h with rfl | h
  · exact .tail _ (.head _)
  rcases List.mem_cons.mp h with rfl | h
  · exact .tail _ (.tail _ hb)
  rcases List.mem_cons.mp h with rfl | h
  · exact .tail _ (.tail _ hc)
  rcases List.mem_cons.mp h with rfl | h
  · exact .tail _ (.tail _ hd)
  rcases List.mem_cons.mp h with rfl | h
  · exact .head _
  · exact .tail _ (.tail _ h)
theorem mem_out {α : Type} {a b c d q i : α} {tl : List α} (h : q ∈ i :: a :: tl) : q ∈ a :: b :: c :: d :: i :: tl := by
  rcases List.mem_cons.mp h with rfl | h
  · exact .tail _ (.tail _ (.tail _ (.tail _ (.head _))))
  rcases List.mem_cons.mp h with rfl | h
  · exact .head _
  · exact .tail _ (.tail _ (.tail _ (.tail _ (.tail _ h))))
def WRow (tl : List (Addr × Obj)) (t l : Addr) (o : Int) (ws : List Int) : Prop := ∃ (n m : Nat) (x : Tok) (vw : List Value), IntsAre vw ws ∧ (t, tupO #[.int o x, .ref l] n) ∈ tl ∧ (l, listOf vw.toArray m) ∈ tl
theorem pairs_pick {tl : List (Addr × Obj)} : ∀ {rows : List (Addr × Addr × Int × List Int)}, (∀ r ∈ rows, WRow tl r.1 r.2.1 r.2.2.1 r.2.2.2) → ∃ its : List (Addr × Value × Value), its.map (fun p => Value.ref p.1) = rows.map (fun r => Value.ref r.1) ∧ (∀ p ∈ its, ∃ n, (p.1, tupO #[p.2.1, p.2.2] n) ∈ tl) ∧
      ∀ (i : Nat) (p : Addr × Value × Value), its[i]? = some p → ∃ r : Addr × Addr × Int × List Int, rows[i]? = some r ∧ ∃ (vw : List Value) (m : Nat) (x : Tok), IntsAre vw r.2.2.2 ∧ p.2.1 = .int r.2.2.1 x ∧ p.2.2 = .ref r.2.1 ∧ (r.2.1, listOf vw.toArray m) ∈ tl
  | [], _ => ⟨[], rfl, (fun _ h => nomatch h), fun i p h => by simp at h⟩
  | r :: rows, h => by
    obtain ⟨its, e1, e2, e3⟩ := pairs_pick fun q hq => h q (.tail _ hq)
    obtain ⟨n, m, x, vw, h1, h2, h3⟩ := h r (.head _)
    refine ⟨(r.1, .int r.2.2.1 x, .ref r.2.1) :: its, by simp [e1], List.forall_mem_cons.mpr ⟨⟨n, h2⟩, e2⟩, fun i p hp => ?_⟩
    cases i with
    | zero =>
      simp only [List.getElem?_cons_zero, Option.some.injEq] at hp
      subst hp
      exact ⟨r, rfl, vw, m, x, h1, rfl, rfl, h3⟩
    | succ i => exact e3 i p (by simpa using hp)
theorem law_loop_gen {T lk lp cO : Addr} {oO : Obj} {nT nk np : Nat} {vk : List Value} {vp : Array Value} {p1 p2 tp : Pos} {tkk} {m : Str → Option Value} {tl : List (Addr × Obj)} {rows : List (Addr × Addr × Int × List Int)}
    (hh : A.handled = none) (hsk : env.scope.kind = .function) (hx1 : env.kindOf (Str.ofString "order") = some .cell) (hc : env.cells.lookup (Str.ofString "order") = some cO) (hx2 : env.kindOf (Str.ofString "whole") = some .local) (hcl : (env.scope.kind == .class || (env.scope.kind == .module && env.locals != env.globals)) = false)
    (F : Fr h₀ env.locals s.heap m) (N : News h₀ env.locals s.heap (tl ++ [(cO, oO)])) (hoO : ∃ z, oO.data = .cell z)
    (hT : (T, tupO (rows.map (fun r => Value.ref r.1)).toArray nT) ∈ tl) (hw5 : rows.map (fun r => (r.2.2.1, r.2.2.2)) = wholes) (hrows : ∀ r ∈ rows, WRow tl r.1 r.2.1 r.2.2.1 r.2.2.2)
    (hmk : (lk, listOf vk.toArray nk) ∈ tl) (hmp : (lp, listOf vp np) ∈ tl) (hseq : ∀ p ∈ tl, ∃ a n, p.2.data = .seq a n)
    (hm1 : m (Str.ofString "kinds") = some (.ref lk)) (hm2 : m (Str.ofString "prices") = some (.ref lp))
    (turn : ∀ (i : Nat) (o : Int) (ws : List Int) (lw : Addr) (vw : List Value) (nw : Nat) (tc : Tok) (u : Str → Option Value) (h : Heap) (tk : Nat) (gens : Array GenState) (oO' : Obj) (nx : List (Addr × Obj)), wholes[i]? = some (o, ws) → IntsAre vw ws → oO'.data = .cell (some (.int o tc)) → (AllBare s.gens → AllBare gens) →
      Fr h₀ env.locals h (fun y => if y = Str.ofString "whole" then some (.ref lw) else kstB u [(Str.ofString "kinds", .ref lk), (Str.ofString "prices", .ref lp)] y) → News h₀ env.locals h ((cO, oO') :: (lw, listOf vw.toArray nw) :: (lk, listOf vk.toArray nk) :: (lp, listOf vp np) :: nx) →
      wpAny (model prog w) A (execs body env) (CPost h₀ env.locals s Q gens ((cO, oO') :: (lw, listOf vw.toArray nw) :: (lk, listOf vk.toArray nk) :: (lp, listOf vp np) :: nx) [(Str.ofString "kinds", .ref lk), (Str.ofString "prices", .ref lp)]) E { s with heap := h, toks := tk, gens := gens })
    (done : ∀ (u : Str → Option Value) (h : Heap) (tk : Nat) (gens : Array GenState), (AllBare s.gens → AllBare gens) → Fr h₀ env.locals h u → Q .next { s with heap := h, toks := tk, gens := gens }) :
    wpAny (model prog w) A (pyIter (.ref T)) (OwnAt prog w A env (.Tuple [.Name (Str.ofString "order") p1, .Name (Str.ofString "whole") p2] tkk tp) body Q E) E s := by
  have N0 : News h₀ env.locals s.heap ((cO, oO) :: tl) := fun p hp => N p (mem_rot hp)
  obtain ⟨its, e1, e2, e3⟩ := pairs_pick hrows
  refine pairs_cell its tl [(Str.ofString "kinds", .ref lk), (Str.ofString "prices", .ref lp)] hh hsk hx1 hc hx2 hcl (nT := nT) (by rw [e1]; exact hT) e2 F N0 hoO ?_ (List.forall_mem_cons.mpr ⟨hm1, List.forall_mem_cons.mpr ⟨hm2, List.forall_mem_nil _⟩⟩) ?_ done
  · intro p hp z
    obtain ⟨a, n, e⟩ := hseq p hp
    obtain ⟨y, ey⟩ := hoO
    have g1 := (N0 p (.tail _ hp)).1
    have g2 := (N0 (cO, oO) (.head _)).1
    rw [z, g2] at g1
    have g3 : oO = p.2 := Option.some.inj g1
    rw [← g3, ey] at e
    cases e
  · rintro i p u h tk gens I oI oO' hpi hoO' hb Fh Nh
    obtain ⟨r, hr, vw, nw, tc, hv, g1, g2, hmw⟩ := e3 i p hpi
    rw [g2] at Fh
    rw [g1] at hoO'
    have hw : wholes[i]? = some (r.2.2.1, r.2.2.2) := by rw [← hw5, List.getElem?_map, hr]; rfl
    refine wpAny_mono (turn i r.2.2.1 r.2.2.2 r.2.1 vw nw tc u h tk gens oO' ((I, oI) :: tl) hw hv hoO' hb Fh fun q hq => Nh q (mem_in (nx := tl) hmw hmk hmp hq)) (fun f s₃ h₃ => ?_) fun _ _ e => e
    cases f with
    | ret v => exact h₃
    | brk => exact h₃
    | next =>
      obtain ⟨h', tk', gens', m', e, b, F', N', g⟩ := h₃
      exact ⟨h', tk', gens', m', e, b, F', (fun q hq => N' q (mem_out hq)), g⟩
    | cont =>
      obtain ⟨h', tk', gens', m', e, b, F', N', g⟩ := h₃
      exact ⟨h', tk', gens', m', e, b, F', (fun q hq => N' q (mem_out hq)), g⟩
theorem law_loop {T t1 t2 t3 t4 t5 l1 l2 l3 l4 l5 lk lp lr cO : Addr} {oO : Obj} {nT n1 n2 n3 n4 n5 m1 m2 m3 m4 m5 nk np nr : Nat} {x1 x2 x3 x4 x5 a1 a2 b1 b2 b3 c1 c2 c3 d1 d2 d3 e1 e2 e3 e4 e5 : Tok} {vk : List Value} {vp vr : Array Value} {p1 p2 tp : Pos} {tkk} {m : Str → Option Value}
    (hh : A.handled = none) (hsk : env.scope.kind = .function) (hx1 : env.kindOf (Str.ofString "order") = some .cell) (hc : env.cells.lookup (Str.ofString "order") = some cO) (hx2 : env.kindOf (Str.ofString "whole") = some .local) (hcl : (env.scope.kind == .class || (env.scope.kind == .module && env.locals != env.globals)) = false)
    (F : Fr h₀ env.locals s.heap m)
    (N : News h₀ env.locals s.heap ((T, tupO #[.ref t1, .ref t2, .ref t3, .ref t4, .ref t5] nT) :: (t5, tupO #[.int 12 x5, .ref l5] n5) :: (l5, listOf #[.int 1 e1, .int 0 e2, .int (-1) e3, .int 0 e4, .int 1 e5] m5) :: (t4, tupO #[.int 6 x4, .ref l4] n4) :: (l4, listOf #[.int 1 d1, .int (-1) d2, .int 1 d3] m4) ::
      (t3, tupO #[.int 4 x3, .ref l3] n3) :: (l3, listOf #[.int 1 c1, .int 0 c2, .int 1 c3] m3) :: (t2, tupO #[.int 3 x2, .ref l2] n2) :: (l2, listOf #[.int 1 b1, .int 1 b2, .int 1 b3] m2) :: (t1, tupO #[.int 2 x1, .ref l1] n1) :: (l1, listOf #[.int 1 a1, .int 1 a2] m1) :: (lk, listOf vk.toArray nk) :: (lp, listOf vp np) :: (lr, listOf vr nr) :: [(cO, oO)]))
    (hoO : ∃ z, oO.data = .cell z)
    (hm1 : m (Str.ofString "kinds") = some (.ref lk)) (hm2 : m (Str.ofString "prices") = some (.ref lp))
    (turn : ∀ (i : Nat) (o : Int) (ws : List Int) (lw : Addr) (vw : List Value) (nw : Nat) (tc : Tok) (u : Str → Option Value) (h : Heap) (tk : Nat) (gens : Array GenState) (oO' : Obj) (nx : List (Addr × Obj)), wholes[i]? = some (o, ws) → IntsAre vw ws → oO'.data = .cell (some (.int o tc)) → (AllBare s.gens → AllBare gens) →
      Fr h₀ env.locals h (fun y => if y = Str.ofString "whole" then some (.ref lw) else kstB u [(Str.ofString "kinds", .ref lk), (Str.ofString "prices", .ref lp)] y) → News h₀ env.locals h ((cO, oO') :: (lw, listOf vw.toArray nw) :: (lk, listOf vk.toArray nk) :: (lp, listOf vp np) :: nx) →
      wpAny (model prog w) A (execs body env) (CPost h₀ env.locals s Q gens ((cO, oO') :: (lw, listOf vw.toArray nw) :: (lk, listOf vk.toArray nk) :: (lp, listOf vp np) :: nx) [(Str.ofString "kinds", .ref lk), (Str.ofString "prices", .ref lp)]) E { s with heap := h, toks := tk, gens := gens })
    (done : ∀ (u : Str → Option Value) (h : Heap) (tk : Nat) (gens : Array GenState), (AllBare s.gens → AllBare gens) → Fr h₀ env.locals h u → Q .next { s with heap := h, toks := tk, gens := gens }) :
    wpAny (model prog w) A (pyIter (.ref T)) (OwnAt prog w A env (.Tuple [.Name (Str.ofString "order") p1, .Name (Str.ofString "whole") p2] tkk tp) body Q E) E s :=
  law_loop_gen (tl := (T, tupO #[.ref t1, .ref t2, .ref t3, .ref t4, .ref t5] nT) :: (t5, tupO #[.int 12 x5, .ref l5] n5) :: (l5, listOf #[.int 1 e1, .int 0 e2, .int (-1) e3, .int 0 e4, .int 1 e5] m5) :: (t4, tupO #[.int 6 x4, .ref l4] n4) :: (l4, listOf #[.int 1 d1, .int (-1) d2, .int 1 d3] m4) :: (t3, tupO #[.int 4 x3, .ref l3] n3) :: (l3, listOf #[.int 1 c1, .int 0 c2, .int 1 c3] m3) :: (t2, tupO #[.int 3 x2, .ref l2] n2) :: (l2, listOf #[.int 1 b1, .int 1 b2, .int 1 b3] m2) :: (t1, tupO #[.int 2 x1, .ref l1] n1) :: (l1, listOf #[.int 1 a1, .int 1 a2] m1) :: (lk, listOf vk.toArray nk) :: (lp, listOf vp np) :: (lr, listOf vr nr) :: []) (rows := [(t1, l1, 2, [1, 1]), (t2, l2, 3, [1, 1, 1]), (t3, l3, 4, [1, 0, 1]), (t4, l4, 6, [1, -1, 1]), (t5, l5, 12, [1, 0, -1, 0, 1])]) (nT := nT) hh hsk hx1 hc hx2 hcl F N hoO (.head _) rfl
    (List.forall_mem_cons.mpr ⟨⟨n1, m1, x1, [.int 1 a1, .int 1 a2], .cons _ _ (.cons _ _ (.nil)), .tail _ (.tail _ (.tail _ (.tail _ (.tail _ (.tail _ (.tail _ (.tail _ (.tail _ (.head _))))))))), .tail _ (.tail _ (.tail _ (.tail _ (.tail _ (.tail _ (.tail _ (.tail _ (.tail _ (.tail _ (.head _))))))))))⟩, List.forall_mem_cons.mpr ⟨⟨n2, m2, x2, [.int 1 b1, .int 1 b2, .int 1 b3], .cons _ _ (.cons _ _ (.cons _ _ (.nil))), .tail _ (.tail _ (.tail _ (.tail _ (.tail _ (.tail _ (.tail _ (.head _))))))), .tail _ (.tail _ (.tail _ (.tail _ (.tail _ (.tail _ (.tail _ (.tail _ (.head _))))))))⟩, List.forall_mem_cons.mpr ⟨⟨n3, m3, x3, [.int 1 c1, .int 0 c2, .int 1 c3], .cons _ _ (.cons _ _ (.cons _ _ (.nil))), .tail _ (.tail _ (.tail _ (.tail _ (.tail _ (.head _))))), .tail _ (.tail _ (.tail _ (.tail _ (.tail _ (.tail _ (.head _))))))⟩, List.forall_mem_cons.mpr ⟨⟨n4, m4, x4, [.int 1 d1, .int (-1) d2, .int 1 d3], .cons _ _ (.cons _ _ (.cons _ _ (.nil))), .tail _ (.tail _ (.tail _ (.head _))), .tail _ (.tail _ (.tail _ (.tail _ (.head _))))⟩, List.forall_mem_cons.mpr ⟨⟨n5, m5, x5, [.int 1 e1, .int 0 e2, .int (-1) e3, .int 0 e4, .int 1 e5], .cons _ _ (.cons _ _ (.cons _ _ (.cons _ _ (.cons _ _ (.nil))))), .tail _ (.head _), .tail _ (.tail _ (.head _))⟩, List.forall_mem_nil _⟩⟩⟩⟩⟩)
    (.tail _ (.tail _ (.tail _ (.tail _ (.tail _ (.tail _ (.tail _ (.tail _ (.tail _ (.tail _ (.tail _ (.head _)))))))))))) (.tail _ (.tail _ (.tail _ (.tail _ (.tail _ (.tail _ (.tail _ (.tail _ (.tail _ (.tail _ (.tail _ (.tail _ (.head _)))))))))))))
    (List.forall_mem_cons.mpr ⟨⟨_, _, rfl⟩, List.forall_mem_cons.mpr ⟨⟨_, _, rfl⟩, List.forall_mem_cons.mpr ⟨⟨_, _, rfl⟩, List.forall_mem_cons.mpr ⟨⟨_, _, rfl⟩, List.forall_mem_cons.mpr ⟨⟨_, _, rfl⟩, List.forall_mem_cons.mpr ⟨⟨_, _, rfl⟩, List.forall_mem_cons.mpr ⟨⟨_, _, rfl⟩, List.forall_mem_cons.mpr ⟨⟨_, _, rfl⟩, List.forall_mem_cons.mpr ⟨⟨_, _, rfl⟩, List.forall_mem_cons.mpr ⟨⟨_, _, rfl⟩, List.forall_mem_cons.mpr ⟨⟨_, _, rfl⟩, List.forall_mem_cons.mpr ⟨⟨_, _, rfl⟩, List.forall_mem_cons.mpr ⟨⟨_, _, rfl⟩, List.forall_mem_cons.mpr ⟨⟨_, _, rfl⟩, List.forall_mem_nil _⟩⟩⟩⟩⟩⟩⟩⟩⟩⟩⟩⟩⟩⟩) hm1 hm2 turn done
end
end Mine
namespace Mine
open PyProof.Rows.LCg
theorem law_end {cl mean} {ns : List Int} {s₁ s' : Shared} (hk : ∀ b o, s₁.heap.get? b = some o → s'.heap.get? b = some o) (ho : s'.os = s₁.os) (hb : AllBare s'.gens) : GoodWG PySem.Challenge.rw_wk0005_01.row.claim cl mean [ofPy (PyData.list (List.map PyData.int ns))] s₁ (.ok (.ret (.bool true))) s' :=
  ⟨.inl ⟨_, _, [], rfl, (fun cls => rfl), ReadsW.bool true, by wrow_post, fun _ => ⟨List.nodup_nil, fun _ hm => nomatch hm⟩⟩, .of_keep hk, ho, hb⟩
theorem wh_facts {i : Nat} {o : Int} {ws : List Int} (h : wholes[i]? = some (o, ws)) : (o = 2 ∨ o = 3 ∨ o = 4 ∨ o = 6 ∨ o = 12) ∧ ws.length = dOf o + 1 ∧ 1 ≤ dOf o ∧ dOf o ≤ 4 ∧ (∀ x ∈ ws, -1000000 ≤ x ∧ x ≤ 1000000) ∧ ∀ i, i < 12 → ∀ x ∈ pw ws (dOf o) i, -10 ≤ x ∧ x ≤ 10 := by
  match i, h with
  | 0, e => cases e; exact ⟨by decide, by decide +kernel, by decide +kernel, by decide +kernel, by decide +kernel, by decide +kernel⟩
  | 1, e => cases e; exact ⟨by decide, by decide +kernel, by decide +kernel, by decide +kernel, by decide +kernel, by decide +kernel⟩
  | 2, e => cases e; exact ⟨by decide, by decide +kernel, by decide +kernel, by decide +kernel, by decide +kernel, by decide +kernel⟩
  | 3, e => cases e; exact ⟨by decide, by decide +kernel, by decide +kernel, by decide +kernel, by decide +kernel, by decide +kernel⟩
  | 4, e => cases e; exact ⟨by decide, by decide +kernel, by decide +kernel, by decide +kernel, by decide +kernel, by decide +kernel⟩
theorem getD_set {r : List Int} {k j : Nat} {x : Int} (hk : k < r.length) : (r.set k x).getD j 0 = if j = k then x else r.getD j 0 := by
  simp only [List.getD_eq_getElem?_getD, List.getElem?_set]
  by_cases e : j = k
  · subst e; simp [hk]
  · simp [e, Ne.symm e]
theorem addN_getD (p r : List Int) (j : Nat) : ∀ n, n ≤ r.length → (addN p r n).getD j 0 = r.getD j 0 + if j < n then p.getD j 0 else 0
  | 0, _ => by simp [addN]
  | n + 1, h => by
    rw [addN, getD_set (by rw [addN_length]; omega), addN_getD p r n n (by omega), addN_getD p r j n (by omega)]
    by_cases e : j = n
    · subst e; simp
    · by_cases e2 : j < n
      · simp [e, e2, Nat.lt_succ_of_lt e2]
      · have : ¬ j < n + 1 := by omega
        simp [e, e2, this]
theorem rs_getD (ks ws : List Int) (d : Nat) (g : Int) (i : Nat) {j : Nat} (hj : j < d) : (rs ks ws d g (i + 1)).getD j 0 = (rs ks ws d g i).getD j 0 + if ks.getD i 0 = g then (pw ws d i).getD j 0 else 0 := by
  rw [rs]
  split
  · rw [addN_getD _ _ _ _ (by rw [rs_length]; exact Nat.le_refl _)]
    simp [hj]
  · simp
theorem rs_zero (ks ws : List Int) (d : Nat) (g : Int) (j : Nat) : (rs ks ws d g 0).getD j 0 = 0 := by
  simp only [rs, List.getD_eq_getElem?_getD, List.getElem?_replicate]
  split <;> rfl
theorem rs_bd (ks ws : List Int) (d : Nat) (g : Int) {j : Nat} (hj : j < d) (hp : ∀ i, i < 12 → ∀ x ∈ pw ws d i, -10 ≤ x ∧ x ≤ 10) : ∀ i : Nat, i ≤ 12 → -10 * (i : Int) ≤ (rs ks ws d g i).getD j 0 ∧ (rs ks ws d g i).getD j 0 ≤ 10 * (i : Int)
  | 0, _ => by rw [rs_zero]; simp
  | i + 1, h => by
    have ih := rs_bd ks ws d g hj hp i (by omega)
    have hb := bd_at (hp i (by omega)) ⟨by decide, by decide⟩ j
    rw [rs_getD ks ws d g i hj]
    split <;> omega
theorem mem_getD {r : List Int} {x : Int} (h : x ∈ r) : ∃ j, j < r.length ∧ x = r.getD j 0 := by
  obtain ⟨j, hj, rfl⟩ := List.mem_iff_getElem.mp h
  exact ⟨j, hj, by simp [hj]⟩
theorem listN_getD (g : Nat → Int) (j : Nat) : ∀ n, j < n → (listN g n).getD j 0 = g j
  | n + 1, h => by
    simp only [listN, List.getD_eq_getElem?_getD, List.getElem?_append, listN_length]
    by_cases e : j < n
    · have := listN_getD g j n e
      simp only [List.getD_eq_getElem?_getD] at this
      simp [e, this]
    · obtain rfl : j = n := by omega
      simp
noncomputable def RSf (ks ws : List Int) (d : Nat) : Nat → List Int
  | 0 => rs ks ws d 0 12
  | 1 => rs ks ws d 1 12
  | 2 => rs ks ws d 2 12
  | 3 => rs ks ws d 3 12
  | 4 => listN (fun k => (rs ks ws d 0 12).getD k 0 + (rs ks ws d 1 12).getD k 0) d
  | _ => listN (fun k => (rs ks ws d 2 12).getD k 0 + (rs ks ws d 3 12).getD k 0) d
theorem RSf_length (ks ws : List Int) (d j : Nat) : (RSf ks ws d j).length = d := by
  unfold RSf
  split <;> first | exact rs_length .. | exact listN_length ..
theorem RSf_bd (ks ws : List Int) (d j : Nat) (hp : ∀ i, i < 12 → ∀ x ∈ pw ws d i, -10 ≤ x ∧ x ≤ 10) : ∀ x ∈ RSf ks ws d j, -1000 ≤ x ∧ x ≤ 1000 := by
  intro x hx
  obtain ⟨k, hk, rfl⟩ := mem_getD hx
  rw [RSf_length] at hk
  have b : ∀ g, -10 * (12 : Int) ≤ (rs ks ws d g 12).getD k 0 ∧ (rs ks ws d g 12).getD k 0 ≤ 10 * (12 : Int) := fun g => rs_bd ks ws d g hk hp 12 (Nat.le_refl _)
  have b0 := b 0
  have b1 := b 1
  have b2 := b 2
  have b3 := b 3
  unfold RSf
  split
  · omega
  · omega
  · omega
  · omega
  · rw [listN_getD _ _ _ hk]; omega
  · rw [listN_getD _ _ _ hk]; omega
def EJ (e : Nat → Int) (i : Nat) (ys : List Value) (_ : Nat) : Prop := IntsAre ys (listN e i)
section
variable {prog : Program} {w : World} {A : Around} {h₀ : Heap} {L : Addr} {m : Str → Option Value} {env : Env}
theorem energies_at {elt : PySem.Expr} {x : Str} {scope : Scope} {cl : List (Str × Addr)} {Fin : Shared → Addr → List Value → List (Addr × Obj) → Heap → Nat → Prop} {l g0 g1 g2 g3 g4 g5 : Addr} {w0 w1 w2 w3 w4 w5 : List Value} {n4 n5 : Nat} {news : List (Addr × Obj)} {s₁ : Shared} (e : Nat → Int) (ks ws : List Int) (d : Nat)
    (hh : A.handled = none) (F : Fr h₀ L s₁.heap m) (N : News h₀ L s₁.heap ((l, listOf #[.ref g0, .ref g1, .ref g2, .ref g3, .ref g4, .ref g5] 0) :: (g0, listOf w0.toArray 0) :: (g1, listOf w1.toArray 0) :: (g2, listOf w2.toArray 0) :: (g3, listOf w3.toArray 0) :: (g4, listOf w4.toArray n4) :: (g5, listOf w5.toArray n5) :: news))
    (i0 : IntsAre w0 (RSf ks ws d 0)) (i1 : IntsAre w1 (RSf ks ws d 1)) (i2 : IntsAre w2 (RSf ks ws d 2)) (i3 : IntsAre w3 (RSf ks ws d 3)) (i4 : IntsAre w4 (RSf ks ws d 4)) (i5 : IntsAre w5 (RSf ks ws d 5))
    (turn : ∀ (j : Nat) (g : Addr) (vg : List Value) (n : Nat) (yl : List Value) I oI C oC D m₂ h tk (E' : Value → Shared → Prop) (nx : List (Addr × Obj)), IntsAre vg (RSf ks ws d j) → (∀ p ∈ news, p ∈ nx) → NsObj oC m₂ → m₂ x = some (.ref g) → Fr h₀ L h m → News h₀ L h ((g, listOf vg.toArray n) :: (I, oI) :: (C, oC) :: (D, lst yl) :: (nx ++ news)) →
      wpAny (model prog w) A (eval elt (compEnvC scope cl C env)) (fun y s₄ => ∃ h' tk' t', y = .int (e j) t' ∧ s₄ = { s₁ with heap := h', toks := tk' } ∧ Fr h₀ L h' m ∧ News h₀ L h' ((I, oI) :: (C, oC) :: (D, lst yl) :: (nx ++ news))) E' { s₁ with heap := h, toks := tk })
    (fin : ∀ D yl h tk nx, IntsAre yl (listN e 6) → Fin s₁ D yl (nx ++ news) h tk) :
    ListAt prog w A h₀ L m env elt x scope cl (EJ e) Fin (.ref l) s₁ := by
  refine ⟨l, #[.ref g0, .ref g1, .ref g2, .ref g3, .ref g4, .ref g5], 0, [(l, listOf #[.ref g0, .ref g1, .ref g2, .ref g3, .ref g4, .ref g5] 0), (g0, listOf w0.toArray 0), (g1, listOf w1.toArray 0), (g2, listOf w2.toArray 0), (g3, listOf w3.toArray 0), (g4, listOf w4.toArray n4), (g5, listOf w5.toArray n5)] ++ news, rfl, hh, F, N, .head _, by rw [PySem.sizeLine_eq]; exact Nat.le_of_ble_eq_true rfl, .nil, fun i yl a b _ h => h, ?_, ?_⟩
  · intro i v yl I oI C oC D m₂ h tk E' hi hv hJ hC hx Fa Na off ne
    have key : ∀ (g : Addr) (vg : List Value) (n : Nat), v = .ref g → IntsAre vg (RSf ks ws d i) → (g, listOf vg.toArray n) ∈ ((l, listOf #[.ref g0, .ref g1, .ref g2, .ref g3, .ref g4, .ref g5] 0) :: (g0, listOf w0.toArray 0) :: (g1, listOf w1.toArray 0) :: (g2, listOf w2.toArray 0) :: (g3, listOf w3.toArray 0) :: (g4, listOf w4.toArray n4) :: (g5, listOf w5.toArray n5) :: news) →
        wpAny (model prog w) A (eval elt (compEnvC scope cl C env)) (CompT h₀ L m s₁ I oI C oC D yl ([(l, listOf #[.ref g0, .ref g1, .ref g2, .ref g3, .ref g4, .ref g5] 0), (g0, listOf w0.toArray 0), (g1, listOf w1.toArray 0), (g2, listOf w2.toArray 0), (g3, listOf w3.toArray 0), (g4, listOf w4.toArray n4), (g5, listOf w5.toArray n5)] ++ news) (EJ e (i + 1))) E' { s₁ with heap := h, toks := tk } := by
      rintro g vg n rfl hg hm
      refine wpAny_mono (turn i g vg n yl I oI C oC D m₂ h tk E' ([(l, listOf #[.ref g0, .ref g1, .ref g2, .ref g3, .ref g4, .ref g5] 0), (g0, listOf w0.toArray 0), (g1, listOf w1.toArray 0), (g2, listOf w2.toArray 0), (g3, listOf w3.toArray 0), (g4, listOf w4.toArray n4), (g5, listOf w5.toArray n5)] ++ news) hg (fun p hp => List.mem_append_right _ hp) hC hx Fa ?_) (fun y s₄ h₄ => ?_) fun _ _ e => e
      · intro q hq
        rcases List.mem_cons.mp hq with rfl | hq
        · exact Na _ (.tail _ (.tail _ (.tail _ hm)))
        rcases List.mem_cons.mp hq with rfl | hq
        · exact Na _ (.head _)
        rcases List.mem_cons.mp hq with rfl | hq
        · exact Na _ (.tail _ (.head _))
        rcases List.mem_cons.mp hq with rfl | hq
        · exact Na _ (.tail _ (.tail _ (.head _)))
        rcases List.mem_append.mp hq with hq | hq
        · exact Na _ (.tail _ (.tail _ (.tail _ hq)))
        · exact Na _ (.tail _ (.tail _ (.tail _ (List.mem_append_right _ hq))))
      · obtain ⟨h', tk', t', rfl, rfl, F', N'⟩ := h₄
        refine ⟨h', tk', rfl, F', fun q hq => N' q ?_, ints_step hJ rfl⟩
        rcases List.mem_cons.mp hq with rfl | hq
        · exact .head _
        rcases List.mem_cons.mp hq with rfl | hq
        · exact .tail _ (.head _)
        rcases List.mem_cons.mp hq with rfl | hq
        · exact .tail _ (.tail _ (.head _))
        · exact .tail _ (.tail _ (.tail _ (List.mem_append_left _ hq)))
    match i, hv with
    | 0, e => cases e; exact key g0 w0 0 rfl i0 (.tail _ (.head _))
    | 1, e => cases e; exact key g1 w1 0 rfl i1 (.tail _ (.tail _ (.head _)))
    | 2, e => cases e; exact key g2 w2 0 rfl i2 (.tail _ (.tail _ (.tail _ (.head _))))
    | 3, e => cases e; exact key g3 w3 0 rfl i3 (.tail _ (.tail _ (.tail _ (.tail _ (.head _)))))
    | 4, e => cases e; exact key g4 w4 n4 rfl i4 (.tail _ (.tail _ (.tail _ (.tail _ (.tail _ (.head _))))))
    | 5, e => cases e; exact key g5 w5 n5 rfl i5 (.tail _ (.tail _ (.tail _ (.tail _ (.tail _ (.tail _ (.head _)))))))
    | n + 6, e => exact absurd hi (by simp)
  · intro D yl h tk hl hJ _
    exact fin D yl h tk _ hJ
end
end Mine
namespace Mine
theorem kindOf_bd (x : Str) : 0 ≤ kindOf x ∧ kindOf x ≤ 3 := by
  unfold kindOf
  split
  · decide
  · split
    · decide
    · split <;> decide
theorem kinds_bd (xs : List Str) : ∀ k ∈ listN (fun k => kindOf (at_ xs k)) 12, 0 ≤ k ∧ k ≤ 3 := by
  intro k hk
  obtain ⟨j, hj, rfl⟩ := mem_getD hk
  rw [listN_length] at hj
  rw [listN_getD _ _ _ hj]
  exact kindOf_bd _
theorem pw_wide {ws : List Int} {d : Nat} (h : ∀ i, i < 12 → ∀ x ∈ pw ws d i, -10 ≤ x ∧ x ≤ 10) : ∀ i, i < 12 → ∀ x ∈ pw ws d i, -1000 ≤ x ∧ x ≤ 1000 := fun i hi x hx => by
  have := h i hi x hx
  omega
theorem wcut_bd {o : Int} (h : o = 2 ∨ o = 3 ∨ o = 4 ∨ o = 6 ∨ o = 12) : ∀ x ∈ wcut o 4, -1000 ≤ x ∧ x ≤ 1000 := by
  rcases h with rfl | rfl | rfl | rfl | rfl <;> decide +kernel
theorem cost_bd (x y : Str) : 0 ≤ cost x y ∧ cost x y ≤ 2 := by
  unfold cost
  split
  · decide
  · split <;> decide
theorem sumN_bd {f : Nat → Int} (h : ∀ i, 0 ≤ f i ∧ f i ≤ 2) : ∀ n : Nat, 0 ≤ sumN f n ∧ sumN f n ≤ 2 * (n : Int)
  | 0 => by simp [sumN]
  | n + 1 => by
    have := sumN_bd h n
    have := h n
    simp only [sumN]
    omega
theorem prices_bd (xs : List Str) : ∀ x ∈ listN (priceN xs) 12, -1000000 ≤ x ∧ x ≤ 1000000 := by
  intro k hk
  obtain ⟨j, hj, rfl⟩ := mem_getD hk
  rw [listN_length] at hj
  rw [listN_getD _ _ _ hj]
  have := sumN_bd (f := fun p => cost (at_ xs p) (at_ xs ((p + j) % 12))) (fun i => cost_bd _ _) 12
  unfold priceN
  omega
theorem listN_sum (e : Nat → Int) : ∀ n, (listN e n).sum = sumN e n
  | 0 => rfl
  | n + 1 => by simp [listN, sumN, listN_sum e n]
theorem led_sort {α : Type} {a b c d e : α} {n2 nx : List α} {q : α} (h : q ∈ a :: b :: c :: d :: e :: nx) : q ∈ e :: (n2 ++ a :: b :: c :: d :: nx) := by
  simp only [List.mem_cons, List.mem_append] at h ⊢
  rcases h with h | h | h | h | h | h <;> simp [h]
theorem led_drop {α : Type} {a b c d e z : α} {nx : List α} {q : α} (h : q ∈ a :: b :: c :: d :: nx) : q ∈ z :: a :: b :: c :: d :: e :: nx := by
  simp only [List.mem_cons] at h ⊢
  rcases h with h | h | h | h | h <;> simp [h]
end Mine
namespace Mine
noncomputable def RU (u : Nat → Int) (ws : List Int) (d k : Nat) : Int := sumN (fun p => u p * (pw ws d p).getD k 0) 12
theorem rs_RU (ks ws : List Int) (d : Nat) (g : Int) {k : Nat} (hk : k < d) : ∀ n, (rs ks ws d g n).getD k 0 = sumN (fun p => (if ks.getD p 0 = g then 1 else 0) * (pw ws d p).getD k 0) n
  | 0 => rs_zero ..
  | n + 1 => by
    rw [rs_getD _ _ _ _ _ hk, rs_RU ks ws d g hk n, sumN]
    split <;> simp
theorem sumN_add (f g : Nat → Int) : ∀ n, sumN (fun p => f p + g p) n = sumN f n + sumN g n
  | 0 => rfl
  | n + 1 => by simp only [sumN, sumN_add f g n]; omega
noncomputable def WS (W : List Int) (u : Nat → Int) : Int := sumN (fun t => W.getD t 0 * sumN (fun p => u p * u ((p + t) % 12)) 12) 12
theorem sum12 (f : Nat → Int) : sumN f 12 = f 0 + f 1 + f 2 + f 3 + f 4 + f 5 + f 6 + f 7 + f 8 + f 9 + f 10 + f 11 := by simp [sumN]
theorem ru_at (u : Nat → Int) {ws : List Int} {d k : Nat} {r : List Int} (h : (List.range 12).map (fun p => (pw ws d p).getD k 0) = r) : RU u ws d k = sumN (fun p => u p * r.getD p 0) 12 := by
  subst h
  unfold RU
  simp [sum12]
theorem e2 (u : Nat → Int) : WS (wcut 2 4) u = RU u [1, 1] 1 0 * RU u [1, 1] 1 0 := by
  rw [show wcut 2 4 = [1, -1, 1, -1, 1, -1, 1, -1, 1, -1, 1, -1] by decide +kernel, ru_at u (r := [1, -1, 1, -1, 1, -1, 1, -1, 1, -1, 1, -1]) (by decide +kernel)]
  simp only [WS, sum12, Nat.reduceAdd, Nat.reduceMod, List.getD_cons_zero, List.getD_cons_succ]
  grind
theorem e3 (u : Nat → Int) : WS (wcut 3 4) u = 2 * (0 + RU u [1, 1, 1] 2 0 * RU u [1, 1, 1] 2 0 + RU u [1, 1, 1] 2 1 * RU u [1, 1, 1] 2 1 + (-1) * RU u [1, 1, 1] 2 0 * RU u [1, 1, 1] 2 1) := by
  rw [show wcut 3 4 = [2, -1, -1, 2, -1, -1, 2, -1, -1, 2, -1, -1] by decide +kernel, ru_at u (d := 2) (k := 0) (r := [1, 0, -1, 1, 0, -1, 1, 0, -1, 1, 0, -1]) (by decide +kernel), ru_at u (d := 2) (k := 1) (r := [0, 1, -1, 0, 1, -1, 0, 1, -1, 0, 1, -1]) (by decide +kernel)]
  simp only [WS, sum12, Nat.reduceAdd, Nat.reduceMod, List.getD_cons_zero, List.getD_cons_succ]
  grind
theorem e4 (u : Nat → Int) : WS (wcut 4 4) u = 2 * (0 + RU u [1, 0, 1] 2 0 * RU u [1, 0, 1] 2 0 + RU u [1, 0, 1] 2 1 * RU u [1, 0, 1] 2 1 + 0 * RU u [1, 0, 1] 2 0 * RU u [1, 0, 1] 2 1) := by
  rw [show wcut 4 4 = [2, 0, -2, 0, 2, 0, -2, 0, 2, 0, -2, 0] by decide +kernel, ru_at u (d := 2) (k := 0) (r := [1, 0, -1, 0, 1, 0, -1, 0, 1, 0, -1, 0]) (by decide +kernel), ru_at u (d := 2) (k := 1) (r := [0, 1, 0, -1, 0, 1, 0, -1, 0, 1, 0, -1]) (by decide +kernel)]
  simp only [WS, sum12, Nat.reduceAdd, Nat.reduceMod, List.getD_cons_zero, List.getD_cons_succ]
  grind
theorem e6 (u : Nat → Int) : WS (wcut 6 4) u = 2 * (0 + RU u [1, -1, 1] 2 0 * RU u [1, -1, 1] 2 0 + RU u [1, -1, 1] 2 1 * RU u [1, -1, 1] 2 1 + 1 * RU u [1, -1, 1] 2 0 * RU u [1, -1, 1] 2 1) := by
  rw [show wcut 6 4 = [2, 1, -1, -2, -1, 1, 2, 1, -1, -2, -1, 1] by decide +kernel, ru_at u (d := 2) (k := 0) (r := [1, 0, -1, -1, 0, 1, 1, 0, -1, -1, 0, 1]) (by decide +kernel), ru_at u (d := 2) (k := 1) (r := [0, 1, 1, 0, -1, -1, 0, 1, 1, 0, -1, -1]) (by decide +kernel)]
  simp only [WS, sum12, Nat.reduceAdd, Nat.reduceMod, List.getD_cons_zero, List.getD_cons_succ]
  grind
theorem e12 (u : Nat → Int) : WS (wcut 12 4) u = 4 * (0 + RU u [1, 0, -1, 0, 1] 4 0 * RU u [1, 0, -1, 0, 1] 4 0 + RU u [1, 0, -1, 0, 1] 4 2 * RU u [1, 0, -1, 0, 1] 4 2 + 1 * RU u [1, 0, -1, 0, 1] 4 0 * RU u [1, 0, -1, 0, 1] 4 2 + RU u [1, 0, -1, 0, 1] 4 1 * RU u [1, 0, -1, 0, 1] 4 1 + RU u [1, 0, -1, 0, 1] 4 3 * RU u [1, 0, -1, 0, 1] 4 3 + 1 * RU u [1, 0, -1, 0, 1] 4 1 * RU u [1, 0, -1, 0, 1] 4 3) := by
  rw [show wcut 12 4 = [4, 0, 2, 0, -2, 0, -4, 0, -2, 0, 2, 0] by decide +kernel, ru_at u (d := 4) (k := 0) (r := [1, 0, 0, 0, -1, 0, -1, 0, 0, 0, 1, 0]) (by decide +kernel), ru_at u (d := 4) (k := 1) (r := [0, 1, 0, 0, 0, -1, 0, -1, 0, 0, 0, 1]) (by decide +kernel),
    ru_at u (d := 4) (k := 2) (r := [0, 0, 1, 0, 1, 0, 0, 0, -1, 0, -1, 0]) (by decide +kernel), ru_at u (d := 4) (k := 3) (r := [0, 0, 0, 1, 0, 1, 0, 0, 0, -1, 0, -1]) (by decide +kernel)]
  simp only [WS, sum12, Nat.reduceAdd, Nat.reduceMod, List.getD_cons_zero, List.getD_cons_succ]
  grind
def U (x : Str) : Nat → Int
  | 0 => if kindOf x = 0 then 1 else 0
  | 1 => if kindOf x = 1 then 1 else 0
  | 2 => if kindOf x = 2 then 1 else 0
  | 3 => if kindOf x = 3 then 1 else 0
  | 4 => (if kindOf x = 0 then 1 else 0) + (if kindOf x = 1 then 1 else 0)
  | _ => (if kindOf x = 2 then 1 else 0) + (if kindOf x = 3 then 1 else 0)
theorem cost_U {x y : Str} (hx : IsL x) (hy : IsL y) : cost x y = 2 - sumN (fun j => U x j * U y j) 6 := by
  rcases hx with rfl | rfl | rfl | rfl <;> rcases hy with rfl | rfl | rfl | rfl <;> decide +kernel
theorem sumN_congr {f g : Nat → Int} : ∀ {n : Nat}, (∀ i, i < n → f i = g i) → sumN f n = sumN g n
  | 0, _ => rfl
  | n + 1, h => by
    simp only [sumN]
    rw [sumN_congr (n := n) fun i hi => h i (Nat.lt_succ_of_lt hi), h n (Nat.lt_succ_self n)]
theorem sumN_zero : ∀ n, sumN (fun _ => 0) n = 0
  | 0 => rfl
  | n + 1 => by simp only [sumN, sumN_zero n]; rfl
theorem sumN_comm (f : Nat → Nat → Int) (m : Nat) : ∀ n, sumN (fun p => sumN (fun j => f p j) m) n = sumN (fun j => sumN (fun p => f p j) n) m
  | 0 => (sumN_zero m).symm
  | n + 1 => by
    simp only [sumN]
    rw [sumN_comm f m n, sumN_add]
theorem sumN_mul (c : Int) (f : Nat → Int) : ∀ n, sumN (fun p => c * f p) n = c * sumN f n
  | 0 => by simp [sumN]
  | n + 1 => by simp only [sumN, sumN_mul c f n, Int.mul_add]
theorem sumN_sub (c : Int) (f : Nat → Int) : ∀ n : Nat, sumN (fun p => c - f p) n = (n : Int) * c - sumN f n
  | 0 => by simp [sumN]
  | n + 1 => by simp only [sumN, sumN_sub c f n, Int.natCast_add, Int.add_mul]; omega
theorem wsum_N (W pp : List Int) : ∀ n, wsum W pp n = sumN (fun t => W.getD t 0 * (- pp.getD t 0)) n
  | 0 => rfl
  | n + 1 => by simp only [wsum, sumN, wsum_N W pp n, Int.mul_neg]; omega
theorem at_isL {xs : List Str} (hil : ∀ x ∈ xs, IsL x) (hl : xs.length = 12) {p : Nat} (hp : p < 12) : IsL (at_ xs p) := by
  refine hil _ ?_
  simp only [at_, List.getD_eq_getElem?_getD]
  rw [List.getElem?_eq_getElem (by omega)]
  exact List.getElem_mem _
theorem price_U {xs : List Str} (hil : ∀ x ∈ xs, IsL x) (hl : xs.length = 12) (t : Nat) :
    priceN xs t = 24 - sumN (fun j => sumN (fun p => U (at_ xs p) j * U (at_ xs ((p + t) % 12)) j) 12) 6 := by
  unfold priceN
  rw [sumN_congr fun p hp => cost_U (at_isL hil hl hp) (at_isL hil hl (Nat.mod_lt _ (by decide))), sumN_sub, sumN_comm]
  rfl
theorem wsum_U {xs : List Str} (hil : ∀ x ∈ xs, IsL x) (hl : xs.length = 12) {W : List Int} (hW : sumN (fun t => W.getD t 0) 12 = 0) :
    wsum W (listN (priceN xs) 12) 12 = sumN (fun j => WS W (fun p => U (at_ xs p) j)) 6 := by
  rw [wsum_N]
  have h : ∀ t, t < 12 → W.getD t 0 * (- (listN (priceN xs) 12).getD t 0) = (-24) * W.getD t 0 + sumN (fun j => W.getD t 0 * sumN (fun p => U (at_ xs p) j * U (at_ xs ((p + t) % 12)) j) 12) 6 := by
    intro t ht
    rw [listN_getD _ _ _ ht, price_U hil hl, sumN_mul]
    grind
  rw [sumN_congr h, sumN_add, sumN_mul, hW, sumN_comm]
  simp only [WS]
  omega
theorem RU_add (u v : Nat → Int) (ws : List Int) (d k : Nat) : RU (fun p => u p + v p) ws d k = RU u ws d k + RU v ws d k := by
  unfold RU
  rw [← sumN_add]
  exact sumN_congr fun i _ => Int.add_mul ..
theorem RSf_U {xs : List Str} {ws : List Int} {d k : Nat} (hk : k < d) (j : Nat) : (RSf (listN (fun k => kindOf (at_ xs k)) 12) ws d j).getD k 0 = RU (fun p => U (at_ xs p) j) ws d k := by
  have h : ∀ g, (rs (listN (fun k => kindOf (at_ xs k)) 12) ws d g 12).getD k 0 = RU (fun p => if kindOf (at_ xs p) = g then 1 else 0) ws d k := by
    intro g
    rw [rs_RU _ _ _ _ hk]
    exact sumN_congr fun p hp => by rw [listN_getD _ _ _ hp]
  unfold RSf
  split
  · exact h 0
  · exact h 1
  · exact h 2
  · exact h 3
  · rw [listN_getD _ _ _ hk, h 0, h 1, ← RU_add]; rfl
  · rw [listN_getD _ _ _ hk, h 2, h 3, ← RU_add]
    rename_i h0 h1 h2 h3 h4
    refine sumN_congr fun p _ => ?_
    unfold U
    split <;> first | rfl | contradiction
theorem plain {xs : List Str} (hil : ∀ x ∈ xs, IsL x) (hl : xs.length = 12) {i : Nat} {o : Int} {ws : List Int} (hw : wholes[i]? = some (o, ws)) :
    wsum (wcut o 4) (listN (priceN xs) 12) 12 = sumN (fun j => enOf o (RSf (listN (fun k => kindOf (at_ xs k)) 12) ws (dOf o) j)) 6 := by
  match i, hw with
  | 0, e =>
    cases e
    rw [wsum_U hil hl (by decide +kernel)]
    refine sumN_congr fun j _ => ?_
    rw [e2]
    simp only [enOf, dOf, if_true, RSf_U (Nat.lt_succ_self 0)]
  | 1, e =>
    cases e
    rw [wsum_U hil hl (by decide +kernel)]
    refine sumN_congr fun j _ => ?_
    rw [e3, ← RSf_U (by decide : 0 < 2), ← RSf_U (by decide : 1 < 2)]
    rfl
  | 2, e =>
    cases e
    rw [wsum_U hil hl (by decide +kernel)]
    refine sumN_congr fun j _ => ?_
    rw [e4, ← RSf_U (by decide : 0 < 2), ← RSf_U (by decide : 1 < 2)]
    rfl
  | 3, e =>
    cases e
    rw [wsum_U hil hl (by decide +kernel)]
    refine sumN_congr fun j _ => ?_
    rw [e6, ← RSf_U (by decide : 0 < 2), ← RSf_U (by decide : 1 < 2)]
    rfl
  | 4, e =>
    cases e
    rw [wsum_U hil hl (by decide +kernel)]
    refine sumN_congr fun j _ => ?_
    rw [e12, ← RSf_U (by decide : 0 < 4), ← RSf_U (by decide : 1 < 4), ← RSf_U (by decide : 2 < 4), ← RSf_U (by decide : 3 < 4)]
    rfl
end Mine
namespace Mine
def KJ (TK : Nat) (xs : List Str) (i : Nat) (ys : List Value) (tk : Nat) : Prop := TK ≤ tk ∧ IntsAre ys (listN (fun k => kindOf (at_ xs k)) i)
section
open PyProof.Rows.LCg
variable {prog : Program} {w : World} {A : Around} {h₀ : Heap} {L : Addr} {m : Str → Option Value} {env : Env}
theorem kinds_at {elt : PySem.Expr} {x : Str} {scope : Scope} {cl : List (Str × Addr)} {Fin : Shared → Addr → List Value → List (Addr × Obj) → Heap → Nat → Prop} {lr : Addr} {ys : List Value} {n TK : Nat} {xs : List Str} {news : List (Addr × Obj)} {s₁ : Shared}
    (hh : A.handled = none) (F : Fr h₀ L s₁.heap m) (N : News h₀ L s₁.heap news) (hm : (lr, listOf ys.toArray n) ∈ news) (hly : ys.length = 12) (hil : ∀ x ∈ xs, IsL x)
    (htok : HTok ys xs TK) (hle : TK ≤ s₁.toks)
    (turn : ∀ x0 (t : Tok) yl I oI C oC D m₂ h tk (E' : Value → Shared → Prop), IsL x0 → t ≠ 0 → t < TK → TK ≤ tk → NsObj oC m₂ → m₂ x = some (.str x0 t) → Fr h₀ L h m → News h₀ L h ((I, oI) :: (C, oC) :: (D, lst yl) :: news) → Off3 I C D news → ((@Ne Nat I C) ∧ (@Ne Nat I D) ∧ (@Ne Nat C D)) →
      wpAny (model prog w) A (eval elt (compEnvC scope cl C env)) (fun y s₄ => ∃ h' tk' t', y = .int (kindOf x0) t' ∧ s₄ = { s₁ with heap := h', toks := tk' } ∧ Fr h₀ L h' m ∧ News h₀ L h' ((I, oI) :: (C, oC) :: (D, lst yl) :: news) ∧ TK ≤ tk') E' { s₁ with heap := h, toks := tk })
    (fin : ∀ D yl h tk, IntsAre yl (listN (fun k => kindOf (at_ xs k)) 12) → Off1 D news → Fin s₁ D yl news h tk) :
    ListAt prog w A h₀ L m env elt x scope cl (KJ TK xs) Fin (.ref lr) s₁ := by
  have hz : ys.toArray.size = 12 := by simp [hly]
  refine ⟨lr, ys.toArray, n, news, rfl, hh, F, N, hm, by rw [hz, PySem.sizeLine_eq]; omega, ⟨hle, .nil⟩, fun i yl a b hab h => ⟨Nat.le_trans h.1 hab, h.2⟩, ?_, ?_⟩
  · intro i v yl I oI C oC D m₂ h tk E' hi hv hJ hC hx Fa Na off ne
    obtain ⟨x0, t, rfl, hx0, h1, h2⟩ := htok i v (by simpa using hv)
    refine wpAny_mono (turn x0 t yl I oI C oC D m₂ h tk E' (hil x0 (List.mem_of_getElem? hx0)) h1 h2 hJ.1 hC hx Fa Na off ne) (fun y s₄ h₄ => ?_) fun _ _ e => e
    obtain ⟨h', tk', t', rfl, rfl, F', N', hk'⟩ := h₄
    refine ⟨h', tk', rfl, F', N', hk', ints_step hJ.2 ?_⟩
    simp [at_, List.getD_eq_getElem?_getD, hx0]
  · intro D yl h tk hl hJ o1
    rw [hz] at hJ
    exact fin D yl h tk hJ.2 o1
end
section
local macro_rules | `(tactic| walk_at "execs cons") => `(tactic| (refine wpAny_execs_cons ?_))
local macro_rules | `(tactic| walk_at "exec For Tuple Tuple cons nil") => `(tactic| (k_here; refine halt ?_))
local macro_rules | `(tactic| walk_at "Exists") => `(tactic| (refine halt ?_))
local macro_rules | `(tactic| walk_at "exec Assign cons ListComp") => `(tactic| (k_here; refine halt ?_))
local macro_rules | `(tactic| walk_at "eval ListComp") => `(tactic| (k_here; refine halt ?_))
local macro_rules | `(tactic| walk_at "eval Name") => `(tactic| (k_here; (with_reducible show wpAny _ _ (eval (Expr.Name _ _) (compEnvC _ _ _ _)) _ _ _); k_dflt (refine kcf_cell (by k_asm) (by rfl) (by exact .tail _ (.tail _ (.tail _ (.tail _ (List.mem_append_right _ (.head _)))))) (by k_asm) ?_)))
set_option maxHeartbeats 1000000 in
theorem holds : PySem.Challenge.rw_wk0005_01.Holds := hd (by
  lge_go0
  rename LGe.Mark => lgm
  clear lgm
  all_goals (try k_fold)
  k_steps
  refine Halt.go ?_
  refine' c_ring2 ?kC ?k7 ?k8 ?kl ?_
  (case kC => regstrif_slice)
  (case k7 => is_list)
  (case k8 => assumption)
  (case kl => omega)
  intro lr9 ys9 xs9 h9 tk9 F9 N9 hst9 hil9 hlx9 hly9 htk9
  (try dsimp only)
  (try k_fold)
  k_steps
  refine Halt.go ?_
  refine wpAny_with_toks (Nat.le_refl _) ?_
  refine' c_prices ?k1 ?k2 ?k3 ?k4 ?k5 ?k6 ?k9 ?k10 ?k7 ?k8 ?kl ?kL ?_
  (case k1 => k_asm)
  (case k2 => k_asm)
  (case k3 => k_asm)
  (case k4 => k_asm)
  (case k5 => k_asm)
  (case k6 => first | exact rfl | assumption)
  (case k7 => is_list)
  (case k8 => assumption)
  (case kl => assumption)
  (case kL => assumption)
  (case k9 => ktr_room)
  (case k10 => ktr_units)
  intro lp9 vp9 np9 h9 tk9 F9 N9 nep9 hip9 kp9 htp9
  (try dsimp only)
  (try k_fold)
  k_steps
  refine Halt.go ?_
  (rename Fr _ _ _ _ => F3)
  (rename News _ _ _ _ => N3)
  (rename HTok _ _ _ => htok)
  refine assign_list (J := KJ (tkOf htok) (xsOf htok)) F3 rfl (by with_unfolding_all rfl) rfl (by decide) rfl (by decide) rfl rfl rfl ?_
  k_steps
  refine kinds_at rfl F3 N3 (.tail _ (.head _)) (by assumption) (by assumption) htok ?_ ?_ ?_
  · (rename _ ≤ _ => hle')
    dsimp only [tkOf] at hle' ⊢
    omega
  · intro x0 t yl I oI C oC D m₂ h tk E' hx0 ht1 ht2 ht3 hC hx Fa Na off ne
    clear F3 N3
    dsimp only
    k_steps
    refine Halt.go ?_
    refine wpAny_with_toks (Nat.le_refl _) ?_
    refine' c_index ?kC ?k7 ?k8 ?_
    (case kC => regstrif_slice)
    (case k7 => assumption)
    (case k8 => exact ⟨ht1, Nat.lt_of_lt_of_le ht2 (by dsimp only; omega)⟩)
    intro t9 h9 tk9 F9 N9 htp9
    (try dsimp only)
    (try k_fold)
    k_steps
    refine Halt.go ?_
    (rename Fr _ _ _ _ => F5)
    (rename News _ _ _ _ => N5)
    (rename _ ≤ _ => hle')
    refine ⟨_, _, _, rfl, rfl, F5, N5, ?_⟩
    dsimp only [tkOf] at hle' ht3 ⊢
    omega
  · intro Dk yk h tk hIk o1 Fk Nk
    clear F3 N3
    simp only [LCg.Off1, and_true] at o1
    dsimp only
    k_steps
    refine Halt.go ?_
    (rename Fr _ _ _ _ => F5)
    with_reducible refine for_own F5 ?_ ?_ ?_
    rotate_left
    · intro _; rfl
    · passes_own
    k_steps
    refine Halt.go ?_
    (rename Fr _ _ _ _ => F6)
    (rename News _ _ _ _ => N6)
    refine law_loop rfl rfl rfl rfl rfl rfl F6 N6 ⟨_, by assumption⟩ (by with_unfolding_all rfl) (by with_unfolding_all rfl) ?_ ?_
    · intro i o ws lw vw nw tc u h tk gens oO' nx hw hiw hoO hb Fi Ni
      have hz := wh_facts hw
      clear F6 N6
      dsimp only
      k_steps
      refine Halt.go ?_
      (rename Fr _ _ _ _ => F7)
      refine comp_list (J := EJ (fun j => enOf o (RSf (listN (fun k => kindOf (at_ (xsOf htok) k)) 12) ws (dOf o) j))) F7 (by rfl) (by decide) (by rfl) (by decide) (by rfl) ?_
      k_steps
      refine Halt.go ?_
      (rename Fr _ _ _ _ => F8)
      (rename News _ _ _ _ => N8)
      refine' c_rests (d := dOf o) (ks := listN (fun k => kindOf (at_ (xsOf htok) k)) 12) (ws := ws) (vk := yk) (vw := vw) ?kC ?h1 hIk (listN_length _ _) (kinds_bd _) ?h2 hiw hz.2.1 hz.2.2.1 hz.2.2.2.1 hz.2.2.2.2.1 (pw_wide hz.2.2.2.2.2) ?_
      (case kC => regstrif_slice)
      (case h1 => is_list)
      (case h2 => is_list)
      intro l g0 g1 g2 g3 g4 g5 w0 w1 w2 w3 w4 w5 n4 n5 h' tk' Fa Na i0 i1 i2 i3 i4 i5 hkeep
      clear F8 N8
      refine energies_at (fun j => enOf o (RSf (listN (fun k => kindOf (at_ (xsOf htok) k)) 12) ws (dOf o) j)) _ ws (dOf o) rfl Fa Na i0 i1 i2 i3 i4 i5 ?_ ?_
      · intro j g vg n yl I oI C oC D m₂ h tk E' nx2 hig hsub hC hx Fb Nb
        clear Fa Na
        dsimp only
        k_steps
        refine Halt.go ?_
        (rename Fr _ _ _ _ => F9)
        (rename News _ _ _ _ => N9)
        refine' c_energy (r := RSf (listN (fun k => kindOf (at_ (xsOf htok) k)) 12) ws (dOf o) j) ⟨?k1, F9, ?k3, N9, ?k5, ?k6, ?k9, ?k10⟩ hz.1 ?h1 hig (RSf_length _ _ _ _) (RSf_bd _ _ _ _ hz.2.2.2.2.2) ?_
        (case k1 => k_asm)
        (case k3 => k_asm)
        (case k5 => k_asm)
        (case k6 => first | exact rfl | assumption)
        (case k9 => ktr_room)
        (case k10 => ktr_units)
        (case h1 => is_list)
        intro t h' tk' Fc Nc hkeep2
        exact ⟨h', tk', t, rfl, rfl, Fc, fun q hq => Nc q (.tail _ hq)⟩
      · intro D yl h tk nx2 hIy Fk Nk
        have Nk2 := fun q hq => Nk q (Mine.led_sort hq)
        clear Fa Na Nk i0 i1 i2 i3 i4 i5 hkeep
        dsimp only
        k_steps
        refine Halt.go ?_
        (rename Fr _ _ _ _ => F9)
        (rename News _ _ _ _ => N9)
        refine' c_weights ⟨?k1, F9, ?k3, N9, ?k5, ?k6, ?k9, ?k10⟩ hz.1 ?_
        (case k1 => k_asm)
        (case k3 => k_asm)
        (case k5 => k_asm)
        (case k6 => first | exact rfl | assumption)
        (case k9 => ktr_room)
        (case k10 => ktr_units)
        intro l9 vs9 n9 h9 tk9 gens9 hb9 Fd Nd hoff9 hi9 hk9
        clear F9 N9
        dsimp only
        k_steps
        refine Halt.go ?_
        (rename Fr _ _ _ _ => F9)
        (rename News _ _ _ _ => N9)
        refine' c_weighed (vp := Array.toList _) (pp := listN (priceN (xsOf htok)) 12) ⟨?k1, F9, ?k3, N9, ?k5, ?k6, ?k9, ?k10⟩ ?h1 hi9 (wcut_length _ _) (wcut_bd hz.1) ?h2 ?h3 (listN_length _ _) (prices_bd _) ?_
        (case k1 => k_asm)
        (case k3 => k_asm)
        (case k5 => k_asm)
        (case k6 => first | exact rfl | assumption)
        (case k9 => ktr_room)
        (case k10 => ktr_units)
        (case h1 => is_list)
        (case h3 => assumption)
        (case h2 => rw [Array.toArray_toList]; is_list)
        intro t9 h8 tk8 Fe Ne hk8
        clear F9 N9
        have hp := plain (xs := xsOf htok) (by assumption) (by assumption) hw
        rw [← listN_sum] at hp
        dsimp only [xsOf] at hp ⊢
        rw [hp]
        k_steps
        · (rename _ ≠ _ => hx)
          exact absurd rfl hx
        · exact ⟨h8, tk8, gens9, _, rfl, hb9, Fe, fun q hq => Ne q (led_drop hq), List.forall_mem_cons.mpr ⟨by with_unfolding_all rfl, List.forall_mem_cons.mpr ⟨by with_unfolding_all rfl, List.forall_mem_nil _⟩⟩⟩
    · intro u h tk gens hb Fi
      dsimp only
      k_steps
      exact law_end Fi.keep rfl (hb (AllBare.of_eq (by assumption))))
end
end Mine
theorem PySem.Challenge.cw_wk0005_01_holds : PySem.Challenge.rw_wk0005_01.Holds := by
  exact Mine.holds
