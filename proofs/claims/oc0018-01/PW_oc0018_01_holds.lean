import PyProof.Rows.All
import Wide.All
import OpenK.AllK
import Wide.FinOn
import PySem.Challenge.RW_oc0018_01
open PySem PySem.W PyProof.Rows PySem.Calls
set_option Elab.async false

section
open PySem PySem.W PyProof.Rows PySem.Calls
namespace Mine

/-- the stack that the claim's own caller stands on -/
def okS : List (Code × Pos) → Bool
  | [(.builtin id ⟨[], []⟩, _)] => id == "claim.caller"
  | _ => false
def runS (f : Value) (vs : List Value) : Sem Value := stack >>= fun st => if okS st = true then PySem.call f vs else pure (.bool true)
def treeS (name : Str) (vs : List Value) : Sem Fin := stack >>= fun st => if okS st = true then (callStub name vs).cur else ret (.bool true)

theorem sched_shift {prog : Program} {w : World} {s s' : Shared} {name : Str} {vs : List Value} {n : Nat} {o : Outcome} (hz : s.asleep)
    (h : schedN (denote table) prog w n (.single s ⟨treeS name vs, .builtin "claim.caller" {}, default, []⟩) = .halted o s') :
    ∃ k, schedN (denote table) prog w k (.single s (callStub name vs)) = .halted o s' := by
  cases n with
  | zero => cases h
  | succ k =>
    refine ⟨k, ?_⟩
    have hst : step (denote table) prog w s ⟨treeS name vs, .builtin "claim.caller" {}, default, []⟩ = .go s (callStub name vs) := by
      obtain ⟨hp, g, d, tk, os⟩ := s
      rfl
    have e := (sstep_single (denote table) prog w s ⟨treeS name vs, .builtin "claim.caller" {}, default, []⟩ rfl hz).resolve_right (by rw [hst]; intro x; cases x)
    unfold schedN at h
    rw [e, hst] at h
    exact h

theorem callFrom_shift {c : ClaimW} {name : Str} {w : World} {free : Addr → Prop} {gens : Prop} {kept : Heap → Prop} {s : Shared} (hz : s.asleep)
    (h : c.CallFrom (fun vs => ⟨treeS name vs, .builtin "claim.caller" {}, default, []⟩) w free gens kept s) : c.CallFrom (callStub name) w free gens kept s := by
  intro args hpre hlay ord hord
  obtain ⟨vs, s₁, hlaid, n, o, s', hrun, rest⟩ := h args hpre hlay ord hord
  have hal := layAllW_rest _ _ _ hlaid
  obtain ⟨k, hk⟩ := sched_shift (Shared.asleep_of_life hal.2.2.2 hz) hrun
  exact ⟨vs, s₁, hlaid, k, o, s', hk, rest⟩

theorem okS_code {c : Code} {p : Pos} {l : List (Code × Pos)} : okS ((c, p) :: l) = true ↔ c = .builtin "claim.caller" {} ∧ l = [] := by
  constructor
  · intro h
    cases l with
    | cons x y => cases c <;> simp [okS] at h
    | nil =>
      cases c with
      | builtin id a =>
        obtain ⟨ps, kw⟩ := a
        cases ps <;> cases kw <;> simp [okS] at h
        subst h; exact ⟨rfl, rfl⟩
      | _ => simp [okS] at h
  · rintro ⟨rfl, rfl⟩; rfl

theorem run_tree {prog : Program} {w : World} {name : Str} {vs : List Value} {s : Shared} {mg : Str → Option Value} {f : Value} {Q : Fin → Shared → Prop} {E : Value → Shared → Prop}
    (hg : s.heap.Ns mainGlobals mg) (hf : mg name = some f) (h : wpAny (model prog w) callerA (runS f vs) (fun v s' => Q (.done (.ret v)) s') E s) : wpAny (model prog w) callerA (treeS name vs) Q E s := by
  intro Γ p hΓ
  have h0 : ∀ p, Sem.wp (model prog w) Γ (if okS ((Γ.code, p) :: Γ.below) = true then PySem.call f vs else pure (.bool true)) (fun v _ s' => Q (.done (.ret v)) s') (fun e _ s' => E e s') p s := by
    intro p
    have h1 := h Γ p hΓ
    unfold runS at h1
    rw [Sem.wp_bind'] at h1
    unfold stack at h1
    rw [Sem.wp_stack, Sem.wp_pure] at h1
    exact h1
  unfold treeS
  rw [Sem.wp_bind']
  unfold stack
  rw [Sem.wp_stack, Sem.wp_pure]
  by_cases hk : okS ((Γ.code, p) :: Γ.below) = true
  · rw [if_pos hk]
    show Sem.wp _ Γ (nsGet mainNs name >>= _) _ _ p s
    rw [Sem.wp_bind']
    have h2 := wpAny_nsGet (M := model prog w) (A := callerA) (E := fun e s' => E e s') (Q := fun v s₁ => v = some f ∧ s₁ = s) (name := name) hg ⟨hf, rfl⟩ Γ p hΓ
    refine Sem.wp_mono _ Γ _ ?_ (fun _ _ _ x => x) p s h2
    rintro v p' s₁ ⟨rfl, rfl⟩
    have h3 := h0 p'
    rw [if_pos (okS_code.mpr (okS_code.mp hk))] at h3
    show Sem.wp _ Γ (PySem.call f vs >>= fun v => ret v) _ _ p' s₁
    rw [Sem.wp_bind']
    exact Sem.wp_mono _ Γ _ (fun v p₂ s₂ hq => hq) (fun _ _ _ x => x) p' s₁ h3
  · rw [if_neg hk]
    have h3 := h0 p
    rw [if_neg hk] at h3
    exact h3

/-- the head's last step, for a call whose run asks which stack it stands on -/
theorem PySem.W.holds_open {r : OpenRow} {q : Program} {loose : List Str} {Xt : Shared → Bool} {XP : (Str → Option Value) → Heap → Prop} {α : Type} {Yf : Shared → α} {Ya : World → α} {YP : World → Heap → Prop} {d : DefRec} {kwd : List (Str × Expr)} {N : Nat}
    (left : LeftO r.prog q loose Xt Yf Ya N) (hY : ∀ w s, Yf s = Ya w → YP w s.heap) (hYk : ∀ w h h', YP w h → (∀ b o, h.get? b = some o → h'.get? b = some o) → YP w h')
    (hX : ∀ s, Xt s = true → XP (s.heap.nsMap mainGlobals) s.heap) (hXk : ∀ mg h h', XP mg h → (∀ b o, h.get? b = some o → h'.get? b = some o) → XP mg h')
    (hdef : defOf q r.name = some (d, kwd)) (hp : r.prog.theDef r.name = some (d.params, d.body, d.scope)) (hk : kwWritten? d.params.kwonlyargs d.params.kw_defaults = some kwd) (hRf : ∀ s, Xt s = true → RecFacts r.records s.heap) (hwr : (!r.writes || r.records.isEmpty) = true)
    (k1 : r.wellSaid = true) (ok : (chainsOk q && opensWell r.prog && (frees r.toRowW && r.within.isEmpty)) = true) (hb : r.prog.bare) (hw : r.toRowW.promised)
    (call : WalkO q loose XP YP r.toRowW d kwd runS) : r.Holds := by
  have H := open_anyG (r := r.toRowW) (run := runS) (tree := treeS r.name) (defs := if r.pinned then [r.name] else []) (kps := r.keeps) (writes := r.writes) left hY hYk hX hXk hRf hwr ok hb hw
    (fun vs w s mg f Q E hg hf h => run_tree hg hf h)
    (fun w s hg G n hn => by
      obtain rfl : n = r.name := by split at hn <;> simp_all
      exact pinned_of_view hg G hdef hp hk)
    (fun w s₀ s₁ mg mb G Y args vs as hpre hlay L low => by
      obtain ⟨a, o, pm, cd, doc, dV, kV, h1, h2, h3, h4, h5⟩ := G.fn hdef
      exact ⟨.ref a, h1, call w s₀ s₁ mg mb G Y a o pm cd doc dV kV h2 h3 h4 h5 (defOf_name hdef ▸ h1) L.gens args vs as hpre hlay L.reads L.well (L.low low)⟩)
  refine ⟨k1, hw, H.1, H.2.1, fun w => ⟨(H.2.2 w).1, fun s hs => ?_⟩⟩
  obtain ⟨s₀, hf, hg, s₁, hT, hd, hr1, hr2, hcall⟩ := (H.2.2 w).2 s hs
  obtain ⟨s₀', hf', _, s₂, hT2, hz, _⟩ := (left.behind hX (Bool.and_eq_true_iff.mp (Bool.and_eq_true_iff.mp ok).1).1 w).2 s hs
  have e : s₀ = s₀' := by
    have hf1 : fenceModules? r.prog s = some s₀ := hf
    rw [hf'] at hf1; exact (Option.some.inj hf1).symm
  subst e
  have hz1 : s₁.asleep := Shared.asleep_of_life (hT.2.1.trans hT2.2.1.symm) hz
  exact ⟨s₀, hf, hg, s₁, hT, hd, hr1, hr2, callFrom_shift hz1 hcall⟩

set_option maxRecDepth 100000 in
set_option maxHeartbeats 8000000 in
open_top hd for PySem.Challenge.rw_oc0018_01
end Mine
end

section
open PySem PySem.W PyProof.Rows PySem.Calls
namespace Mine

/-- what a call of one of the text's defs gives, told for any caller: nothing that stood is changed -/
def Ctr (w : World) (lv : Nat) (f : Addr) (vs : List Value) (pre : Heap → Prop) (post : Heap → Heap → Value → Prop) : Prop :=
  ∀ (dp un : Nat) (gd : Option (List Code)) (cn : Str) (cs : Scope) (a : Addr) (ccd : Value) (cl : List (Str × Addr)) (outer : List Env) (A₀ : Around) (base h₀ : Heap) (L : Addr) (m : Str → Option Value) (s : Shared)
    (Q E : Value → Shared → Prop) (mean : ExcName → Option Value) (mg mb : Str → Option Value),
    Below A₀ base outer h₀ → Fr h₀ L s.heap m → (hd.heap_39 w.params).In h₀ → Top hd.view_39 (looseW hd.view_39 []) mean mg mb h₀ → cs.kind = .function → pre s.heap → dp + lv < recursionLimit → un + 30 * lv < cLine →
    (∀ r h' tk', s.heap.StaysIn h' → post s.heap h' r → Q r { s with heap := h', toks := tk' }) →
    wpAny (model PySem.Challenge.rw_oc0018_01.row.prog w) (ktrTop dp un gd cn cs L a ccd cl outer) (call (.ref f) vs) Q E s

theorem Ctr.use {w : World} {lv : Nat} {f : Addr} {vs : List Value} {pre : Heap → Prop} {post : Heap → Heap → Value → Prop} (C : Ctr w lv f vs pre post)
    {dp un : Nat} {gd : Option (List Code)} {cn : Str} {cs : Scope} {a : Addr} {ccd : Value} {cl : List (Str × Addr)} {outer : List Env} {A₀ : Around} {base h₀ : Heap} {L : Addr} {m : Str → Option Value} {s : Shared}
    {Q E : Value → Shared → Prop} {mean : ExcName → Option Value} {mg mb : Str → Option Value}
    (B : Below A₀ base outer h₀) (F : Fr h₀ L s.heap m) (X : (hd.heap_39 w.params).In h₀) (T : Top hd.view_39 (looseW hd.view_39 []) mean mg mb h₀) (hk : cs.kind = .function) (hp : pre s.heap) (hdp : dp + lv < recursionLimit) (hun : un + 30 * lv < cLine)
    (h : ∀ r h' tk', s.heap.StaysIn h' → post s.heap h' r → Q r { s with heap := h', toks := tk' }) :
    wpAny (model PySem.Challenge.rw_oc0018_01.row.prog w) (ktrTop dp un gd cn cs L a ccd cl outer) (call (.ref f) vs) Q E s := C _ _ _ _ _ _ _ _ _ _ _ _ _ _ _ _ _ _ _ _ B F X T hk hp hdp hun h

section
variable {prog : Program} {w : World} {A A₀ : Around} {s : Shared} {K : Frag} {L : Addr} {h₀ base : Heap} {m mg mb : Str → Option Value} {p : Program} {loose : List Str} {mean : ExcName → Option Value}
theorem enterP {env : Env} {outer : List Env} {R : Result → Shared → Prop} {name qual : Str} {params : Arguments} {body : List Stmt} {scope : Scope} {dV kV doc pm cdv ct oc : Value} {an od : Option Addr} {osl : Array (Option Value)} {f : Addr} {args : Args} {binds : List (Str × Value)}
    (B : Below A₀ base outer h₀) (F : Fr h₀ L s.heap m) (X₀ : K.In h₀) (T : Top p loose mean mg mb h₀) (hA : A.frames = some (env :: outer)) (hf : env.frame = some L) (hke : env.scope.kind = .function)
    (ho : K.lookup f = some ⟨oc, od, .func (fnOf name qual params body scope dV kV doc pm an cdv ct), osl⟩) (hcd : codeIn K cdv qual = true) (hroom : A.depth < recursionLimit)
    (hbind : BindsTo s (fnOf name qual params body scope dV kV doc pm an cdv ct) args binds) (hloc : ∀ y ∈ binds, scope.names.lookup y.1 = some .local)
    (h : ∀ g L' h₁, s.heap = g → Fr g L' h₁ (fun y => binds.reverse.lookup y) → News g L' h₁ [] → Below A base (env :: outer) g → K.In g → Top p loose mean mg mb g →
      wpAny (model prog w) (A.deeper (envOf qual scope L' f cdv)) (execs body (envOf qual scope L' f cdv))
        (fun fl s' => R (.ok (.ret (match fl with | .ret v => v | _ => .none))) s')
        (fun e s' => wpAny (model prog w) (A.deeper (envOf qual scope L' f cdv)) (leaving (envOf qual scope L' f cdv) e) (fun _ s'' => R (.error e) s'') (fun e' s'' => R (.error e') s'') s')
        { s with heap := h₁, toks := s.toks + binds.length })
    (hco : scope.isCoroutine = false) (hgen : scope.isGenerator = false) (hk : scope.kind = .function)
    (hcell : ∀ x ∈ scope.names, x.2 ≠ .cell) : codeAny (model prog w) A (.call (.ref f) args) R s := by
  refine codeAny_call_def (fd := fnOf name qual params body scope dV kV doc pm an cdv ct) (body := body) (binds := binds) hroom ((X₀.keeps F.keep) _ _ ho) rfl (T.nolimit.keeps F.keep) (codeRec_of (X₀.keeps F.keep) hcd) rfl hbind hcell hloc (fun h₁ hns hk₁ => ?_) hco hgen hk
  have B₁ := pushX B F hf hke
  exact h s.heap s.heap.objs.size h₁ rfl ⟨hns, hk₁, Nat.le_refl _⟩ News.nil ⟨hA, B₁.stays, B₁.frames⟩ (X₀.keeps F.keep) (T.keeps F.keep)

theorem enterPC {env : Env} {outer : List Env} {R : Result → Shared → Prop} {name qual : Str} {params : Arguments} {body : List Stmt} {scope : Scope} {dV kV doc pm cdv ct oc : Value} {an od : Option Addr} {osl : Array (Option Value)} {f : Addr} {args : Args} {binds : List (Str × Value)}
    (B : Below A₀ base outer h₀) (F : Fr h₀ L s.heap m) (X₀ : K.In h₀) (T : Top p loose mean mg mb h₀) (hA : A.frames = some (env :: outer)) (hf : env.frame = some L) (hke : env.scope.kind = .function)
    (ho : K.lookup f = some ⟨oc, od, .func (fnOf name qual params body scope dV kV doc pm an cdv ct), osl⟩) (hcd : codeIn K cdv qual = true) (hroom : A.depth < recursionLimit)
    (hbind : BindsTo s (fnOf name qual params body scope dV kV doc pm an cdv ct) args binds) (hkind : (binds.all fun y => scope.names.lookup y.1 == some .local || scope.names.lookup y.1 == some .cell) = true)
    (hnd : ((cellsFrom 0 scope.names []).map (·.1)).Nodup)
    (h : ∀ g L' h₁ tk cells, s.heap = g → Fr g L' h₁ (bindL (envOfC qual scope L' f cdv).kindOf binds fun _ => none) → News g L' h₁ cells →
      CellsAre (bindC (envOfC qual scope L' f cdv).kindOf binds fun _ => none) (cellsFrom (L' + 1) scope.names []) cells → Below A base (env :: outer) g → K.In g → Top p loose mean mg mb g →
      wpAny (model prog w) (A.deeper (envOfC qual scope L' f cdv)) (execs body (envOfC qual scope L' f cdv))
        (fun fl s' => R (.ok (.ret (match fl with | .ret v => v | _ => .none))) s')
        (fun e s' => wpAny (model prog w) (A.deeper (envOfC qual scope L' f cdv)) (leaving (envOfC qual scope L' f cdv) e) (fun _ s'' => R (.error e) s'') (fun e' s'' => R (.error e') s'') s')
        { s with heap := h₁, toks := tk })
    (hco : scope.isCoroutine = false) (hgen : scope.isGenerator = false) (hk : scope.kind = .function) : codeAny (model prog w) A (.call (.ref f) args) R s := by
  have B₁ := pushX B F hf hke
  refine codeAny_call_function hroom ((X₀.keeps F.keep) _ _ ho) rfl hco hgen rfl (codeRec_of (X₀.keeps F.keep) hcd) (hbind _ _ _ _ ?_)
  refine wpAny_newFunctionEnv_cells hk (kindsX hkind _) fun env' he s' x => ?_
  subst he
  refine ⟨(T.nolimit.keeps F.keep).keeps x.toInCall.keep, codeAny_func ?_⟩
  obtain ⟨h₁, tk, rfl, _⟩ := x.done
  have hk₁ := x.toInCall.keep
  obtain ⟨cells, NC, Y⟩ := Cl.news (h₀ := s.heap) (Nat.le_refl _) fun n c hm => ⟨x.cell n c (lookup_of_mem_nodup (cellsFrom_names scope.names 0 (s.heap.objs.size + 1) [] [] rfl ▸ hnd) hm), x.above n c hm⟩
  exact h s.heap s.heap.objs.size h₁ tk cells rfl ⟨x.toInCall.ns, hk₁, Nat.le_refl _⟩ NC Y ⟨hA, B₁.stays, B₁.frames⟩ (X₀.keeps F.keep) (T.keeps F.keep)
end
end Mine
end

section
open PySem PySem.W PyProof.Rows PySem.Calls
namespace Mine

/-- a text by the list of its signs -/
abbrev S (l : List Nat) : Str := ⟨l.toArray⟩
theorem S_length (l : List Nat) : (S l).length = l.length := by simp [Str.length]
theorem S_append (a b : List Nat) : S a ++ S b = S (a ++ b) := Str.ext' (by simp [Str.cps_append])
theorem S_of (x : Str) : x = S x.cps.toList := Str.ext' (by simp)
theorem S_inj {a b : List Nat} (h : S a = S b) : a = b := by have := congrArg (fun x : Str => x.cps.toList) h; simpa using this

def sub1 (k : Nat) (z : List Nat) (l : List Nat) : List Nat := l.flatMap fun c => if c = k then z else [c]
theorem sub1_append (k : Nat) (z a b : List Nat) : sub1 k z (a ++ b) = sub1 k z a ++ sub1 k z b := by simp [sub1]
theorem sub1_free (k : Nat) (z : List Nat) : ∀ l : List Nat, k ∉ l → sub1 k z l = l
  | [], _ => rfl
  | c :: r, h => by
    have h1 : ¬ c = k := fun e => h (e ▸ List.mem_cons_self ..)
    have h2 : k ∉ r := fun m => h (List.mem_cons_of_mem _ m)
    show (if c = k then z else [c]) ++ sub1 k z r = c :: r
    rw [if_neg h1, sub1_free k z r h2]; rfl
theorem sub1_one (k : Nat) (z : List Nat) : sub1 k z [k] = z := by simp [sub1]
theorem sub1_join (k : Nat) (z : Str) : ∀ parts : List Str, (∀ p ∈ parts, k ∉ p.cps.toList) → sub1 k z.cps.toList (Str.join ⟨#[k]⟩ parts).cps.toList = (Str.join z parts).cps.toList
  | [], _ => rfl
  | [p], h => sub1_free k _ _ (h p (List.mem_singleton.mpr rfl))
  | p :: q :: r, h => by
    have ih := sub1_join k z (q :: r) fun a ha => h a (List.mem_cons_of_mem _ ha)
    show sub1 k z.cps.toList (p ++ ⟨#[k]⟩ ++ Str.join ⟨#[k]⟩ (q :: r)).cps.toList = (p ++ z ++ Str.join z (q :: r)).cps.toList
    simp only [Str.cps_append, Array.toList_append]
    rw [sub1_append, sub1_append, ih, sub1_free k _ _ (h p (List.mem_cons_self ..))]
    show p.cps.toList ++ sub1 k _ [k] ++ _ = _
    rw [sub1_one]
theorem replace_S (l z : List Nat) (k : Nat) : Txt.replace (S l) (S [k]) (S z) = S (sub1 k z l) := by
  rw [S_of (Txt.replace (S l) (S [k]) (S z))]
  refine congrArg S ?_
  rw [StrLaws.replace_one, ← sub1_join k (S z) _ (StrLaws.split_free (S l) k), StrLaws.join_split]
theorem found_S (l : List Nat) (k : Nat) : (!(Builtin.Str.occurrences (S l) (S [k]) 0 (S l).length 1).isEmpty) = decide (k ∈ l) := by
  have h := StrLaws.found_one (S l) k
  simpa using h
theorem sub1_length_le (k : Nat) (z : List Nat) (n : Nat) (hz : z.length ≤ n) (hn : 1 ≤ n) : ∀ l : List Nat, (sub1 k z l).length ≤ n * l.length
  | [] => by simp [sub1]
  | c :: r => by
    have ih := sub1_length_le k z n hz hn r
    show ((if c = k then z else [c]) ++ sub1 k z r).length ≤ n * (r.length + 1)
    rw [List.length_append, Nat.mul_add, Nat.mul_one]
    split
    · omega
    · simp only [List.length_singleton]; omega

section
variable {prog : Program} {w : World} {A : Around} {E : Value → Shared → Prop} {s : Shared} {name : Str} {scope : Scope} {L a : Addr} {cd : Value} {g : Heap} {m : Str → Option Value} {news : List (Addr × Obj)}
theorem iadd_SS {a b : List Nat} {t u : Tok} {Q : Value → Shared → Prop} (hz : a.length + b.length ≤ 16777216) (h : ∀ t' tk, Q (.str (S (a ++ b)) t') { s with toks := tk }) :
    wpAny (model prog w) A (inplaceOp .Add (.str (S a) t) (.str (S b) u)) Q E s :=
  PyProof.Rows.iadd_str (fun t' tk => by rw [S_append]; exact h t' tk) (by rw [S_length, S_length]; simpa [sizeLine] using hz)
theorem add_SS {a b : List Nat} {t u : Tok} {Q : Value → Shared → Prop} (hz : a.length + b.length ≤ 16777216) (h : ∀ t' tk, Q (.str (S (a ++ b)) t') { s with toks := tk }) :
    wpAny (model prog w) A (binaryOp .Add (.str (S a) t) (.str (S b) u)) Q E s :=
  PyProof.Rows.add_str (fun t' tk => by rw [S_append]; exact h t' tk) (by rw [S_length, S_length]; simpa [sizeLine] using hz)
/-- «if c in text: text = text.replace(c, z)» -/
theorem exec_repl {x c r : Str} {l z : List Nat} {k : Nat} {t : Tok} {k1 k2 k3 : Nat} {p1 p2 p3 p4 p5 p6 p7 p8 p9 pa pb : Pos} {Q : Flow → Shared → Prop}
    (F : Fr g L s.heap m) (N : News g L s.heap news) (hm : m x = some (.str (S l) t)) (hc : c = S [k]) (hr : r = S z) (hkz : (S [k] == S z) = false) (hl : l.length ≤ 1048576) (hz : z.length ≤ 14)
    (h : ∀ t' h' tk', Fr g L h' (fun y => if y = x then some (.str (S (sub1 k z l)) t') else m y) → News g L h' news → Q .next { s with heap := h', toks := tk' })
    (hk : scope.kind = .function) (hx : (envOf name scope L a cd).kindOf x = some .local) (hd : (x == ("__debug__" : Str)) = false) {pl : Sem Bool}
    (he : eval (.Call (.Attribute (.Name x p5) (Str.ofString "replace") p6) [.Constant (.str c) k2 p7, .Constant (.str r) k3 p8] [] p9) (envOf name scope L a cd) = (do
      let ov ← eval (.Name x p5) (envOf name scope L a cd)
      standAt p6.atName
      let (f, first) ← holding [ov] (getMethod ov (Str.ofString "replace") pl)
      callWith p9 f first (backTo p9 (starEach [.Constant (.str c) k2 p7, .Constant (.str r) k3 p8] (envOf name scope L a cd))) [])) :
    wpAny (model prog w) A (exec (.If (.Compare (.Constant (.str c) k1 p1) [.In] [.Name x p2] p3) [.Assign [.Name x p4] (.Call (.Attribute (.Name x p5) (Str.ofString "replace") p6) [.Constant (.str c) k2 p7, .Constant (.str r) k3 p8] [] p9) pa] [] pb) (envOf name scope L a cd)) Q E s := by
  subst hc hr
  refine wpAny_If (wpAny_isTrue_Compare1 (Constant_str (ld (m := m) F hm ?_ hk hx hd)))
  refine PyProof.Rows.in_str (wpAny_truthy_bool ?_)
  rw [found_S]
  by_cases hkl : k ∈ l
  · rw [if_pos (by simpa using hkl)]
    refine wpAny_execs_cons (wpAny_Assign_Name (MethodCall_ (ld (m := m) F hm ?_ hk hx hd) he))
    with_reducible refine GM.replace ?_
    dsimp only
    refine callWith_method1 ?_
    refine args_cons ?_
    refine Constant_str ?_
    refine args_cons ?_
    refine Constant_str ?_
    refine args_nil ?_
    simp only [List.cons_append, List.nil_append]
    refine SC.replaceW (by simp) (by simp) (by simp) hkz (by rw [S_length]; exact hl) (by rw [S_length]; exact hz) fun t' k' => ?_
    rw [replace_S]
    refine stN (m := m) F N (fun h' F' N' => ?_) hk hx
    dsimp only
    refine wpAny_execs_nil ?_
    exact h t' h' _ F' N'
  · rw [if_neg (by simpa using hkl)]
    refine wpAny_execs_nil ?_
    have := h t s.heap (s.toks + 1) ?_ N
    · exact this
    · rw [sub1_free k z l hkl]
      have e : (fun y => if y = x then some (Value.str (S l) t) else m y) = m := by
        funext y; by_cases hy : y = x
        · rw [if_pos hy, hy, hm]
        · rw [if_neg hy]
      rw [e]; exact F
end
end Mine
end

section
open PySem PySem.W PyProof.Rows PySem.Calls
namespace Mine

def esc3 (l : List Nat) : List Nat := sub1 62 [38, 103, 116, 59] (sub1 60 [38, 108, 116, 59] (sub1 38 [38, 97, 109, 112, 59] l))
def esc7 (l : List Nat) : List Nat := sub1 9 [38, 35, 48, 57, 59] (sub1 10 [38, 35, 49, 48, 59] (sub1 13 [38, 35, 49, 51, 59] (sub1 34 [38, 113, 117, 111, 116, 59] (esc3 l))))

def e3 (c : Nat) : List Nat := if c = 38 then [38, 97, 109, 112, 59] else if c = 60 then [38, 108, 116, 59] else if c = 62 then [38, 103, 116, 59] else [c]
def e7 (c : Nat) : List Nat := if c = 38 then [38, 97, 109, 112, 59] else if c = 60 then [38, 108, 116, 59] else if c = 62 then [38, 103, 116, 59] else if c = 34 then [38, 113, 117, 111, 116, 59]
  else if c = 13 then [38, 35, 49, 51, 59] else if c = 10 then [38, 35, 49, 48, 59] else if c = 9 then [38, 35, 48, 57, 59] else [c]
theorem sub1_single (k : Nat) (z : List Nat) (c : Nat) : sub1 k z [c] = if c = k then z else [c] := by simp [sub1]
theorem esc3_one (c : Nat) : esc3 [c] = e3 c := by
  unfold esc3 e3
  rw [sub1_single]
  by_cases h1 : c = 38
  · subst h1; decide
  rw [if_neg h1, if_neg h1, sub1_single]
  by_cases h2 : c = 60
  · subst h2; decide
  rw [if_neg h2, if_neg h2, sub1_single]
theorem esc7_one (c : Nat) : esc7 [c] = e7 c := by
  unfold esc7
  rw [esc3_one]
  unfold e3 e7
  by_cases h1 : c = 38
  · subst h1; decide
  rw [if_neg h1, if_neg h1]
  by_cases h2 : c = 60
  · subst h2; decide
  rw [if_neg h2, if_neg h2]
  by_cases h3 : c = 62
  · subst h3; decide
  rw [if_neg h3, if_neg h3, sub1_single]
  by_cases h4 : c = 34
  · subst h4; decide
  rw [if_neg h4, if_neg h4, sub1_single]
  by_cases h5 : c = 13
  · subst h5; decide
  rw [if_neg h5, if_neg h5, sub1_single]
  by_cases h6 : c = 10
  · subst h6; decide
  rw [if_neg h6, if_neg h6, sub1_single]
theorem esc3_eq : ∀ l : List Nat, esc3 l = l.flatMap e3
  | [] => rfl
  | c :: r => by
    have h : esc3 ([c] ++ r) = esc3 [c] ++ esc3 r := by unfold esc3; simp only [sub1_append]
    rw [List.flatMap_cons, ← esc3_eq r, ← esc3_one]; exact h
theorem esc7_eq : ∀ l : List Nat, esc7 l = l.flatMap e7
  | [] => rfl
  | c :: r => by
    have h : esc7 ([c] ++ r) = esc7 [c] ++ esc7 r := by unfold esc7 esc3; simp only [sub1_append]
    rw [List.flatMap_cons, ← esc7_eq r, ← esc7_one]; exact h
theorem e7_length (c : Nat) : (e7 c).length ≤ 6 := by unfold e7; (repeat' split) <;> simp
theorem e3_length (c : Nat) : (e3 c).length ≤ 6 := by unfold e3; (repeat' split) <;> simp
theorem flat_length (f : Nat → List Nat) (h : ∀ c, (f c).length ≤ 6) : ∀ l : List Nat, (l.flatMap f).length ≤ 6 * l.length
  | [] => by simp
  | c :: r => by
    have := flat_length f h r
    have := h c
    rw [List.flatMap_cons, List.length_append, List.length_cons]; omega
theorem esc7_length (l : List Nat) : (esc7 l).length ≤ 6 * l.length := by rw [esc7_eq]; exact flat_length e7 e7_length l
theorem esc3_length (l : List Nat) : (esc3 l).length ≤ 6 * l.length := by rw [esc3_eq]; exact flat_length e3 e3_length l
theorem sub1_grows (k : Nat) (z : List Nat) (hz : 1 ≤ z.length) : ∀ l : List Nat, l.length ≤ (sub1 k z l).length
  | [] => Nat.zero_le _
  | c :: r => by
    have ih := sub1_grows k z hz r
    show r.length + 1 ≤ ((if c = k then z else [c]) ++ sub1 k z r).length
    rw [List.length_append]
    split
    · omega
    · simp only [List.length_singleton]; omega

set_option maxRecDepth 100000 in
set_option maxHeartbeats 8000000 in
theorem escape_cdata (w : World) (l : List Nat) (t : Tok) (hl : l.length ≤ 1000) : Ctr w 4 28 [.str (S l) t] (fun _ => True) (fun _ _ r => ∃ t', r = .str (S (esc3 l)) t') := by
  unfold Ctr
  w_top off
  k_fill
  intro dp un gd cn cs a ccd cl outer A₀ base h₀ L m s Q E mean mg mb B F X T hk hpre hdp hun hret
  refine wpAny_call ?_
  k_dflt (refine' enterP (binds := [(Str.ofString "text", .str (S l) t)]) ?k1 ?k2 ?k3 ?k5 ?kA ?kF ?kK ?k6 ?k7 ?k8 ?k9 ?kB ?_ ?c2 ?c3 ?c4 ?c5; (case kA => exact rfl); (case kF => exact rfl); (case kK => assumption); (case k1 => k_asm); (case k2 => k_asm); (case k3 => k_asm); (case k5 => k_asm); (case k6 => k_is); (case k7 => k_is); (case k8 => ktr_room); (case k9 => exact BindsTo.of_eq rfl); (case c5 => decide); (case kB => exact locs rfl); (case c2 => exact rfl); (case c3 => exact rfl); (case c4 => exact rfl); k_whole; intro g' L' h' hg' F' N' B' X' T'; (try dsimp only); (try k_fold))
  clear F B X T
  refine wpAny_execs_cons ?_
  refine wpAny_Try_except ?_
  have hl7 := esc3_length l
  unfold esc3 at hl7
  have l1 := sub1_length_le 38 [38, 97, 109, 112, 59] 5 (by decide) (by decide) l
  have l2 := sub1_grows 60 [38, 108, 116, 59] (by decide) (sub1 38 [38, 97, 109, 112, 59] l)
  have l3 := sub1_grows 62 [38, 103, 116, 59] (by decide) (sub1 60 [38, 108, 116, 59] (sub1 38 [38, 97, 109, 112, 59] l))
  refine wpAny_execs_cons (exec_repl (l := l) (z := [38, 97, 109, 112, 59]) (k := 38) F' N' rfl (by decide +kernel) (by decide +kernel) (by decide +kernel) (by omega) (by decide) (fun t1 h1 tk1 F1 N1 => ?_) rfl rfl (by decide +kernel) (by rfl))
  dsimp only
  refine wpAny_execs_cons (exec_repl (l := sub1 38 [38, 97, 109, 112, 59] l) (z := [38, 108, 116, 59]) (k := 60) F1 N1 rfl (by decide +kernel) (by decide +kernel) (by decide +kernel) (by omega) (by decide) (fun t2 h2 tk2 F2 N2 => ?_) rfl rfl (by decide +kernel) (by rfl))
  dsimp only
  refine wpAny_execs_cons (exec_repl (z := [38, 103, 116, 59]) (k := 62) F2 N2 rfl (by decide +kernel) (by decide +kernel) (by decide +kernel) (by omega) (by decide) (fun t3 h3 tk3 F3 N3 => ?_) rfl rfl (by decide +kernel) (by rfl))
  dsimp only
  clear F' N' F1 N1 F2 N2
  k_steps
  refine hret _ _ _ (fun b o e => ?_) ⟨_, rfl⟩
  exact F3.keep b o (hg' ▸ e)

set_option maxRecDepth 100000 in
set_option maxHeartbeats 8000000 in
theorem escape_attrib (w : World) (l : List Nat) (t : Tok) (hl : l.length ≤ 1000) : Ctr w 4 35 [.str (S l) t] (fun _ => True) (fun _ _ r => ∃ t', r = .str (S (esc7 l)) t') := by
  unfold Ctr
  w_top off
  k_fill
  intro dp un gd cn cs a ccd cl outer A₀ base h₀ L m s Q E mean mg mb B F X T hk hpre hdp hun hret
  refine wpAny_call ?_
  k_dflt (refine' enterP (binds := [(Str.ofString "text", .str (S l) t)]) ?k1 ?k2 ?k3 ?k5 ?kA ?kF ?kK ?k6 ?k7 ?k8 ?k9 ?kB ?_ ?c2 ?c3 ?c4 ?c5; (case kA => exact rfl); (case kF => exact rfl); (case kK => assumption); (case k1 => k_asm); (case k2 => k_asm); (case k3 => k_asm); (case k5 => k_asm); (case k6 => k_is); (case k7 => k_is); (case k8 => ktr_room); (case k9 => exact BindsTo.of_eq rfl); (case c5 => decide); (case kB => exact locs rfl); (case c2 => exact rfl); (case c3 => exact rfl); (case c4 => exact rfl); k_whole; intro g' L' h' hg' F' N' B' X' T'; (try dsimp only); (try k_fold))
  clear F B X T
  refine wpAny_execs_cons ?_
  refine wpAny_Try_except ?_
  have hl7 := esc7_length l
  unfold esc7 esc3 at hl7
  have l0 := sub1_grows 38 [38, 97, 109, 112, 59] (by decide) (l)
  have l1 := sub1_grows 60 [38, 108, 116, 59] (by decide) (sub1 38 [38, 97, 109, 112, 59] l)
  have l2 := sub1_grows 62 [38, 103, 116, 59] (by decide) (sub1 60 [38, 108, 116, 59] (sub1 38 [38, 97, 109, 112, 59] l))
  have l3 := sub1_grows 34 [38, 113, 117, 111, 116, 59] (by decide) (sub1 62 [38, 103, 116, 59] (sub1 60 [38, 108, 116, 59] (sub1 38 [38, 97, 109, 112, 59] l)))
  have l4 := sub1_grows 13 [38, 35, 49, 51, 59] (by decide) (sub1 34 [38, 113, 117, 111, 116, 59] (sub1 62 [38, 103, 116, 59] (sub1 60 [38, 108, 116, 59] (sub1 38 [38, 97, 109, 112, 59] l))))
  have l5 := sub1_grows 10 [38, 35, 49, 48, 59] (by decide) (sub1 13 [38, 35, 49, 51, 59] (sub1 34 [38, 113, 117, 111, 116, 59] (sub1 62 [38, 103, 116, 59] (sub1 60 [38, 108, 116, 59] (sub1 38 [38, 97, 109, 112, 59] l)))))
  have l6 := sub1_grows 9 [38, 35, 48, 57, 59] (by decide) (sub1 10 [38, 35, 49, 48, 59] (sub1 13 [38, 35, 49, 51, 59] (sub1 34 [38, 113, 117, 111, 116, 59] (sub1 62 [38, 103, 116, 59] (sub1 60 [38, 108, 116, 59] (sub1 38 [38, 97, 109, 112, 59] l))))))
  refine wpAny_execs_cons (exec_repl (l := l) (z := [38, 97, 109, 112, 59]) (k := 38) F' N' rfl (by decide +kernel) (by decide +kernel) (by decide +kernel) (by omega) (by decide) (fun t0 h0 tk0 F0 N0 => ?_) rfl rfl (by decide +kernel) (by rfl))
  dsimp only
  clear F' N'
  refine wpAny_execs_cons (exec_repl (l := sub1 38 [38, 97, 109, 112, 59] l) (z := [38, 108, 116, 59]) (k := 60) F0 N0 rfl (by decide +kernel) (by decide +kernel) (by decide +kernel) (by omega) (by decide) (fun t1 h1 tk1 F1 N1 => ?_) rfl rfl (by decide +kernel) (by rfl))
  dsimp only
  clear F0 N0
  refine wpAny_execs_cons (exec_repl (l := sub1 60 [38, 108, 116, 59] (sub1 38 [38, 97, 109, 112, 59] l)) (z := [38, 103, 116, 59]) (k := 62) F1 N1 rfl (by decide +kernel) (by decide +kernel) (by decide +kernel) (by omega) (by decide) (fun t2 h2 tk2 F2 N2 => ?_) rfl rfl (by decide +kernel) (by rfl))
  dsimp only
  clear F1 N1
  refine wpAny_execs_cons (exec_repl (l := sub1 62 [38, 103, 116, 59] (sub1 60 [38, 108, 116, 59] (sub1 38 [38, 97, 109, 112, 59] l))) (z := [38, 113, 117, 111, 116, 59]) (k := 34) F2 N2 rfl (by decide +kernel) (by decide +kernel) (by decide +kernel) (by omega) (by decide) (fun t3 h3 tk3 F3 N3 => ?_) rfl rfl (by decide +kernel) (by rfl))
  dsimp only
  clear F2 N2
  refine wpAny_execs_cons (exec_repl (l := sub1 34 [38, 113, 117, 111, 116, 59] (sub1 62 [38, 103, 116, 59] (sub1 60 [38, 108, 116, 59] (sub1 38 [38, 97, 109, 112, 59] l)))) (z := [38, 35, 49, 51, 59]) (k := 13) F3 N3 rfl (by decide +kernel) (by decide +kernel) (by decide +kernel) (by omega) (by decide) (fun t4 h4 tk4 F4 N4 => ?_) rfl rfl (by decide +kernel) (by rfl))
  dsimp only
  clear F3 N3
  refine wpAny_execs_cons (exec_repl (l := sub1 13 [38, 35, 49, 51, 59] (sub1 34 [38, 113, 117, 111, 116, 59] (sub1 62 [38, 103, 116, 59] (sub1 60 [38, 108, 116, 59] (sub1 38 [38, 97, 109, 112, 59] l))))) (z := [38, 35, 49, 48, 59]) (k := 10) F4 N4 rfl (by decide +kernel) (by decide +kernel) (by decide +kernel) (by omega) (by decide) (fun t5 h5 tk5 F5 N5 => ?_) rfl rfl (by decide +kernel) (by rfl))
  dsimp only
  clear F4 N4
  refine wpAny_execs_cons (exec_repl (l := sub1 10 [38, 35, 49, 48, 59] (sub1 13 [38, 35, 49, 51, 59] (sub1 34 [38, 113, 117, 111, 116, 59] (sub1 62 [38, 103, 116, 59] (sub1 60 [38, 108, 116, 59] (sub1 38 [38, 97, 109, 112, 59] l)))))) (z := [38, 35, 48, 57, 59]) (k := 9) F5 N5 rfl (by decide +kernel) (by decide +kernel) (by decide +kernel) (by omega) (by decide) (fun t6 h6 tk6 F6 N6 => ?_) rfl rfl (by decide +kernel) (by rfl))
  dsimp only
  clear F5 N5
  k_steps
  refine hret _ _ _ (fun b o e => ?_) ⟨_, rfl⟩
  exact F6.keep b o (hg' ▸ e)
end Mine
end

section
open PySem PySem.W PyProof.Rows PySem.Calls
namespace Mine

/-- a code that holds no bytearray open -/
def okc : Code → Bool
  | .builtin id _ => !(Builtin.Bytes.decodersThatHold.contains id) && !((["bytearray.__contains__", "bytearray.__mod__", "bytearray.__rmod__", "_struct.pack_into.held", "bytearray.find.held"] : List String).contains id)
  | _ => true
def CleanB (Γ : Ctx) : Prop := ∀ x ∈ Γ.below, okc x.1 = true
def Clean (Γ : Ctx) : Prop := okc Γ.code = true ∧ CleanB Γ

def wpC {α : Type} (M : Model) (A : Around) (t : Sem α) (Q : α → Shared → Prop) (E : Value → Shared → Prop) (s : Shared) : Prop :=
  ∀ Γ p, Γ.In A → Clean Γ → Sem.wp M Γ t (fun a _ s' => Q a s') (fun e _ s' => E e s') p s
def codeC (M : Model) (A : Around) (c : Code) (R : Result → Shared → Prop) (s : Shared) : Prop :=
  ∀ Γ p, Γ.code = c → Γ.Below A → CleanB Γ → wpCode M Γ R p s

section
variable {α β : Type} {M : Model} {A : Around} {E : Value → Shared → Prop} {s : Shared}
theorem wpC_of {t : Sem α} {Q : α → Shared → Prop} (h : wpAny M A t Q E s) : wpC M A t Q E s := fun Γ p hΓ _ => h Γ p hΓ
theorem codeC_of {c : Code} {R : Result → Shared → Prop} (h : codeAny M A c R s) : codeC M A c R s := fun Γ p hc hΓ _ => h Γ p hc hΓ
theorem wpC_pure {a : α} {Q : α → Shared → Prop} (h : Q a s) : wpC M A (pure a) Q E s := fun _ _ _ _ => h
theorem wpC_mono {t : Sem α} {Q Q' : α → Shared → Prop} {E' : Value → Shared → Prop} (h : wpC M A t Q E s)
    (hQ : ∀ a s, Q a s → Q' a s) (hE : ∀ e s, E e s → E' e s) : wpC M A t Q' E' s :=
  fun Γ p hΓ hc => Sem.wp_mono M Γ t (fun a _ s => hQ a s) (fun e _ s => hE e s) p s (h Γ p hΓ hc)
theorem wpC_bind {m : Sem α} {f : α → Sem β} {Q : β → Shared → Prop} (h : wpC M A m (fun a s' => wpC M A (f a) Q E s') E s) :
    wpC M A (m >>= f) Q E s := fun Γ p hΓ hc => by
  rw [Sem.wp_bind']
  exact Sem.wp_mono M Γ m (fun a p' s' h' => h' Γ p' hΓ hc) (fun _ _ _ h' => h') p s (h Γ p hΓ hc)
theorem wpC_then {m : Sem α} {f : α → Sem β} {Q : β → Shared → Prop} (h : wpAny M A m (fun a s' => wpC M A (f a) Q E s') E s) :
    wpC M A (m >>= f) Q E s := wpC_bind (wpC_of h)
theorem wpC_holding {vs : List Value} {m : Sem α} {Q : α → Shared → Prop} (h : wpC M A m Q E s) : wpC M A (holding vs m) Q E s :=
  fun Γ p hΓ hc => by rw [Sem.wp_holding]; exact h Γ p hΓ hc
theorem wpC_keep {vs : List Value} {m : Sem α} {Q : α → Shared → Prop} (h : wpC M A m Q E s) : wpC M A (m.keep vs) Q E s :=
  fun Γ p hΓ hc => by rw [Sem.wp_keep]; exact h Γ p hΓ hc
theorem wpC_onRaise {m : Sem α} {k : Value → Sem Unit} {Q : α → Shared → Prop}
    (h : wpC M A m Q (fun e s' => wpAny M A (k e) (fun _ s'' => E e s'') E s') s) : wpC M A (m.onRaise k) Q E s := fun Γ p hΓ hc => by
  rw [Sem.wp_onRaise]
  exact Sem.wp_mono M Γ m (fun _ _ _ h' => h') (fun e p' s' h' => h' Γ p' hΓ) p s (h Γ p hΓ hc)
theorem codeC_mono {c : Code} {R R' : Result → Shared → Prop} (h : codeC M A c R s) (hR : ∀ r s, R r s → R' r s) : codeC M A c R' s :=
  fun Γ p hc hΓ hb => wpCode_mono hR (h Γ p hc hΓ hb)
theorem wpC_call {f : Value} {pos : List Value} {kw : List (Str × Value)} {Q : Value → Shared → Prop}
    (hc : codeC M A (.call f ⟨pos, kw⟩) (fun r s' => match r with | .ok (.ret v) => Q v s' | .ok _ => False | .error e => E e s') s) :
    wpC M A (call f pos kw) Q E s := fun Γ p hΓ hcl => by
  show Sem.wp M Γ (runValue (.call f ⟨pos, kw⟩)) _ _ p s
  rw [Sem.wp_runValue]
  refine hc _ p rfl (hΓ.enter _ none p (by intro x; cases x)) fun x hx => ?_
  rcases List.mem_cons.mp hx with rfl | hx
  · exact hcl.1
  · exact hcl.2 x hx
theorem codeC_of_tree {c : Code} {R : Result → Shared → Prop} (hok : okc c = true)
    (h : wpC M (A.under c) (M.den c) (fun fin s' => match fin with | .done f => R (.ok f) s' | .again c' => c'.quiet = true ∧ codeC M A c' R s')
      (fun e s' => R (.error e) s') s) : codeC M A c R s := fun Γ p hc hΓ hb => by
  rw [wpCode_iff_wp, hc]
  refine Sem.wp_mono M Γ _ (fun fin p' s' h' => ?_) (fun _ _ _ h' => h') p s (h Γ p (hc ▸ hΓ.in) ⟨hc ▸ hok, hb⟩)
  cases fin with
  | done f => exact h'
  | again c' => exact ⟨h'.1, h'.2 (Γ.goto c') p' rfl (hΓ.goto c') hb⟩
theorem wpC_exported {self : Value} {Q : Bool → Shared → Prop} (h : Q false s) : wpC M A (Builtin.Bytes.exported self) Q E s := fun Γ p hΓ hc => by
  unfold Builtin.Bytes.exported
  rw [Sem.wp_bind']
  unfold stack
  rw [Sem.wp_stack, Sem.wp_pure]
  show Q _ s
  have hf : ∀ x ∈ (Γ.code, p) :: Γ.below, okc x.1 = true := fun x hx => by
    rcases List.mem_cons.mp hx with rfl | hx
    · exact hc.1
    · exact hc.2 x hx
  have key : ∀ b : Bool, b = false → Q b s := fun b hb => hb ▸ h
  refine key _ ?_
  rw [List.any_eq_false]
  intro x hx
  have hk := hf x hx
  obtain ⟨c, q⟩ := x
  cases c with
  | builtin id a =>
    simp only [okc, Bool.and_eq_true, Bool.not_eq_true'] at hk
    obtain ⟨h1, h2⟩ := hk
    simp only [List.contains_cons, List.contains_nil, Bool.or_false, Bool.or_eq_false_iff, beq_eq_false_iff_ne, ne_eq] at h2
    obtain ⟨n1, n2, n3, n4, n5⟩ := h2
    obtain ⟨ps, kw⟩ := a
    split <;> simp_all
  | _ => simp
end
end Mine
end

section
open PySem PySem.W PyProof.Rows PySem.Calls
set_option maxRecDepth 100000
namespace Mine.FB
theorem mro : mroOf (.type "bytearray") = pure [.type "bytearray", .type "object"] := by rw [mroOf_type]; kernel_rfl
theorem lookup_new : typeLookup (.type "bytearray") "__new__" = pure (some (.builtin "bytearray.__new__")) := by rw [typeLookup_type, builtinLookup_eq_fast]; kernel_rfl
theorem slot_init : Slot "bytearray" "__init__" "bytearray.__init__" :=
  .of (owner := "bytearray") (n := "__init__") (by rw [typeLookup_type, builtinLookup_eq_fast]; kernel_rfl) (by decide +kernel) (by decide +kernel) (by decide +kernel)
    (by first | exact .inl (by decide +kernel) | exact .inr (by decide +kernel)) (by rw [isSubtype_type]; kernel_rfl)
theorem slot_setitem : Slot "bytearray" "__setitem__" "bytearray.__setitem__" :=
  .of (owner := "bytearray") (n := "__setitem__") (by rw [typeLookup_type, builtinLookup_eq_fast]; kernel_rfl) (by decide +kernel) (by decide +kernel) (by decide +kernel)
    (by first | exact .inl (by decide +kernel) | exact .inr (by decide +kernel)) (by rw [isSubtype_type]; kernel_rfl)
theorem called : TypeCalled "bytearray" "bytearray.__new__" "bytearray.__init__" :=
  ⟨by decide +kernel, by decide +kernel, ⟨_, _, mro⟩, madeBy_type mro lookup_new (by decide +kernel), by decide +kernel, by rw [isSubtype_type]; kernel_rfl, slot_init⟩
theorem typeCall (a : Value) : checkTypeCall "bytearray" ⟨[a], []⟩ = pure () := by kernel_rfl
theorem newCall (a : Value) : checkBuiltinCall "bytearray.__new__" ⟨[.type "bytearray", a], []⟩ = pure () := by kernel_rfl
theorem entry_new : entryFor table "bytearray.__new__" = some Builtin.«list.__new__» := entryFor_alias (id' := "list.__new__") (by rw [fastTable_eq_tree]; kernel_rfl) (by decide +kernel) (by decide +kernel) (by rw [fastTable_eq_tree]; kernel_rfl)
theorem entry_init : entryFor table "bytearray.__init__" = some Builtin.«bytearray.__init__» := entryFor_of_tree (by kernel_rfl)
theorem entry_setitem : entryFor table "bytearray.__setitem__" = some Builtin.«bytearray.__setitem__» := entryFor_of_tree (by kernel_rfl)
theorem plain_new : plainId "bytearray.__new__" = true := by decide +kernel
theorem plain_init : plainId "bytearray.__init__" = true := by decide +kernel
set_option maxRecDepth 1000000 in
set_option maxHeartbeats 4000000 in
theorem owner_new : ("bytearray.__new__".splitOn ".__new__").headD "" = "bytearray" := by simp +decide [String.splitOn, String.splitOnAux]
theorem sub_self : isSubtype (.type "bytearray") (.type "bytearray") = pure true := by rw [isSubtype_type]; kernel_rfl
theorem lookup_release : typeLookup (.type "bytearray") "__release_buffer__" = pure (some (.builtin "bytearray.__release_buffer__")) := by rw [typeLookup_type, builtinLookup_eq_fast]; kernel_rfl
theorem lookup_buffer : typeLookup (.type "bytearray") "__buffer__" = pure (some (.builtin "bytearray.__buffer__")) := by rw [typeLookup_type, builtinLookup_eq_fast]; kernel_rfl
theorem lacks_bytes : typeLookup (.type "bytearray") "__bytes__" = pure none := by rw [typeLookup_type, builtinLookup_eq_fast]; kernel_rfl
theorem lacks_index : typeLookup (.type "bytearray") "__index__" = pure none := by rw [typeLookup_type, builtinLookup_eq_fast]; kernel_rfl
theorem bind3 (v : Value) : Builtin.Bytes.bindOptional "bytearray.__init__" "bytearray" ["source", "encoding", "errors"] [v] [] = pure [some v, none, none] := by kernel_rfl
theorem ends_release : ("bytearray.__release_buffer__".endsWith ("." ++ "__release_buffer__")) = true := by decide +kernel
theorem drop_release : ("bytearray.__release_buffer__".dropRight ("__release_buffer__".length + 1)) = "bytearray" := by decide +kernel
theorem ends_buffer : ("bytearray.__buffer__".endsWith ("." ++ "__buffer__")) = true := by decide +kernel
theorem drop_buffer : ("bytearray.__buffer__".dropRight ("__buffer__".length + 1)) = "bytearray" := by decide +kernel
theorem args_init (a b : Value) : argsOk "bytearray.__init__" ⟨[a, b], []⟩ := by unfold argsOk; kernel_rfl
theorem args_setitem (a b c : Value) : argsOk "bytearray.__setitem__" ⟨[a, b, c], []⟩ := by unfold argsOk; kernel_rfl
end Mine.FB
end

section
open PySem PySem.W PyProof.Rows PySem.Calls
set_option maxRecDepth 100000
namespace Mine
section
variable {prog : Program} {w : World} {A : Around} {E : Value → Shared → Prop} {s : Shared}
theorem wpC_builtin {id : String} {args : Args} {b : Builtin} {R : Result → Shared → Prop} (hok : okc (.builtin id args) = true) (hb : entryFor table id = some b)
    (h : wpC (model prog w) (A.under (.builtin id args)) (b args)
      (fun fin s' => match fin with | .done f => R (.ok f) s' | .again c' => c'.quiet = true ∧ codeC (model prog w) A c' R s') (fun e s' => R (.error e) s') s) :
    codeC (model prog w) A (.builtin id args) R s := by
  refine codeC_of_tree hok ?_
  show wpC _ _ (match entryFor table id with | some b => b args | none => unsupported ((withoutEnding? id "#data").getD id)) _ _ s
  rw [hb]; exact h
theorem wpC_call_builtin {id : String} {args : Args} {b : Builtin} {R : Result → Shared → Prop} (hok : okc (.builtin id args) = true) (hq : plainId id = true) (hb : entryFor table id = some b)
    (h : wpAny (model prog w) A.in1 (checkBuiltinCall id args) (fun _ s₁ => wpC (model prog w) A.in1 (b args)
      (fun fin s' => match fin with | .done f => R (.ok f) s' | .again c' => c'.quiet = true ∧ codeC (model prog w) A c' R s') (fun e s' => R (.error e) s') s₁)
      (fun e s' => R (.error e) s') s) : codeC (model prog w) A (.call (.builtin id) args) R s := by
  refine codeC_of_tree rfl ?_
  show wpC _ A.in1 (do checkBuiltinCall id args; again (.builtin id args)) _ _ s
  refine wpC_then (wpAny_mono h (fun _ s₁ h₁ => wpC_pure (And.intro (plainId_quiet hq args) (wpC_builtin hok hb ?_))) fun _ _ h' => h')
  rw [Around.under_plainId hq args]; exact h₁

theorem wpC_if_false {α : Type} {M : Model} {c : Bool} {a b : Sem α} {Q : α → Shared → Prop} (hc : c = false) (h : wpC M A b Q E s) : wpC M A (if c = true then a else b) Q E s := by
  subst hc
  exact h
theorem wpC_if_true {α : Type} {M : Model} {c : Bool} {a b : Sem α} {Q : α → Shared → Prop} (hc : c = true) (h : wpC M A a Q E s) : wpC M A (if c = true then a else b) Q E s := by
  subst hc
  exact h
theorem wpC_dif_false {α : Type} {M : Model} {c : Prop} [Decidable c] {a b : Sem α} {Q : α → Shared → Prop} (hc : ¬ c) (h : wpC M A b Q E s) : wpC M A (if c then a else b) Q E s := by
  rw [if_neg hc]
  exact h
theorem wpC_dif_true {α : Type} {M : Model} {c : Prop} [Decidable c] {a b : Sem α} {Q : α → Shared → Prop} (hc : c) (h : wpC M A a Q E s) : wpC M A (if c then a else b) Q E s := by
  rw [if_pos hc]
  exact h
theorem code_ba_new (a : Value) {Q₁ : Value → Shared → Prop}
    (h : Q₁ (.ref s.heap.objs.size) { s with heap := s.heap.push { cls := .type "bytearray", data := .bytearray #[] } }) :
    codeAny (model prog w) A (.call (.builtin "bytearray.__new__") ⟨[.type "bytearray", a], []⟩) (wants Q₁ E) s := by
  refine codeAny_of_tree ?_
  show wpAny _ A.in1 (do checkBuiltinCall "bytearray.__new__" ⟨[.type "bytearray", a], []⟩; again (.builtin "bytearray.__new__" ⟨[.type "bytearray", a], []⟩)) _ _ s
  refine wpAny_bind (wpAny_of_eq (FB.newCall a) (wpAny_pure ⟨plainId_quiet FB.plain_new _, codeAny_builtin_stack FB.entry_new rfl fun p st => ?_⟩))
  rw [Around.under_plainId FB.plain_new _]
  have hsub := FB.sub_self
  have hown := FB.owner_new
  obtain ⟨hp, g, d, tk, os⟩ := s
  simp only [hown]
  wp_walk
  exact h

theorem wpAny_own {S : Addr} {name : String} {id : String} {Q : Bool → Shared → Prop} (hT : s.TypeIs (.ref S) "bytearray") (hl : typeLookup (.type "bytearray") (name : Str) = pure (some (.builtin id)))
    (he : id.endsWith ("." ++ name) = true) (hd : id.dropRight (name.length + 1) = "bytearray") (h : Q true s) : wpAny (model prog w) A (Builtin.Bytes.slotIsOwn (.ref S) name) Q E s := by
  unfold Builtin.Bytes.slotIsOwn
  refine wpAny_bind (wpAny_specialOf hT hl ?_)
  dsimp only
  refine bm_if_false (by rw [he]; rfl) ?_
  refine wpAny_isInstance hT ?_ h
  rw [hd]; exact FB.sub_self
theorem wpAny_ownRelease {S : Addr} {Q : Bool → Shared → Prop} (hT : s.TypeIs (.ref S) "bytearray") (h : Q false s) : wpAny (model prog w) A (Builtin.Bytes.ownRelease (.ref S)) Q E s := by
  unfold Builtin.Bytes.ownRelease
  exact wpAny_bind (wpAny_own hT FB.lookup_release FB.ends_release FB.drop_release (wpAny_pure h))
theorem wpAny_ba_write {S : Addr} {b b' : Array UInt8} {f : Array UInt8 → Array UInt8} {Q : Unit → Shared → Prop} (hS : s.heap.get? S = some { cls := .type "bytearray", data := .bytearray b }) (hf : f b = b') (hz : b'.size ≤ sizeLine)
    (h : ∀ h', (∀ x o, x ≠ S → s.heap.get? x = some o → h'.get? x = some o) → h'.get? S = some { cls := .type "bytearray", data := .bytearray b' } → Q () { s with heap := h' }) : wpAny (model prog w) A (Builtin.Bytes.write (.ref S) f) Q E s := by
  show wpAny _ _ (updateBytearray S f) _ _ _
  unfold updateBytearray
  refine wpAny_bind (wpAny_load hS ?_)
  show wpAny _ _ (update S (Obj.mapBytearray f) >>= fun _ => lookBehind S) _ _ _
  refine wpAny_bind (wpAny_update hS ?_)
  have hS₂ : (s.heap.update S (Obj.mapBytearray f)).get? S = some { cls := .type "bytearray", data := .bytearray b' } := by
    rw [← hf]
    exact Heap.get?_update_self (Obj.mapBytearray f) hS rfl
  refine wpAny_lookBehind hS₂ ?_ ?_
  · show (if b'.size > sizeLine then some "bytearray:memory" else none) = none
    rw [if_neg (by omega)]
  · exact h _ (fun x o hx e => (Heap.get?_update_other _ _ (Ne.symm hx)).trans e) hS₂

theorem wpAny_exportsOf {S : Addr} {b : Array UInt8} {Q : Nat → Shared → Prop} (hS : s.heap.get? S = some { cls := .type "bytearray", data := .bytearray b }) (h : Q 0 s) : wpAny (model prog w) A (Builtin.Bytes.exportsOf (.ref S)) Q E s := by
  show wpAny _ _ (load S >>= _) _ _ _
  exact wpAny_bind (wpAny_load hS (wpAny_pure h))

set_option maxHeartbeats 1000000 in
theorem ba_init {n : Nat} {t : Tok} {S : Addr} {R : Fin → Shared → Prop} {E : Value → Shared → Prop} (hn : n ≤ sizeLine) (hS : s.heap.get? S = some { cls := .type "bytearray", data := .bytearray #[] })
    (h : ∀ h', (∀ b o, b ≠ S → s.heap.get? b = some o → h'.get? b = some o) → h'.get? S = some { cls := .type "bytearray", data := .bytearray (Array.replicate n 0) } → R (.done (.ret .none)) { s with heap := h' }) :
    wpC (model prog w) A (Builtin.«bytearray.__init__» ⟨[.ref S, .int n t], []⟩) R E s := by
  have hz : sizeLine = 16777216 := by decide
  unfold Builtin.«bytearray.__init__»
  have hT : s.TypeIs (.ref S) "bytearray" := ⟨_, hS, rfl⟩
  dsimp only
  refine wpC_then (wpAny_ownRelease hT ?_)
  refine wpC_if_false rfl ?_
  refine wpC_then (wpAny_of_eq (FB.bind3 _) ?_)
  refine wpC_then (wpAny_of_eq (a := ()) rfl ?_)
  refine wpC_then (wpAny_of_eq (a := ()) rfl ?_)
  refine wpC_bind ?_
  show wpC _ _ (Builtin.Bytes.exported (.ref S) >>= _) _ _ _
  refine wpC_bind (wpC_exported ?_)
  refine wpC_then (wpAny_exportsOf hS ?_)
  refine wpC_pure ?_
  refine wpC_if_false rfl ?_
  refine wpC_then (wpAny_ba_write hS (b' := #[]) rfl (Nat.zero_le _) fun h₁ k₁ hS₁ => ?_)
  dsimp only
  have e1 : asStr? (.int (n : Int) t) = pure none := rfl
  have e2 : asIndex (.int (n : Int) t) = pure (n : Int) := rfl
  refine wpC_then (m := asStr? (.int (n : Int) t)) ?_
  with_reducible refine wpAny_of_eq e1 ?_
  with_reducible refine wpC_if_false rfl ?_
  with_reducible refine wpC_bind ?_
  with_reducible refine wpC_if_false rfl ?_
  with_reducible refine wpC_if_false rfl ?_
  with_reducible refine wpC_pure ?_
  with_reducible refine wpC_then ?_
  with_reducible refine wpAny_specialOf (typeIs_int _ _ _) F.slot_int_index.lookup ?_
  with_reducible refine wpC_if_true rfl ?_
  with_reducible refine wpC_then ?_
  with_reducible refine wpAny_attempt ?_
  with_reducible refine wpAny_of_eq e2 ?_
  dsimp only
  with_reducible refine wpC_if_false ?_ ?_
  · simp [Builtin.Bytes.fitsIndex]; omega
  with_reducible refine wpC_dif_false (by omega) ?_
  with_reducible refine wpC_if_false (by simp; omega) ?_
  with_reducible refine wpC_if_false (by simp [Builtin.Bytes.tooLong]; omega) ?_
  with_reducible refine wpC_then ?_
  with_reducible refine wpAny_rule ?_
  by_cases h0 : (n : Int) > 0
  · refine wpC_dif_true h0 ?_
    refine wpC_then (wpAny_ba_write hS₁ (b' := Array.replicate n 0) (by simp) (by simpa using hn) fun h₂ k₂ hS₂ => wpC_pure ?_)
    exact h h₂ (fun b o hb e => k₂ b o hb (k₁ b o hb e)) hS₂
  · refine wpC_dif_false h0 ?_
    obtain rfl : n = 0 := by omega
    exact wpC_pure (h h₁ k₁ hS₁)

theorem okc_type_call (args : Args) : okc (.builtin "type.__call__" args) = true := by
  show (!(Builtin.Bytes.decodersThatHold.contains "type.__call__") && !((["bytearray.__contains__", "bytearray.__mod__", "bytearray.__rmod__", "_struct.pack_into.held", "bytearray.find.held"] : List String).contains "type.__call__")) = true
  decide +kernel
theorem okc_init (args : Args) : okc (.builtin "bytearray.__init__" args) = true := by
  show (!(Builtin.Bytes.decodersThatHold.contains "bytearray.__init__") && !((["bytearray.__contains__", "bytearray.__mod__", "bytearray.__rmod__", "_struct.pack_into.held", "bytearray.find.held"] : List String).contains "bytearray.__init__")) = true
  decide +kernel
set_option maxHeartbeats 1000000 in
theorem ba_make {n : Nat} {t : Tok} {Q : Value → Shared → Prop} (hn : n ≤ sizeLine)
    (h : ∀ h', (∀ b o, s.heap.get? b = some o → h'.get? b = some o) → h'.get? s.heap.objs.size = some { cls := .type "bytearray", data := .bytearray (Array.replicate n 0) } → Q (.ref s.heap.objs.size) { s with heap := h' }) :
    wpC (model prog w) A (call (.type "bytearray") [.int n t]) Q E s := by
  refine wpC_call (codeC_of_tree rfl ?_)
  show wpC _ _ (callAny (.type "bytearray") _) _ _ _
  refine wpC_pure ⟨Code.quiet_builtin _ (by decide +kernel), wpC_builtin (okc_type_call _) F.entry_type_call ?_⟩
  rw [Around.under_plain (weight_type_call_type "bytearray" [.int n t] []) rfl]
  unfold Builtin.«type.__call__»
  dsimp only
  with_reducible refine wpC_if_false FB.called.notType ?_
  with_reducible refine wpC_if_false FB.called.canCreate ?_
  with_reducible refine wpC_then ?_
  with_reducible refine wpAny_of_eq (FB.typeCall _) ?_
  with_reducible refine wpC_then ?_
  with_reducible refine wpAny_of_eq FB.mro ?_
  with_reducible refine wpC_if_false rfl ?_
  with_reducible refine wpC_then ?_
  with_reducible refine wpAny_of_eq FB.called.made ?_
  dsimp only
  with_reducible refine wpC_bind ?_
  with_reducible refine wpC_pure ?_
  with_reducible refine wpC_then ?_
  with_reducible refine wpAny_holding ?_
  refine wpAny_call (codeAny_mono (code_ba_new (E := E) (.int n t) (Q₁ := fun obj s₁ => obj = .ref s.heap.objs.size ∧ s₁ = { s with heap := s.heap.push { cls := .type "bytearray", data := .bytearray #[] } }) ⟨rfl, rfl⟩) fun r s₁ hr => ?_)
  cases r with
  | error e => exact hr
  | ok fl =>
    cases fl with
    | ret obj =>
      obtain ⟨rfl, rfl⟩ := hr
      have hS : (s.heap.push { cls := .type "bytearray", data := .bytearray #[] }).get? s.heap.objs.size = some { cls := .type "bytearray", data := .bytearray #[] } := Heap.get?_push_size _ rfl
      have hT : ({ s with heap := s.heap.push { cls := .type "bytearray", data := .bytearray #[] } } : Shared).TypeIs (.ref s.heap.objs.size) "bytearray" := ⟨_, hS, rfl⟩
      dsimp only
      with_reducible refine wpC_then ?_
      with_reducible refine wpAny_isInstance hT FB.sub_self ?_
      with_reducible refine wpC_if_false rfl ?_
      with_reducible refine wpC_bind ?_
      with_reducible refine wpC_holding ?_
      unfold callSpecial?
      with_reducible refine wpC_then ?_
      with_reducible refine wpAny_specialOf hT FB.slot_init.lookup ?_
      dsimp only
      with_reducible refine wpC_holding ?_
      with_reducible refine wpC_then ?_
      with_reducible refine wpAny_of_eq (FB.slot_init.bind _) ?_
      dsimp only
      with_reducible refine wpC_bind ?_
      refine wpC_call (wpC_call_builtin (okc_init _) FB.plain_init FB.entry_init (FB.slot_init.check _ _ _ _ _ _ _ _ hT (FB.args_init _ _) ?_))
      refine ba_init hn hS fun h' k' hS' => ?_
      dsimp only
      with_reducible refine wpC_pure ?_
      dsimp only
      with_reducible refine wpC_if_false rfl ?_
      refine wpC_pure ?_
      exact h h' (fun b o e => k' b o (Nat.ne_of_lt (Heap.lt_size e)) (Heap.get?_push_of_some _ e)) hS'
    | _ => exact hr.elim
end
end Mine
end

section
open PySem PySem.W PyProof.Rows PySem.Calls
set_option maxRecDepth 100000
namespace Mine
section
variable {prog : Program} {w : World} {A : Around} {E : Value → Shared → Prop} {s : Shared}
theorem ba_payload {S : Addr} {b : Array UInt8} {Q : Array UInt8 → Shared → Prop} (hS : s.heap.get? S = some { cls := .type "bytearray", data := .bytearray b }) (h : Q b s) : wpAny (model prog w) A (Builtin.Bytes.payload (.ref S)) Q E s := by
  unfold Builtin.Bytes.payload Builtin.Bytes.payload?
  refine wpAny_bind (wpAny_bind (wpAny_load hS ?_))
  exact wpAny_pure (wpAny_pure h)
set_option maxHeartbeats 1000000 in
theorem ba_setItem {S : Addr} {b : Array UInt8} {k v : Int} {u t : Tok} {Q : Unit → Shared → Prop} (hS : s.heap.get? S = some { cls := .type "bytearray", data := .bytearray b }) (h0 : 0 ≤ k) (hk : k < b.size) (hz : b.size ≤ sizeLine) (hv0 : 0 ≤ v) (hv : v < 256)
    (h : ∀ h', (∀ x o, x ≠ S → s.heap.get? x = some o → h'.get? x = some o) → h'.get? S = some { cls := .type "bytearray", data := .bytearray (b.setIfInBounds k.toNat v.toNat.toUInt8) } → Q () { s with heap := h' }) :
    wpAny (model prog w) A (setItem (.ref S) (.int k u) (.int v t)) Q E s := by
  have hz1 : sizeLine = 16777216 := by decide
  have hT : s.TypeIs (.ref S) "bytearray" := ⟨_, hS, rfl⟩
  have e1 : asIndex (.int k u) = pure k := rfl
  have e2 : asIndex (.int v t) = pure v := rfl
  unfold setItem
  with_reducible refine wpAny_holding ?_
  refine wpAny_bind (wpAny_sequenceKey hT (by decide) ?_)
  refine wpAny_bind (wpAny_callSpecial?_slot (name := Str.ofString "__setitem__") hT FB.slot_setitem (wpAny_call_entry FB.slot_setitem hT FB.entry_setitem ?_ (FB.args_setitem _ _ _)))
  unfold Builtin.«bytearray.__setitem__»
  dsimp only
  with_reducible refine bm_if_false rfl ?_
  with_reducible refine wpAny_bind ?_
  unfold Builtin.Bytes.subscript?
  with_reducible refine wpAny_bind ?_
  with_reducible refine wpAny_specialOf (typeIs_int _ _ _) F.slot_int_index.lookup ?_
  with_reducible refine bm_if_false rfl ?_
  with_reducible refine wpAny_bind ?_
  with_reducible refine wpAny_of_eq e1 ?_
  with_reducible refine bm_if_false ?_ ?_
  · simp [Builtin.Bytes.fitsIndex]; omega
  with_reducible refine wpAny_pure ?_
  dsimp only
  with_reducible refine wpAny_bind ?_
  unfold Builtin.Bytes.byteValue
  with_reducible refine wpAny_bind ?_
  with_reducible refine wpAny_of_eq e2 ?_
  with_reducible refine bm_if_false (by simp; omega) ?_
  with_reducible refine wpAny_pure ?_
  with_reducible refine wpAny_bind ?_
  with_reducible refine ba_payload hS ?_
  rw [seqIndex_of h0 hk]
  dsimp only
  with_reducible refine wpAny_bind ?_
  refine wpAny_ba_write hS (b' := b.setIfInBounds k.toNat v.toNat.toUInt8) rfl (by simpa using hz) fun h₁ k₁ hS₁ => ?_
  refine wpAny_pure ?_
  exact ⟨_, rfl, wpAny_pure (h h₁ k₁ hS₁)⟩

set_option maxHeartbeats 1000000 in
theorem bytes_new_ba {S : Addr} {b : Array UInt8} {Q : Value → Shared → Prop} (hS : s.heap.get? S = some { cls := .type "bytearray", data := .bytearray b }) (hz : b.size ≤ sizeLine)
    (hQ : ∀ t k, Q (.bytes b t) { s with toks := k }) :
    codeAny (model prog w) A (.call (.builtin "bytes.__new__") ⟨[.type "bytes", .ref S], []⟩) (wants Q E) s := by
  refine codeAny_of_tree ?_
  show wpAny _ A.in1 (do checkBuiltinCall "bytes.__new__" ⟨[.type "bytes", .ref S], []⟩; again (.builtin "bytes.__new__" ⟨[.type "bytes", .ref S], []⟩)) _ _ s
  refine wpAny_bind (wpAny_of_eq (F.bm_newCall _) (wpAny_pure ⟨plainId_quiet F.bm_plain _, codeAny_builtin F.bm_entry ?_⟩))
  rw [Around.under_plainId F.bm_plain _]
  have hT : s.TypeIs (.ref S) "bytearray" := ⟨_, hS, rfl⟩
  unfold Builtin.«bytes.__new__»
  refine wpAny_bind (wpAny_of_eq (a := true) rfl ?_)
  refine bm_if_false rfl ?_
  refine wpAny_bind (wpAny_of_eq F.bm_sub ?_)
  refine bm_if_false rfl ?_
  refine wpAny_bind (wpAny_of_eq (F.bm_bind _) ?_)
  refine wpAny_bind (wpAny_of_eq (a := ()) rfl ?_)
  refine wpAny_bind (wpAny_of_eq (a := ()) rfl ?_)
  refine bm_if_false rfl ?_
  refine wpAny_bind (wpAny_specialOf hT FB.lacks_bytes ?_)
  refine wpAny_bind (wpAny_bind ?_)
  show wpAny _ _ (load S >>= _) _ _ _
  refine wpAny_bind (wpAny_load hS ?_)
  refine wpAny_pure (wpAny_pure ?_)
  refine bm_if_false rfl ?_
  refine wpAny_bind (wpAny_specialOf hT FB.lacks_index ?_)
  refine bm_if_true rfl ?_
  first
    | show wpAny _ _ (Builtin.Bytes.buffer? "bytes.__new__" (.ref S) true >>= _) _ _ _
    | (refine wpAny_bind ?_; show wpAny _ _ (Builtin.Bytes.buffer? "bytes.__new__" (.ref S) true >>= _) _ _ _)
  refine wpAny_bind ?_
  unfold Builtin.Bytes.buffer?
  refine wpAny_bind (wpAny_specialOf hT FB.lookup_buffer ?_)
  dsimp only
  with_reducible refine wpAny_bind ?_
  with_reducible refine wpAny_own hT FB.lookup_buffer FB.ends_buffer FB.drop_buffer ?_
  with_reducible refine bm_if_false rfl ?_
  with_reducible refine wpAny_bind ?_
  with_reducible refine wpAny_specialOf hT FB.lookup_buffer ?_
  show wpAny _ _ (Builtin.Bytes.ownRelease (.ref S) >>= _) _ _ _
  with_reducible refine wpAny_bind ?_
  with_reducible refine wpAny_ownRelease hT ?_
  with_reducible refine bm_if_false rfl ?_
  with_reducible refine wpAny_bind ?_
  with_reducible refine ba_payload hS ?_
  with_reducible refine wpAny_pure ?_
  dsimp only
  refine wpAny_bind (wpAny_rule ?_)
  refine wpAny_bind (wpAny_mkBytes ?_ hz)
  show wpAny _ _ (if (Value.type "bytes" == Value.type "bytes") = true then _ else _) _ _ _
  refine bm_if_true (by decide) ?_
  first
    | exact wpAny_pure (hQ _ _)
    | exact wpAny_bind (wpAny_pure (wpAny_pure (hQ _ _)))
theorem bytes_of_ba {S : Addr} {b : Array UInt8} {Q : Value → Shared → Prop} (hS : s.heap.get? S = some { cls := .type "bytearray", data := .bytearray b }) (hz : b.size ≤ sizeLine)
    (hQ : ∀ t k, Q (.bytes b t) { s with toks := k }) : wpAny (model prog w) A (call (.type "bytes") [.ref S]) Q E s := by
  refine callType_codes (Q₁ := fun obj s₁ => s₁.TypeIs obj "bytes" ∧ Q obj s₁) F.bm_called (F.bm_typeCall _) F.entry_object_init
    (bytes_new_ba hS hz fun t k => ⟨PySem.W.typeIs_bytes _ _ _, hQ t k⟩) fun obj s₁ h₁ => ?_
  exact ⟨h₁.1, F.args_object_init_2 obj _, object_init_meets F.bm_called.init.lookup F.bm_called.made (by decide) prog w A.in1 _ s₁ ⟨h₁.1, rfl, h₁.2⟩⟩
end
end Mine
end

section
open PySem PySem.W PyProof.Rows PySem.Calls
set_option maxRecDepth 100000
namespace Mine
/-- a turn's end -/
def TurnEnd (g : Heap) (L I : Addr) (o : Obj) (fix : List (Addr × Obj)) (Jn : (Str → Option Value) → List (Addr × Obj) → Prop) (s : Shared) (f : Flow) (s₂ : Shared) : Prop :=
  f = .next ∧ ∃ h' tk m₂ news₂, s₂ = { s with heap := h', toks := tk } ∧ Fr g L h' m₂ ∧ News g L h' ((I, o) :: (news₂ ++ fix)) ∧ (∀ p ∈ news₂, p.1 ≠ I) ∧ Jn m₂ news₂
section
variable {prog : Program} {w : World} {A : Around} {E : Value → Shared → Prop} {s : Shared} {env : Env} {g : Heap} {x : Str} {body : List Stmt} {Q : Flow → Shared → Prop}
theorem loopU {L I : Addr} {fp : List Addr} {n : Nat} {P : Nat → Value → Prop} {St : Nat → Heap → Prop} {obj : Nat → Obj} {m : Str → Option Value} {news fix : List (Addr × Obj)}
    (hL : env.locals = L) (W : Walks prog w A I fp [I] n P St) (hobj : ∀ i h, St i h → h.get? I = some (obj i)) (hfp : ∀ b ∈ fp, b = I ∨ (∃ o, g.get? b = some o) ∨ ∃ o, (b, o) ∈ fix)
    (hLf : L ∉ fp) (hI : g.get? I = none) (hst : St 0 s.heap) (F : Fr g L s.heap m) (N : News g L s.heap (news ++ fix)) (hnI : ∀ p ∈ news ++ fix, p.1 ≠ I)
    (J : Nat → (Str → Option Value) → List (Addr × Obj) → Prop) (h0 : J 0 m news)
    (step : ∀ i v m₁ news₁ h gs dr tk os, i < n → P i v → J i m₁ news₁ → (∀ p ∈ news₁, p.1 ≠ I) → Fr g L h (fun y => if y = x then some v else m₁ y) → News g L h ((I, obj (i + 1)) :: (news₁ ++ fix)) →
      wpAny (model prog w) A (execs body env) (TurnEnd g L I (obj (i + 1)) fix (J (i + 1)) ⟨h, gs, dr, tk, os⟩) E ⟨h, gs, dr, tk, os⟩)
    (done : ∀ h' tk m' news', Fr g L h' m' → News g L h' (news' ++ fix) → J n m' news' → Q .next { s with heap := h', toks := tk }) :
    LoopAtU prog w A g env x body Q E (.ref I) s := by
  subst hL
  refine ⟨I, fp, [I], n, P, St, m, news ++ fix, fun i m₁ ns => ∃ n₁, ns = n₁ ++ fix ∧ (∀ p ∈ n₁, p.1 ≠ I) ∧ J i m₁ n₁, rfl, W, hLf, ?_, ?_, hst, F, N, ⟨news, rfl, fun p hp => hnI p (List.mem_append_left _ hp), h0⟩, ?_, ?_⟩
  · intro b hb; rw [List.mem_singleton.mp hb]; exact hI
  · intro p hp hb; exact hnI p hp (List.mem_singleton.mp hb)
  · rintro i v m₁ ns s₁ own hi hP ⟨n₁, rfl, hn₁, hJ⟩ hoff hown hget hall hst₁ F₁ N₁
    obtain ⟨h, gs, dr, tk, os⟩ := s₁
    have ho := hobj _ _ hst₁
    have hIown : (I, obj (i + 1)) ∈ own := hall I (W.sub I (List.mem_singleton.mpr rfl)) hI _ ho
    have N₂ : News g env.locals h ((I, obj (i + 1)) :: (n₁ ++ fix)) := fun p hp => by
      rcases List.mem_cons.mp hp with rfl | hp
      · exact N₁ _ (List.mem_append_left _ hIown)
      · exact N₁ p (List.mem_append_right _ hp)
    refine wpAny_mono (step i v m₁ n₁ h gs dr tk os hi hP hJ hn₁ F₁ N₂) (fun f s₂ h₂ => ?_) fun _ _ e => e
    obtain ⟨rfl, h', tk', m₂, n₂, rfl, F', N', hn₂, hJ'⟩ := h₂
    refine LoopStepU.intro (news₂ := n₂ ++ fix) F' (fun p hp => ?_) (fun p hp hb => ?_) ⟨n₂, rfl, hn₂, hJ'⟩
    · rcases List.mem_append.mp hp with hp | hp
      · rcases hfp _ (hown p hp) with e | ⟨o, e⟩ | ⟨o, e⟩
        · have hg := hget p hp
          rw [e] at hg
          have : p.2 = obj (i + 1) := by
            have hg' : h.get? I = some p.2 := hg
            rw [ho] at hg'; exact (Option.some.inj hg').symm
          have : p = (I, obj (i + 1)) := by rw [← e, ← this]
          rw [this]; exact N' _ (List.mem_cons_self ..)
        · have := (N₁ p (List.mem_append_left _ hp)).2.2
          rw [e] at this; cases this
        · have hg := hget p hp
          have hg2 := (N₁ _ (List.mem_append_right own (List.mem_append_right n₁ e))).1
          have : p.2 = o := by
            have hg' : h.get? p.1 = some p.2 := hg
            have hg3 : h.get? p.1 = some o := hg2
            rw [hg3] at hg'; exact (Option.some.inj hg').symm
          have : p = (p.1, o) := by rw [← this]
          rw [this]; exact N' _ (List.mem_cons_of_mem _ (List.mem_append_right _ e))
      · exact N' p (List.mem_cons_of_mem _ hp)
    · have hb' := List.mem_singleton.mp hb
      rcases List.mem_append.mp hp with hp | hp
      · exact hn₂ p hp hb'
      · exact hoff p (List.mem_append_right _ hp) hb
  · rintro h' tk m' ns F' N' _ ⟨n₁, rfl, _, hJ⟩
    exact done h' tk m' n₁ F' N' hJ
/-- the iterator of a range -/
abbrev rangeIterObj (a left c : Int) : Obj := { cls := .type "range_iterator", data := .fields #[rawInt a, rawInt left, rawInt c] }
theorem iter_range {L r : Addr} {a b c : Int} {t u v : Tok} {n : Nat} {m : Str → Option Value} {news fix : List (Addr × Obj)} (hL : env.locals = L) (hh : A.handled = none)
    (hr : IsRange s.heap r a b c t u v) (hsmall : Builtin.Range.small a b c = true) (hn : Builtin.Range.rangeSize a b c = n)
    (F : Fr g L s.heap m) (N : News g L s.heap (news ++ fix)) (J : Nat → (Str → Option Value) → List (Addr × Obj) → Prop) (h0 : J 0 m news)
    (step : ∀ i ti m₁ news₁ I h gs dr tk os, i < n → J i m₁ news₁ → (∀ p ∈ news ++ fix, p.1 < I) → (∀ p ∈ news₁, p.1 ≠ I) → Fr g L h (fun y => if y = x then some (.int (a + i * c) ti) else m₁ y) →
      News g L h ((I, rangeIterObj (a + ((i + 1 : Nat) : Int) * c) ((n : Int) - ((i + 1 : Nat) : Int)) c) :: (news₁ ++ fix)) →
      wpAny (model prog w) A (execs body env) (TurnEnd g L I (rangeIterObj (a + ((i + 1 : Nat) : Int) * c) ((n : Int) - ((i + 1 : Nat) : Int)) c) fix (J (i + 1)) ⟨h, gs, dr, tk, os⟩) E ⟨h, gs, dr, tk, os⟩)
    (done : ∀ h' tk m' news', Fr g L h' m' → News g L h' (news' ++ fix) → J n m' news' → Q .next { s with heap := h', toks := tk }) :
    wpAny (model prog w) A (pyIter (.ref r)) (fun it s₂ => LoopAtU prog w A g env x body Q E it s₂) E s := by
  subst hL
  refine wpAny_pyIter_range hr hsmall ?_
  rw [hn]
  have hL : env.locals < s.heap.objs.size := F.ns.lt
  have hlt : ∀ p ∈ news ++ fix, p.1 < s.heap.objs.size := fun p hp => Heap.lt_size (N p hp).1
  refine loopU rfl (fix := fix) (news := news) (I := s.heap.objs.size) (s := { s with heap := s.heap.push (rangeIterObj a n c) }) (Walks.range hh s.heap.objs.size a c n) (obj := fun i => rangeIterObj (a + (i : Nat) * c) ((n : Int) - (i : Nat)) c) (fun i h st => st) ?_ ?_ ?_ ?_ (F.push _) ?_ ?_ J h0 ?_ ?_
  · intro b hb; exact .inl (List.mem_singleton.mp hb)
  · intro hb; exact absurd (List.mem_singleton.mp hb) (Nat.ne_of_lt hL)
  · cases hq : g.get? s.heap.objs.size with
    | none => rfl
    | some o => exact absurd (Heap.lt_size (F.keep _ _ hq)) (Nat.lt_irrefl _)
  · show (s.heap.push (rangeIterObj a n c)).get? s.heap.objs.size = some (rangeIterObj (a + ((0 : Nat) : Int) * c) ((n : Int) - ((0 : Nat) : Int)) c)
    rw [Heap.get?_push_size _ rfl]
    simp
  · exact fun p hp => ⟨Heap.get?_push_of_some _ (N p hp).1, (N p hp).2⟩
  · exact fun p hp => Nat.ne_of_lt (hlt p hp)
  · rintro i v m₁ news₁ h gs dr tk os hi ⟨ti, rfl⟩ hJ hn₁ F₁ N₁
    exact step i ti m₁ news₁ _ h gs dr tk os hi hJ hlt hn₁ F₁ N₁
  · intro h' tk m' news' F' N' hJ
    exact done h' tk m' news' F' N' hJ
theorem iter_rangeV {L r : Addr} {a b c : Int} {t u v : Tok} {n : Nat} {m : Str → Option Value} {news fix : List (Addr × Obj)} (hL : env.locals = L) (hh : A.handled = none)
    (hr : IsRange s.heap r a b c t u v) (hsmall : Builtin.Range.small a b c = true) (hn : Builtin.Range.rangeSize a b c = n)
    (F : Fr g L s.heap m) (N : News g L s.heap (news ++ fix)) (J : Nat → (Str → Option Value) → List (Addr × Obj) → Prop) (h0 : J 0 m news)
    (step : ∀ i ti m₁ news₁ I h gs dr tk os, i < n → J i m₁ news₁ → (∀ p ∈ news ++ fix, p.1 < I) → (∀ p ∈ news₁, p.1 ≠ I) → Fr g L h (fun y => if y = x then some (.int (a + i * c) ti) else m₁ y) →
      News g L h ((I, rangeIterObj (a + ((i + 1 : Nat) : Int) * c) ((n : Int) - ((i + 1 : Nat) : Int)) c) :: (news₁ ++ fix)) →
      wpAny (model prog w) A (execs body env) (TurnEnd g L I (rangeIterObj (a + ((i + 1 : Nat) : Int) * c) ((n : Int) - ((i + 1 : Nat) : Int)) c) fix (J (i + 1)) ⟨h, gs, dr, tk, os⟩) E ⟨h, gs, dr, tk, os⟩)
    (done : ∀ h' tk m' news', Fr g L h' m' → News g L h' (news' ++ fix) → J n m' news' → Q .next { s with heap := h', toks := tk }) :
    wpAny (model prog w) A (pyIter (.ref r)) (fun it s₂ => LoopAtV prog w A g env x body Q E it s₂) E s :=
  wpAny_mono (iter_range hL hh hr hsmall hn F N J h0 step done) (fun _ _ h => LoopAtU.toV h) fun _ _ h => h
theorem loopG {L I : Addr} {fp : List Addr} {n : Nat} {P : Nat → Value → Prop} {St : Nat → Heap → Prop} {m : Str → Option Value} {news fix : List (Addr × Obj)}
    (hL : env.locals = L) (W : Walks prog w A I fp [I] n P St) (hobj : ∀ i h, St i h → ∃ o, h.get? I = some o) (hfp : ∀ b ∈ fp, b = I ∨ (∃ o, g.get? b = some o) ∨ ∃ o, (b, o) ∈ fix)
    (hLf : L ∉ fp) (hI : g.get? I = none) (hst : St 0 s.heap) (F : Fr g L s.heap m) (N : News g L s.heap (news ++ fix)) (hnI : ∀ p ∈ news ++ fix, p.1 ≠ I)
    (J : Nat → (Str → Option Value) → List (Addr × Obj) → Prop) (h0 : J 0 m news)
    (step : ∀ i v m₁ news₁ oI h gs dr tk os, i < n → P i v → J i m₁ news₁ → (∀ p ∈ news₁, p.1 ≠ I) → Fr g L h (fun y => if y = x then some v else m₁ y) → News g L h ((I, oI) :: (news₁ ++ fix)) →
      wpAny (model prog w) A (execs body env) (TurnEnd g L I oI fix (J (i + 1)) ⟨h, gs, dr, tk, os⟩) E ⟨h, gs, dr, tk, os⟩)
    (done : ∀ h' tk m' news', Fr g L h' m' → News g L h' (news' ++ fix) → J n m' news' → Q .next { s with heap := h', toks := tk }) :
    LoopAtU prog w A g env x body Q E (.ref I) s := by
  subst hL
  refine ⟨I, fp, [I], n, P, St, m, news ++ fix, fun i m₁ ns => ∃ n₁, ns = n₁ ++ fix ∧ (∀ p ∈ n₁, p.1 ≠ I) ∧ J i m₁ n₁, rfl, W, hLf, ?_, ?_, hst, F, N, ⟨news, rfl, fun p hp => hnI p (List.mem_append_left _ hp), h0⟩, ?_, ?_⟩
  · intro b hb; rw [List.mem_singleton.mp hb]; exact hI
  · intro p hp hb; exact hnI p hp (List.mem_singleton.mp hb)
  · rintro i v m₁ ns s₁ own hi hP ⟨n₁, rfl, hn₁, hJ⟩ hoff hown hget hall hst₁ F₁ N₁
    obtain ⟨h, gs, dr, tk, os⟩ := s₁
    obtain ⟨oI, ho⟩ := hobj _ _ hst₁
    have hIown : (I, oI) ∈ own := hall I (W.sub I (List.mem_singleton.mpr rfl)) hI _ ho
    have N₂ : News g env.locals h ((I, oI) :: (n₁ ++ fix)) := fun p hp => by
      rcases List.mem_cons.mp hp with rfl | hp
      · exact N₁ _ (List.mem_append_left _ hIown)
      · exact N₁ p (List.mem_append_right _ hp)
    refine wpAny_mono (step i v m₁ n₁ oI h gs dr tk os hi hP hJ hn₁ F₁ N₂) (fun f s₂ h₂ => ?_) fun _ _ e => e
    obtain ⟨rfl, h', tk', m₂, n₂, rfl, F', N', hn₂, hJ'⟩ := h₂
    refine LoopStepU.intro (news₂ := n₂ ++ fix) F' (fun p hp => ?_) (fun p hp hb => ?_) ⟨n₂, rfl, hn₂, hJ'⟩
    · rcases List.mem_append.mp hp with hp | hp
      · rcases hfp _ (hown p hp) with e | ⟨o, e⟩ | ⟨o, e⟩
        · have hg := hget p hp
          rw [e] at hg
          have : p.2 = oI := by
            have hg' : h.get? I = some p.2 := hg
            rw [ho] at hg'; exact (Option.some.inj hg').symm
          have : p = (I, oI) := by rw [← e, ← this]
          rw [this]; exact N' _ (List.mem_cons_self ..)
        · have := (N₁ p (List.mem_append_left _ hp)).2.2
          rw [e] at this; cases this
        · have hg := hget p hp
          have hg2 := (N₁ _ (List.mem_append_right own (List.mem_append_right n₁ e))).1
          have : p.2 = o := by
            have hg' : h.get? p.1 = some p.2 := hg
            have hg3 : h.get? p.1 = some o := hg2
            rw [hg3] at hg'; exact (Option.some.inj hg').symm
          have : p = (p.1, o) := by rw [← this]
          rw [this]; exact N' _ (List.mem_cons_of_mem _ (List.mem_append_right _ e))
      · exact N' p (List.mem_cons_of_mem _ hp)
    · have hb' := List.mem_singleton.mp hb
      rcases List.mem_append.mp hp with hp | hp
      · exact hn₂ p hp hb'
      · exact hoff p (List.mem_append_right _ hp) hb
  · rintro h' tk m' ns F' N' _ ⟨n₁, rfl, _, hJ⟩
    exact done h' tk m' n₁ F' N' hJ
theorem iter_list {L ax : Addr} {items : Array Value} {nn : Nat} {m : Str → Option Value} {news fix : List (Addr × Obj)} (hL : env.locals = L) (hh : A.handled = none)
    (hm : (ax, ({ cls := .type "list", data := .seq items nn } : Obj)) ∈ fix)
    (F : Fr g L s.heap m) (N : News g L s.heap (news ++ fix)) (J : Nat → (Str → Option Value) → List (Addr × Obj) → Prop) (h0 : J 0 m news)
    (step : ∀ i v m₁ news₁ I oI h gs dr tk os, items[i]? = some v → J i m₁ news₁ → (∀ p ∈ news ++ fix, p.1 < I) → (∀ p ∈ news₁, p.1 ≠ I) → Fr g L h (fun y => if y = x then some v else m₁ y) →
      News g L h ((I, oI) :: (news₁ ++ fix)) →
      wpAny (model prog w) A (execs body env) (TurnEnd g L I oI fix (J (i + 1)) ⟨h, gs, dr, tk, os⟩) E ⟨h, gs, dr, tk, os⟩)
    (done : ∀ h' tk m' news', Fr g L h' m' → News g L h' (news' ++ fix) → J items.size m' news' → Q .next { s with heap := h', toks := tk }) :
    wpAny (model prog w) A (pyIter (.ref ax)) (fun it s₂ => LoopAtU prog w A g env x body Q E it s₂) E s := by
  subst hL
  have hax := N _ (List.mem_append_right news hm)
  have hl : s.heap.IsList ax items := ⟨_, hax.1, rfl, nn, rfl⟩
  have hlt : ∀ p ∈ news ++ fix, p.1 < s.heap.objs.size := fun p hp => Heap.lt_size (N p hp).1
  have hL : env.locals < s.heap.objs.size := F.ns.lt
  have hne : ax ≠ s.heap.objs.size := Nat.ne_of_lt (Heap.lt_size hax.1)
  refine wpAny_pyIter_list hl ?_
  refine loopG rfl (fix := fix) (news := news) (I := s.heap.objs.size) (s := { s with heap := s.heap.push { cls := .type "list_iterator", data := .fields #[.ref ax, .int 0 0] } }) (Walks.list hh s.heap.objs.size ax hne items) (fun i h st => let ⟨o, ho, _⟩ := st.1; ⟨o, ho⟩) ?_ ?_ ?_ ?_ (F.push _) ?_ ?_ J h0 ?_ ?_
  · intro b hb
    rcases List.mem_cons.mp hb with rfl | hb
    · exact .inl rfl
    · rw [List.mem_singleton.mp hb]; exact .inr (.inr ⟨_, hm⟩)
  · intro hb
    rcases List.mem_cons.mp hb with e | hb
    · exact absurd e (Nat.ne_of_lt hL)
    · have e := List.mem_singleton.mp hb
      exact hax.2.1 e.symm
  · cases hq : g.get? s.heap.objs.size with
    | none => rfl
    | some o => exact absurd (Heap.lt_size (F.keep _ _ hq)) (Nat.lt_irrefl _)
  · exact ⟨⟨_, Heap.get?_push_size _ rfl, rfl, rfl⟩, hl.push _⟩
  · exact fun p hp => ⟨Heap.get?_push_of_some _ (N p hp).1, (N p hp).2⟩
  · exact fun p hp => Nat.ne_of_lt (hlt p hp)
  · intro i v m₁ news₁ oI h gs dr tk os hi hP hJ hn₁ F₁ N₁
    exact step i v m₁ news₁ _ oI h gs dr tk os hP hJ hlt hn₁ F₁ N₁
  · intro h' tk m' news' F' N' hJ
    exact done h' tk m' news' F' N' hJ
theorem iter_str {L : Addr} {z : Str} {t : Tok} {m : Str → Option Value} {news fix : List (Addr × Obj)} (hL : env.locals = L) (hh : A.handled = none)
    (F : Fr g L s.heap m) (N : News g L s.heap (news ++ fix)) (J : Nat → (Str → Option Value) → List (Addr × Obj) → Prop) (h0 : J 0 m news)
    (step : ∀ i c u m₁ news₁ I oI h gs dr tk os, z.cps[i]? = some c → J i m₁ news₁ → (∀ p ∈ news ++ fix, p.1 < I) → (∀ p ∈ news₁, p.1 ≠ I) → Fr g L h (fun y => if y = x then some (.str ⟨#[c]⟩ u) else m₁ y) →
      News g L h ((I, oI) :: (news₁ ++ fix)) →
      wpAny (model prog w) A (execs body env) (TurnEnd g L I oI fix (J (i + 1)) ⟨h, gs, dr, tk, os⟩) E ⟨h, gs, dr, tk, os⟩)
    (done : ∀ h' tk m' news', Fr g L h' m' → News g L h' (news' ++ fix) → J z.cps.size m' news' → Q .next { s with heap := h', toks := tk }) :
    wpAny (model prog w) A (pyIter (.str z t)) (fun it s₂ => LoopAtU prog w A g env x body Q E it s₂) E s := by
  subst hL
  have hlt : ∀ p ∈ news ++ fix, p.1 < s.heap.objs.size := fun p hp => Heap.lt_size (N p hp).1
  have hL : env.locals < s.heap.objs.size := F.ns.lt
  have fin : ∀ (o : Obj) (St : Nat → Heap → Prop), Walks prog w A s.heap.objs.size [s.heap.objs.size] [s.heap.objs.size] z.cps.size (SignAt z) St → (∀ i h, St i h → ∃ o, h.get? s.heap.objs.size = some o) → St 0 (s.heap.push o) →
      LoopAtU prog w A g env x body Q E (.ref s.heap.objs.size) { s with heap := s.heap.push o } := by
    intro o St W hobj hst
    refine loopG rfl (fix := fix) (news := news) (I := s.heap.objs.size) (s := { s with heap := s.heap.push o }) W hobj ?_ ?_ ?_ hst (F.push _) ?_ ?_ J h0 ?_ ?_
    · intro b hb; exact .inl (List.mem_singleton.mp hb)
    · intro hb; exact absurd (List.mem_singleton.mp hb) (Nat.ne_of_lt hL)
    · cases hq : g.get? s.heap.objs.size with
      | none => rfl
      | some o => exact absurd (Heap.lt_size (F.keep _ _ hq)) (Nat.lt_irrefl _)
    · exact fun p hp => ⟨Heap.get?_push_of_some _ (N p hp).1, (N p hp).2⟩
    · exact fun p hp => Nat.ne_of_lt (hlt p hp)
    · rintro i v m₁ news₁ oI h gs dr tk os hi ⟨c, u, hc, rfl⟩ hJ hn₁ F₁ N₁
      exact step i c u m₁ news₁ _ oI h gs dr tk os hc hJ hlt hn₁ F₁ N₁
    · intro h' tk m' news' F' N' hJ
      exact done h' tk m' news' F' N' hJ
  cases ha : z.cps.all (· < 128)
  · exact wpAny_pyIter_wide ha (fin _ _ (Walks.strWide hh _ z t) (fun i h st => let ⟨o, ho, _⟩ := st; ⟨o, ho⟩) ⟨_, Heap.get?_push_size _ rfl, rfl, rfl⟩)
  · exact wpAny_pyIter_ascii ha (fin _ _ (Walks.strAscii hh _ z t) (fun i h st => let ⟨o, ho, _⟩ := st; ⟨o, ho⟩) ⟨_, Heap.get?_push_size _ rfl, rfl, rfl⟩)
end
end Mine
end

section
open PySem PySem.W PyProof.Rows PySem.Calls
set_option maxRecDepth 100000
namespace Mine
section
variable {prog : Program} {w : World} {A : Around} {s : Shared} {R : Result → Shared → Prop}
theorem codeC_func {body : List Stmt} {env : Env}
    (h : wpC (model prog w) (A.deeper env) (execs body env) (fun f s' => R (.ok (.ret (match f with | .ret v => v | _ => .none))) s')
      (fun e s' => wpAny (model prog w) (A.deeper env) (leaving env e) (fun _ s'' => R (.error e) s'') (fun e' s'' => R (.error e') s'') s') s) :
    codeC (model prog w) A (.func body env) R s := by
  refine codeC_of_tree rfl ?_
  show wpC _ (A.deeper env) (do point; match ← (execs body env).onRaise (leaving env) with | .ret v => ret v | _ => ret .none) _ _ s
  refine wpC_then (wpAny_point (wpC_bind (wpC_onRaise (wpC_mono h (fun f s' h' => ?_) fun _ _ h' => h'))))
  cases f <;> exact wpC_pure h'
theorem codeC_call_function {a : Addr} {args : Args} {o : Obj} {fd : FuncData} {body : List Stmt} (hroom : A.depth < recursionLimit)
    (ho : s.heap.get? a = some o)
    (hd' : o.data = .func fd) (hco : fd.scope.isCoroutine = false) (hgen : fd.scope.isGenerator = false) (hbody : fd.body = .stmts body) (hcd : s.heap.CodeRec fd.code fd.qualname)
    (h : wpAny (model prog w) A.in1 (bindArgs fd args) (fun binds s₁ =>
      wpAny (model prog w) A.in1 (newFunctionEnv fd.scope fd.globals fd.closure binds (fd.qualname ++ ".<locals>.") (some a) fd.code none fd.builtins)
        (fun env s₂ => s₂.heap.NoLimit ∧ codeC (model prog w) A (.func body env) R s₂) (fun e s' => R (.error e) s') s₁) (fun e s' => R (.error e) s') s) :
    codeC (model prog w) A (.call (.ref a) args) R s := by
  refine codeC_of_tree rfl ?_
  refine wpC_of ?_
  show wpAny _ A.in1 (callAny (.ref a) args) _ _ s
  simp only [callAny]
  refine wpAny_bind (wpAny_load ho ?_)
  obtain ⟨c, oc, vs, tq, hc, hoc, hdc, hq⟩ := hcd
  simp only [hd', callFunction, hco, hgen, hbody, hc]
  rw [hc] at h
  refine wpAny_bind (m := field (.ref c) 1) (wpAny_field hoc hdc hq (wpAny_bind (wpAny_pure ?_)))
  exact wpAny_bind (wpAny_mono h (fun binds s₁ h₁ => wpAny_bind (wpAny_mono h₁ (fun env s₂ h₂ => wpAny_bind (wpAny_enterFrame h₂.1 hroom
    (wpAny_pure (And.intro rfl h₂.2)))) fun _ _ h' => h')) fun _ _ h' => h')
end

/-- a contract for contexts that hold no bytearray open -/
def CtrC (w : World) (lv : Nat) (f : Addr) (vs : List Value) (pre : Heap → Prop) (post : Heap → Heap → Value → Prop) : Prop :=
  ∀ (dp un : Nat) (gd : Option (List Code)) (cn : Str) (cs : Scope) (a : Addr) (ccd : Value) (cl : List (Str × Addr)) (outer : List Env) (A₀ : Around) (base h₀ : Heap) (L : Addr) (m : Str → Option Value) (s : Shared)
    (Q E : Value → Shared → Prop) (mean : ExcName → Option Value) (mg mb : Str → Option Value),
    Below A₀ base outer h₀ → Fr h₀ L s.heap m → (hd.heap_39 w.params).In h₀ → Top hd.view_39 (looseW hd.view_39 []) mean mg mb h₀ → cs.kind = .function → pre s.heap → dp + lv < recursionLimit → un + 30 * lv < cLine →
    (∀ r h' tk', s.heap.StaysIn h' → post s.heap h' r → Q r { s with heap := h', toks := tk' }) →
    wpC (model PySem.Challenge.rw_oc0018_01.row.prog w) (ktrTop dp un gd cn cs L a ccd cl outer) (call (.ref f) vs) Q E s

theorem CtrC.use {w : World} {lv : Nat} {f : Addr} {vs : List Value} {pre : Heap → Prop} {post : Heap → Heap → Value → Prop} (C : CtrC w lv f vs pre post)
    {dp un : Nat} {gd : Option (List Code)} {cn : Str} {cs : Scope} {a : Addr} {ccd : Value} {cl : List (Str × Addr)} {outer : List Env} {A₀ : Around} {base h₀ : Heap} {L : Addr} {m : Str → Option Value} {s : Shared}
    {Q E : Value → Shared → Prop} {mean : ExcName → Option Value} {mg mb : Str → Option Value}
    (B : Below A₀ base outer h₀) (F : Fr h₀ L s.heap m) (X : (hd.heap_39 w.params).In h₀) (T : Top hd.view_39 (looseW hd.view_39 []) mean mg mb h₀) (hk : cs.kind = .function) (hp : pre s.heap) (hdp : dp + lv < recursionLimit) (hun : un + 30 * lv < cLine)
    (h : ∀ r h' tk', s.heap.StaysIn h' → post s.heap h' r → Q r { s with heap := h', toks := tk' }) :
    wpC (model PySem.Challenge.rw_oc0018_01.row.prog w) (ktrTop dp un gd cn cs L a ccd cl outer) (call (.ref f) vs) Q E s := C _ _ _ _ _ _ _ _ _ _ _ _ _ _ _ _ _ _ _ _ B F X T hk hp hdp hun h

section
variable {prog : Program} {w : World} {A A₀ : Around} {s : Shared} {K : Frag} {L : Addr} {h₀ base : Heap} {m mg mb : Str → Option Value} {p : Program} {loose : List Str} {mean : ExcName → Option Value}
theorem enterC {env : Env} {outer : List Env} {R : Result → Shared → Prop} {name qual : Str} {params : Arguments} {body : List Stmt} {scope : Scope} {dV kV doc pm cdv ct oc : Value} {an od : Option Addr} {osl : Array (Option Value)} {f : Addr} {args : Args} {binds : List (Str × Value)}
    (B : Below A₀ base outer h₀) (F : Fr h₀ L s.heap m) (X₀ : K.In h₀) (T : Top p loose mean mg mb h₀) (hA : A.frames = some (env :: outer)) (hf : env.frame = some L) (hke : env.scope.kind = .function)
    (ho : K.lookup f = some ⟨oc, od, .func (fnOf name qual params body scope dV kV doc pm an cdv ct), osl⟩) (hcd : codeIn K cdv qual = true) (hroom : A.depth < recursionLimit)
    (hbind : BindsTo s (fnOf name qual params body scope dV kV doc pm an cdv ct) args binds) (hloc : ∀ y ∈ binds, scope.names.lookup y.1 = some .local)
    (h : ∀ g L' h₁, s.heap = g → Fr g L' h₁ (fun y => binds.reverse.lookup y) → News g L' h₁ [] → Below A base (env :: outer) g → K.In g → Top p loose mean mg mb g →
      wpC (model prog w) (A.deeper (envOf qual scope L' f cdv)) (execs body (envOf qual scope L' f cdv))
        (fun fl s' => R (.ok (.ret (match fl with | .ret v => v | _ => .none))) s')
        (fun e s' => wpAny (model prog w) (A.deeper (envOf qual scope L' f cdv)) (leaving (envOf qual scope L' f cdv) e) (fun _ s'' => R (.error e) s'') (fun e' s'' => R (.error e') s'') s')
        { s with heap := h₁, toks := s.toks + binds.length })
    (hco : scope.isCoroutine = false) (hgen : scope.isGenerator = false) (hk : scope.kind = .function)
    (hcell : ∀ x ∈ scope.names, x.2 ≠ .cell) : codeC (model prog w) A (.call (.ref f) args) R s := by
  have hlim := T.nolimit.keeps F.keep
  refine codeC_call_function (fd := fnOf name qual params body scope dV kV doc pm an cdv ct) hroom ((X₀.keeps F.keep) _ _ ho) rfl hco hgen rfl (codeRec_of (X₀.keeps F.keep) hcd) (hbind _ _ _ _ ?_)
  refine wpAny_newFunctionEnv hcell hloc (fun h₁ hns₀ hsb₀ => ⟨hlim.fresh _ hsb₀, codeC_func ?_⟩) hk
  have hk₁ : ∀ b o, s.heap.get? b = some o → h₁.get? b = some o := fun b o e => hsb₀.extBut b o (Nat.ne_of_lt (Heap.lt_size e)) (Heap.get?_push_of_some _ e)
  have B₁ := pushX B F hf hke
  exact h s.heap s.heap.objs.size h₁ rfl ⟨hns₀, hk₁, Nat.le_refl _⟩ News.nil ⟨hA, B₁.stays, B₁.frames⟩ (X₀.keeps F.keep) (T.keeps F.keep)
end
end Mine
end

section
open PySem PySem.W PyProof.Rows PySem.Calls
set_option maxRecDepth 100000
namespace Mine
section
variable {M : Model} {A : Around} {E : Value → Shared → Prop} {s : Shared} {env : Env}
theorem wpC_execs_cons {st : Stmt} {rest : List Stmt} {Q : Flow → Shared → Prop}
    (h : wpC M A (exec st env) (fun f s' => match f with | .next => wpC M A (execs rest env) Q E s' | f => Q f s') E s) : wpC M A (execs (st :: rest) env) Q E s := fun Γ p hΓ hc => by
  rw [execs_cons, Sem.wp_bind']
  refine Sem.wp_mono M Γ _ (fun f p' s' h' => ?_) (fun _ _ _ h' => h') _ _ (h Γ p hΓ hc)
  cases f <;> first | exact h' Γ p' hΓ hc | exact h'
theorem wpC_Assign_Name {x : Str} {pos' pos : Pos} {value : Expr} {Q : Flow → Shared → Prop}
    (h : wpC M A (eval value env) (fun v s₁ => wpAny M A (storeName env x v) (fun _ => Q .next) E s₁) E s)
    (hs : swapsWith value (some (.Name x pos')) pos.line env = pure false := by rfl) : wpC M A (exec (.Assign [.Name x pos'] value pos) env) Q E s := fun Γ p hΓ hc => by
  simp only [exec_Assign_Name env x pos' value pos hs, Sem.wp_bind', Sem.wp_cmd_standAt, Sem.wp_bindName, Sem.wp_pure']
  exact Sem.wp_mono M Γ _ (fun v _ s₁ h₁ => h₁ Γ _ hΓ) (fun _ _ _ h' => h') _ _ (h Γ _ hΓ hc)
theorem wpC_If {test : Expr} {body orelse : List Stmt} {pos : Pos} {Q : Flow → Shared → Prop}
    (h : wpAny M A (isTrue test env (eval test env)) (fun b s₂ => if b then wpC M A (execs body env) Q E s₂ else wpC M A (execs orelse env) Q E s₂) E s) :
    wpC M A (exec (.If test body orelse pos) env) Q E s := fun Γ p hΓ hc => by
  simp only [exec_If, Sem.wp_bind', Sem.wp_cmd_standAt]
  refine Sem.wp_mono M Γ _ (fun b p₂ s₂ h₂ => ?_) (fun _ _ _ h' => h') _ _ (h Γ _ hΓ)
  cases b <;> exact h₂ Γ p₂ hΓ hc
theorem wpC_Return_some {e : Expr} {pos : Pos} {Q : Flow → Shared → Prop} (h : wpC M A (eval e env) (fun v => Q (.ret v)) E s) :
    wpC M A (exec (.Return (some e) pos) env) Q E s := fun Γ p hΓ hc => by
  simp only [exec_Return_some, Sem.wp_bind', Sem.wp_cmd_standAt, Sem.wp_pure']; exact h Γ _ hΓ hc
theorem wpC_IfExp {test body orelse : Expr} {pos : Pos} {Q : Value → Shared → Prop}
    (h : wpAny M A (isTrue test env (eval test env)) (fun b s₁ => if b then wpC M A (eval body env) Q E s₁ else wpC M A (eval orelse env) Q E s₁) E s) :
    wpC M A (eval (.IfExp test body orelse pos) env) Q E s := by
  rw [arm_eval_IfExp]
  refine wpC_then (wpAny_mono h (fun b s₁ h₁ => ?_) fun _ _ x => x)
  cases b <;> exact h₁
theorem wpC_Compare1 {l r : Expr} {op : CmpOp} {pos : Pos} {Q : Value → Shared → Prop}
    (h : wpC M A (eval l env) (fun a s₁ => wpAny M A (eval r env) (fun b s₂ => wpAny M A (compareOp op a b) Q E s₂) E s₁) E s)
    (hm : behindInMarks op r = false := by with_unfolding_all rfl) : wpC M A (eval (.Compare l [op] [r] pos) env) Q E s := fun Γ p hΓ hc => by
  simp only [eval_Compare1, markedBehindIn_of_false hm, Sem.wp_bind', Sem.wp_holding, Sem.wp_cmd_standAt, Sem.wp_operate]
  exact Sem.wp_mono M Γ _ (fun a p₁ s₁ h₁ => Sem.wp_mono M Γ _ (fun b _ s₂ h₂ => h₂ Γ _ hΓ) (fun _ _ _ h' => h') _ _ (h₁ Γ p₁ hΓ))
    (fun _ _ _ h' => h') _ _ (h Γ p hΓ hc)
theorem wpC_Call {func : Expr} {args : List Expr} {pos : Pos} {Q : Value → Shared → Prop}
    (h : wpAny M A (eval func env) (fun f s₁ => wpC M A (callWith pos f [] (backTo pos (starEach args env)) []) Q E s₁) E s)
    (he : eval (.Call func args [] pos) env = (do callWith pos (← eval func env) [] (backTo pos (starEach args env)) (backToKw pos (keywordEach [] env))) := by rfl) :
    wpC M A (eval (.Call func args [] pos) env) Q E s := by
  rw [he]; exact wpC_then h
theorem wpC_args1 {e : Expr} {pos : Pos} {Q : List Value → Shared → Prop} (h : wpC M A (eval e env) (fun v s₁ => Q [v] s₁) E s)
    (he : starEach [e] env = [(false, eval e env)] := by rfl) : wpC M A (spliced (backTo pos (starEach [e] env))) Q E s := by
  rw [he]
  show wpC M A (eval e env >>= _) Q E s
  exact wpC_bind (wpC_mono h (fun v s₁ h₁ => wpC_then (wpAny_pure (wpC_then (wpAny_holding (wpAny_pure (wpC_pure h₁)))))) fun _ _ x => x)
theorem evalArgs_C {f : Value} {x : Sem Value} {rest : List (Bool × Sem Value)} {Q : Args → Shared → Prop}
    (h : wpC M A (spliced ((false, x) :: rest)) (fun vs s' => Q ⟨vs, []⟩ s') E s) : wpC M A (evalArgs f true ((false, x) :: rest) []) Q E s := by
  unfold evalArgs
  show wpC M A (spliced ((false, x) :: rest) >>= _) Q E s
  refine wpC_bind (wpC_mono h (fun vs s' h' => ?_) fun _ _ x => x)
  refine wpC_holding ?_
  exact wpC_of (wpAny_bind (wpAny_pure (wpAny_bind (wpAny_pure (wpAny_pure h')))))
theorem callWith_C {P : Heap → Prop} {f : Value} {first : List Value} {pos : Pos} {Q : Value → Shared → Prop} {args : List (Bool × Sem Value)} (hplain : args.any (·.1) = false)
    (hk : ∀ h, P h → ∃ k, (k = Keeper.frame ∨ k = Keeper.machine ∨ k = Keeper.boundFrame) ∧ Looks M h (keeperOf f) k)
    (h : wpC M A (evalArgs f true args []) (fun a s₁ => P s₁.heap ∧ wpC M A (call f (first ++ a.pos) a.kw) Q E s₁) E s) : wpC M A (callWith pos f first args []) Q E s := by
  unfold callWith
  refine wpC_bind (wpC_holding (wpC_mono h (fun a s₁ h₁ => wpC_then (wpAny_standAt ?_)) fun _ _ x => x))
  obtain ⟨k, hk', L⟩ := hk _ h₁.1
  simp only [hplain, List.any_nil, Bool.or_false]
  refine wpC_then (L.here ?_)
  have tail : ∀ {t : Sem Value}, wpC M A t Q E s₁ → wpC M A (t >>= fun r => holding [r] point >>= fun _ => pure r) Q E s₁ :=
    fun ht => wpC_bind (wpC_mono ht (fun r s₂ hr => wpC_then (wpAny_holding (wpAny_point (wpC_pure hr)))) fun _ _ x => x)
  have marked (mk : Value) : wpC M A (callMarked mk f (first ++ a.pos) a.kw) Q E s₁ := by unfold callMarked; exact wpC_keep h₁.2
  rcases hk' with rfl | rfl | rfl <;> dsimp only <;> first | exact tail h₁.2 | (split <;> first | exact tail h₁.2 | exact tail (marked _))
theorem callWith_CK {K : Frag} {f : Value} {pos : Pos} {Q : Value → Shared → Prop} {e : Expr} {rest : List Expr} (hk : keepIn K f = true)
    (h : wpC M A (spliced (backTo pos (starEach (e :: rest) env))) (fun vs s₁ => K.In s₁.heap ∧ wpC M A (call f vs) Q E s₁) E s)
    (he : starEach (e :: rest) env = (false, eval e env) :: starEach rest env := by rfl) (hplain : (backTo pos (starEach rest env)).any (·.1) = false := by rfl) :
    wpC M A (callWith pos f [] (backTo pos (starEach (e :: rest) env)) []) Q E s := by
  rw [he] at h ⊢
  exact callWith_C (by show (false || (backTo pos (starEach rest env)).any (·.1)) = false; rw [hplain]; rfl) (keeps_K hk) (evalArgs_C h)
theorem callWith_CT {T : String} {pos : Pos} {Q : Value → Shared → Prop} {e : Expr} {rest : List Expr}
    (h : wpC M A (spliced (backTo pos (starEach (e :: rest) env))) (fun vs s₁ => wpC M A (call (.type T) vs) Q E s₁) E s)
    (he : starEach (e :: rest) env = (false, eval e env) :: starEach rest env := by rfl) (hplain : (backTo pos (starEach rest env)).any (·.1) = false := by rfl) :
    wpC M A (callWith pos (.type T) [] (backTo pos (starEach (e :: rest) env)) []) Q E s := by
  rw [he] at h ⊢
  exact callWith_C (P := fun _ => True) (by show (false || (backTo pos (starEach rest env)).any (·.1)) = false; rw [hplain]; rfl) (fun _ _ => ⟨.machine, .inr (.inl rfl), Looks.of_pure rfl⟩) (evalArgs_C (wpC_mono h (fun _ _ x => ⟨trivial, x⟩) fun _ _ x => x))
end
end Mine
end

section
open PySem PySem.W PyProof.Rows PySem.Calls
namespace Mine
/-! _byteswap -/
theorem frNews {g h h' : Heap} {L S : Addr} {o : Obj} {m : Str → Option Value} {news : List (Addr × Obj)} (F : Fr g L h m) (N : News g L h news) (hS : S = h.objs.size) (k : ∀ b o, h.get? b = some o → h'.get? b = some o) (e : h'.get? S = some o) :
    Fr g L h' m ∧ News g L h' ((S, o) :: news) := by
  subst hS
  refine ⟨F.keeps k, fun p hp => ?_⟩
  rcases List.mem_cons.mp hp with rfl | hp
  · refine ⟨e, Nat.ne_of_gt F.ns.lt, ?_⟩
    cases hq : g.get? h.objs.size with
    | none => rfl
    | some o => exact absurd (Heap.lt_size (F.keep _ _ hq)) (Nat.lt_irrefl _)
  · exact ⟨k _ _ (N p hp).1, (N p hp).2⟩
noncomputable def swap2 : List UInt8 → List UInt8
  | a :: b :: r => b :: a :: swap2 r
  | l => l
abbrev baObj (b : List UInt8) : Obj := { cls := .type "bytearray", data := .bytearray b.toArray }

theorem byte_back (y : UInt8) : ((y.toNat : Nat) : Int).toNat.toUInt8 = y := by simp
theorem setItem_ba_K {prog : Program} {w : World} {A : Around} {E : Value → Shared → Prop} {s : Shared} {g : Heap} {L S : Addr} {m : Str → Option Value} {news news' : List (Addr × Obj)} {b : List UInt8} {k : Int} {u t : Tok} {y : UInt8} {Q : Unit → Shared → Prop}
    (F : Fr g L s.heap m) (N : News g L s.heap news) (U : Upd S (baObj b) (baObj (b.set k.toNat y)) news news') (h0 : 0 ≤ k) (hk : k < (b.length : Int)) (hz : b.length ≤ 16777216)
    (h : ∀ h', Fr g L h' m → News g L h' news' → Q () { s with heap := h' }) : wpAny (model prog w) A (setItem (.ref S) (.int k u) (.int ((y.toNat : Nat) : Int) t)) Q E s := by
  obtain ⟨pre, post, rfl, rfl, a, c⟩ := U.split
  have z := N (S, baObj b) (List.mem_append.mpr (.inr (.head _)))
  refine ba_setItem z.1 h0 (by simpa using hk) (by simpa [sizeLine] using hz) (Int.natCast_nonneg _) (by have := y.toNat_lt; omega) fun h' k' e' => ?_
  have e : (b.toArray.setIfInBounds k.toNat ((y.toNat : Nat) : Int).toNat.toUInt8) = (b.set k.toNat y).toArray := by rw [byte_back]; simp
  rw [e] at e'
  have zS : S ≠ L := z.2.1
  refine h h' ⟨F.ns.at' fun o q => k' _ o (Ne.symm zS) q, fun x o q => k' x o (fun e => ?_) (F.keep x o q), F.above⟩ fun p hp => ?_
  · have := z.2.2; rw [e] at q; rw [this] at q; cases q
  · rcases List.mem_append.mp hp with hp | hp
    · have P := N p (List.mem_append_left _ hp); exact ⟨k' _ _ (a p hp) P.1, P.2⟩
    · rcases List.mem_cons.mp hp with rfl | hp
      · exact ⟨e', z.2⟩
      · have P := N p (List.mem_append_right _ (.tail _ hp)); exact ⟨k' _ _ (c p hp) P.1, P.2⟩
theorem unrEnd_tail {h₀ : Heap} {L I : Addr} {it : Obj} {rest : (Str → Option Value) → List (Addr × Obj) → Prop} {s₁ : Shared} {h' : Heap} {tk : Nat} {m' : Str → Option Value} {news' : List (Addr × Obj)} (F : Fr h₀ L h' m') (N : News h₀ L h' ((I, it) :: news'))
    (off : ∀ p ∈ news', p.1 ≠ I) (r : rest m' news') : UnrEnd h₀ L s₁ I it rest { s₁ with heap := h', toks := tk } := UnrEnd.intro F N news' (fun _ hp => hp) off r
local macro_rules | `(tactic| walk_at "UnrEnd") => `(tactic| (k_here; refine unrEnd_tail (by assumption) (by assumption) (by k_all) ?_))
local macro_rules | `(tactic| walk_at "setItem ref int") => `(tactic| (k_here; (with_reducible show wpAny _ _ (setItem (Value.ref _) (Value.int _ _) (Value.int _ _)) _ _ _); k_dflt (refine' setItem_ba_K ?F ?N ?U ?a ?b ?c ?_; (case F => k_asm); (case N => k_asm); (case U => k_upd); (case a => omega); (case b => ((try simp only [List.length_set]); omega)); (case c => ((try simp only [List.length_set]); omega))); intro h' F' N'; (try k_sweep)))

theorem swap2_append : ∀ (l r : List UInt8) (n : Nat), l.length = 2 * n → swap2 (l ++ r) = swap2 l ++ swap2 r
  | [], _, _, _ => rfl
  | [_], _, n, h => by simp at h; omega
  | a :: b :: l, r, n, h => by
    have h' : l.length = 2 * (n - 1) := by simp at h; omega
    show b :: a :: swap2 (l ++ r) = b :: a :: swap2 l ++ swap2 r
    rw [swap2_append l r (n - 1) h']; rfl
theorem swap2_length : ∀ (l : List UInt8), (swap2 l).length = l.length
  | [] => rfl
  | [_] => rfl
  | a :: b :: l => by show (swap2 l).length + 1 + 1 = l.length + 1 + 1; rw [swap2_length l]
theorem take_two (b : List UInt8) (i : Nat) (h : 2 * i + 1 < b.length) : b.take (2 * (i + 1)) = b.take (2 * i) ++ [b.getD (2 * i) 0, b.getD (2 * i + 1) 0] := by
  have e : 2 * (i + 1) = 2 * i + 1 + 1 := by omega
  have h0 : b[2 * i]? = some (b.getD (2 * i) 0) := by rw [List.getD_eq_getElem?_getD, List.getElem?_eq_getElem (by omega)]; rfl
  have h1 : b[2 * i + 1]? = some (b.getD (2 * i + 1) 0) := by rw [List.getD_eq_getElem?_getD, List.getElem?_eq_getElem h]; rfl
  rw [e, List.take_add_one, List.take_add_one, h1, h0]
  simp only [Option.toList_some, List.append_assoc, List.singleton_append]
theorem set_after (p r : List UInt8) (k j : Nat) (x : UInt8) (h : k = p.length + j) : (p ++ r).set k x = p ++ r.set j x := by
  subst h
  rw [List.set_append_right _ _ (by omega)]
  simp
theorem swap_turn (b : List UInt8) (n i : Nat) (hb : b.length = 2 * n) (hi : i < n) :
    ((swap2 (b.take (2 * i)) ++ List.replicate (2 * (n - i)) 0).set (2 * i + 1) (b.getD (2 * i) 0)).set (2 * i) (b.getD (2 * i + 1) 0) = swap2 (b.take (2 * (i + 1))) ++ List.replicate (2 * (n - (i + 1))) 0 := by
  have hl : (swap2 (b.take (2 * i))).length = 2 * i := by rw [swap2_length, List.length_take]; omega
  have e : 2 * (n - i) = 2 * (n - (i + 1)) + 1 + 1 := by omega
  rw [take_two b i (by omega), swap2_append _ _ i (by rw [List.length_take]; omega), e, List.replicate_succ, List.replicate_succ]
  rw [set_after _ _ (2 * i + 1) 1 _ (by omega), set_after _ _ (2 * i) 0 _ (by omega)]
  simp [swap2]
theorem TurnEnd.intro {g h' : Heap} {L I : Addr} {o : Obj} {fix all news₂ : List (Addr × Obj)} {Jn : (Str → Option Value) → List (Addr × Obj) → Prop} {s : Shared} {tk : Nat} {m₂ : Str → Option Value} (F : Fr g L h' m₂) (N : News g L h' all)
    (hm : ∀ p ∈ (I, o) :: (news₂ ++ fix), p ∈ all) (hn : ∀ p ∈ news₂, p.1 ≠ I) (hJ : Jn m₂ news₂) : TurnEnd g L I o fix Jn s .next { s with heap := h', toks := tk } :=
  ⟨rfl, h', tk, m₂, news₂, rfl, F, fun p hp => N p (hm p hp), hn, hJ⟩
theorem map1 {m m₀ : Str → Option Value} {a : Str} (h : ∀ y, y ≠ a → m y = m₀ y) : ∃ u, m = fun y => if y = a then u else m₀ y :=
  ⟨m a, funext fun y => by by_cases e : y = a <;> simp_all⟩
theorem map2 {m m₀ : Str → Option Value} {a b : Str} (h : ∀ y, y ≠ a → y ≠ b → m y = m₀ y) : ∃ u v, m = fun y => if y = a then u else if y = b then v else m₀ y :=
  ⟨m a, m b, funext fun y => by by_cases e : y = a <;> by_cases e' : y = b <;> simp_all⟩
theorem mapKV {m m₀ : Str → Option Value} {a b c d : Str} {va vb : Value} (ha : m a = some va) (hb : m b = some vb) (h : ∀ y, y ≠ a → y ≠ b → y ≠ c → y ≠ d → m y = m₀ y) :
    ∃ u v, m = fun y => if y = a then some va else if y = b then some vb else if y = c then u else if y = d then v else m₀ y :=
  ⟨m c, m d, funext fun y => by
    by_cases e1 : y = a
    · rw [if_pos e1, e1, ha]
    rw [if_neg e1]
    by_cases e2 : y = b
    · rw [if_pos e2, e2, hb]
    rw [if_neg e2]
    by_cases e3 : y = c
    · rw [if_pos e3, e3]
    rw [if_neg e3]
    by_cases e4 : y = d
    · rw [if_pos e4, e4]
    rw [if_neg e4]
    exact h y e1 e2 e3 e4⟩
theorem small2 {a b : Int} (ha : 0 ≤ a) (ha' : a < 2 ^ 62) (hb : 0 ≤ b) (hb' : b < 2 ^ 62) : Builtin.Range.small a b 2 = true := by
  unfold Builtin.Range.small Builtin.Range.rangeSize
  simp only [Builtin.Range.rangeFitsLong, Bool.and_eq_true, Bool.or_eq_true, decide_eq_true_eq, beq_iff_eq, show ((2 : Int) > 0) by decide, if_true]
  split <;> omega
theorem range2 (n : Nat) : Builtin.Range.rangeSize 0 ((2 * n : Nat) : Int) 2 = (n : Int) := by
  unfold Builtin.Range.rangeSize
  rw [if_pos (by decide)]
  split <;> omega
theorem bytes_ba_K {prog : Program} {w : World} {A : Around} {E : Value → Shared → Prop} {s : Shared} {g : Heap} {L S : Addr} {m : Str → Option Value} {news : List (Addr × Obj)} {b : List UInt8} {Q : Value → Shared → Prop}
    (_F : Fr g L s.heap m) (N : News g L s.heap news) (hm : (S, baObj b) ∈ news) (hz : b.length ≤ 16777216) (h : ∀ t k, Q (.bytes b.toArray t) { s with toks := k }) : wpAny (model prog w) A (call (.type "bytes") [.ref S]) Q E s :=
  bytes_of_ba (N _ hm).1 (by simpa [sizeLine] using hz) h
local macro_rules | `(tactic| walk_at "call type:bytes") => `(tactic| (k_here; (with_reducible show wpAny _ _ (call (Value.type "bytes") [Value.ref _]) _ _ _); k_dflt (refine' bytes_ba_K ?F ?N ?m ?z ?_; (case F => k_asm); (case N => k_asm); (case m => k_mem); (case z => ((try simp only [swap2_length]); omega))); intro t' k'))

set_option maxRecDepth 100000 in
set_option maxHeartbeats 8000000 in
theorem byteswap (w : World) (b : List UInt8) (n : Nat) (hb : b.length = 2 * n) (hn : n ≤ 10000) (t t2 : Tok) : CtrC w 4 42 [.bytes b.toArray t, .int 2 t2] (fun _ => True) (fun _ _ r => ∃ t', r = .bytes (swap2 b).toArray t') := by
  unfold CtrC
  w_top off
  k_fill
  intro dp un gd cn cs a ccd cl outer A₀ base h₀ L m s Q E mean mg mb B F X T hk hpre hdp hun hret
  refine wpC_call ?_
  k_dflt (refine' enterC (binds := [(Str.ofString "data", .bytes b.toArray t), (Str.ofString "width", .int 2 t2)]) ?k1 ?k2 ?k3 ?k5 ?kA ?kF ?kK ?k6 ?k7 ?k8 ?k9 ?kB ?_ ?c2 ?c3 ?c4 ?c5; (case kA => exact rfl); (case kF => exact rfl); (case kK => assumption); (case k1 => k_asm); (case k2 => k_asm); (case k3 => k_asm); (case k5 => k_asm); (case k6 => k_is); (case k7 => k_is); (case k8 => ktr_room); (case k9 => exact BindsTo.of_eq rfl); (case c5 => decide); (case kB => exact locs rfl); (case c2 => exact rfl); (case c3 => exact rfl); (case c4 => exact rfl); k_whole; intro g' L' h' hg' F' N' B' X' T')
  dsimp only
  clear F B X T
  refine wpC_execs_cons (wpC_Assign_Name (wpC_Call ?_))
  walk1
  refine callWith_CT (wpC_of ?_)
  k_steps
  have hz : sizeLine = 16777216 := by decide
  rename Fr _ _ _ _ => F'
  refine ba_make (n := b.toArray.size) (by simp; omega) fun h₁ k₁ e₁ => ?_
  have FN := frNews F' N' rfl k₁ e₁
  clear F' N'
  obtain ⟨F', N'⟩ := FN
  have e0 : Array.replicate b.toArray.size (0 : UInt8) = (List.replicate (2 * n) (0 : UInt8)).toArray := by simp [hb]
  rw [e0] at N'
  clear e0 e₁ k₁
  dsimp only at F' N' ⊢
  generalize h'.objs.size = S at *
  k_steps
  refine wpC_of ?_
  refine wpAny_execs_cons ?_
  refine For_invU g' rfl rfl ?_
  k_steps
  rename IsRange _ _ _ _ _ _ _ _ => hR'
  rename Fr _ _ _ _ => F'
  rename News _ _ _ _ => N'
  rename_i hA tkB tA uA vA kA
  refine iter_range (L := L') (n := n) (fix := []) (news := [(S, baObj (List.replicate (2 * n) 0))]) rfl rfl hR' (small2 (by decide) (by decide) (by omega) (by simp; omega)) (by rw [List.size_toArray, hb]; exact range2 n) F' N' (fun i m nw => (∀ y, y ≠ Str.ofString "j" → y ≠ Str.ofString "i" → m y = (if y = Str.ofString "swapped_data" then some (Value.ref S)
    else List.lookup y [(Str.ofString "data", Value.bytes b.toArray t), (Str.ofString "width", Value.int 2 t2)].reverse)) ∧ nw = [(S, baObj (swap2 (b.take (2 * i)) ++ List.replicate (2 * (n - i)) 0))]) ?_ ?_ ?_
  · exact ⟨fun y _ _ => rfl, by simp [swap2]⟩
  · rintro i ti m₁ news₁ I h gs dr tk os hi ⟨hm, rfl⟩ hlt hne F₁ N₁
    obtain ⟨uj, ui, rfl⟩ := map2 hm
    clear F' N' hR' kA hm
    dsimp only [List.cons_append, List.nil_append, List.append_nil] at N₁ F₁
    have hSI : S < I := hlt (S, baObj (List.replicate (2 * n) 0)) (by simp)
    generalize hst : swap2 (b.take (2 * i)) ++ List.replicate (2 * (n - i)) 0 = st at N₁
    have hlen : st.length = 2 * n := by rw [← hst, List.length_append, swap2_length, List.length_take, List.length_replicate]; omega
    clear hlt
    k_steps
    rename News _ _ _ _ => N₂
    refine TurnEnd.intro (by assumption) N₂ (news₂ := [(S, baObj (swap2 (List.take (2 * (i + 1)) b) ++ List.replicate (2 * (n - (i + 1))) 0))]) ?_ ?_ ⟨?_, rfl⟩
    · have i1 : (0 + ((i : Nat) : Int) * 2 + 2 - 1 - (0 + ((0 : Nat) : Int))).toNat = 2 * i + 1 := by omega
      have i2 : (0 + ((i : Nat) : Int) * 2 + (0 + ((0 : Nat) : Int))).toNat = 2 * i := by omega
      have i3 : (0 + ((i : Nat) : Int) * 2 + 2 - 1 - (0 + ((0 + 1 : Nat) : Int))).toNat = 2 * i := by omega
      have i4 : (0 + ((i : Nat) : Int) * 2 + (0 + ((0 + 1 : Nat) : Int))).toNat = 2 * i + 1 := by omega
      rw [i1, i2, i3, i4, ← hst, swap_turn b n i hb hi]
      intro p hp
      simpa using hp
    · intro p hp
      rw [List.mem_singleton.mp hp]
      exact Nat.ne_of_lt hSI
    · intro y h1 h2
      simp only [if_neg h1, if_neg h2]
  · rintro h' tk m' news' F₁ N₁ ⟨hm, rfl⟩
    obtain ⟨uj, ui, rfl⟩ := map2 hm
    clear F' N' hR' kA hm
    have e : b.take (2 * n) = b := List.take_of_length_le (by omega)
    rw [e, Nat.sub_self, Nat.mul_zero, List.replicate_zero] at N₁
    simp only [List.append_nil] at N₁
    dsimp only [List.cons_append, List.nil_append, List.append_nil] at N₁ F₁ ⊢
    k_steps
    refine hret _ _ _ (fun x o e => ?_) ⟨_, rfl⟩
    exact F₁.keep x o (hg' ▸ e)
end Mine
end

section
open PySem PySem.W PyProof.Rows PySem.Calls
namespace Mine
/-! _law_signs -/
noncomputable def norm (b : List UInt8) : List UInt8 := if b.getD 0 0 = 255 then swap2 b else b
noncomputable def units2 : List UInt8 → List Nat
  | a :: b :: r => (a.toNat * 256 + b.toNat) :: units2 r
  | _ => []
def stepU (p : List Nat × Nat) (u : Nat) : List Nat × Nat :=
  if 55296 ≤ u ∧ u < 56320 then (p.1, u - 55296) else if 56320 ≤ u ∧ u < 57344 then (p.1 ++ [65536 + p.2 * 1024 + u - 56320], p.2) else (p.1 ++ [u], p.2)
def decU (us : List Nat) : List Nat × Nat := us.foldl stepU ([], 0)
noncomputable def signsOf (b : List UInt8) : List Nat := (decU (units2 ((norm b).drop 2))).1

theorem units2_get : ∀ (l : List UInt8) (i : Nat), 2 * i + 1 < l.length → (units2 l)[i]? = some ((l.getD (2 * i) 0).toNat * 256 + (l.getD (2 * i + 1) 0).toNat)
  | [], i, h => by simp at h
  | [_], i, h => by simp at h
  | a :: b :: l, 0, _ => by simp [units2]
  | a :: b :: l, i + 1, h => by
    have ih := units2_get l i (by simp at h; omega)
    have e1 : 2 * (i + 1) = 2 * i + 1 + 1 := by omega
    show ((a.toNat * 256 + b.toNat) :: units2 l)[i + 1]? = _
    rw [List.getElem?_cons_succ, ih, e1]
    simp [List.getD_cons_succ]
theorem units2_length : ∀ (l : List UInt8) (n : Nat), l.length = 2 * n → (units2 l).length = n
  | [], n, h => by simp at h; simp [units2]; omega
  | [_], n, h => by simp at h; omega
  | a :: b :: l, n, h => by
    have ih := units2_length l (n - 1) (by simp at h; omega)
    show (units2 l).length + 1 = n
    simp at h; omega
theorem units_at (c : List UInt8) (i n : Nat) (hc : c.length = 2 * (n + 1)) (hi : i < n) :
    (units2 (c.drop 2))[i]? = some ((c.getD (2 + ((i : Nat) : Int) * 2).toNat 0).toNat * 256 + (c.getD (2 + ((i : Nat) : Int) * 2 + 1).toNat 0).toNat) := by
  rw [units2_get (c.drop 2) i (by rw [List.length_drop]; omega)]
  have e1 : (2 + ((i : Nat) : Int) * 2).toNat = 2 + 2 * i := by omega
  have e2 : (2 + ((i : Nat) : Int) * 2 + 1).toNat = 2 + (2 * i + 1) := by omega
  rw [e1, e2]
  simp [List.getD_eq_getElem?_getD, List.getElem?_drop]
theorem decU_take {l : List Nat} {i u : Nat} (h : l[i]? = some u) : decU (l.take (i + 1)) = stepU (decU (l.take i)) u := by
  unfold decU
  rw [List.take_add_one, h, List.foldl_append]
  rfl
theorem stepU_snd {p : List Nat × Nat} (u : Nat) (h : p.2 < 1024) : (stepU p u).2 < 1024 := by
  unfold stepU; split
  · dsimp only; omega
  · split <;> exact h
theorem fold_snd : ∀ (l : List Nat) (p : List Nat × Nat), p.2 < 1024 → (l.foldl stepU p).2 < 1024
  | [], _, h => h
  | u :: l, p, h => fold_snd l _ (stepU_snd u h)
theorem decU_snd (l : List Nat) : (decU l).2 < 1024 := fold_snd l _ (by decide)
theorem stepU_len (p : List Nat × Nat) (u : Nat) : (stepU p u).1.length ≤ p.1.length + 1 := by
  unfold stepU; split
  · exact Nat.le_succ _
  · split <;> simp
theorem fold_len : ∀ (l : List Nat) (p : List Nat × Nat), (l.foldl stepU p).1.length ≤ p.1.length + l.length
  | [], _ => Nat.le_refl _
  | u :: l, p => by
    have h1 := fold_len l (stepU p u)
    have h2 := stepU_len p u
    rw [List.foldl_cons, List.length_cons]; omega
theorem decU_len (l : List Nat) : (decU l).1.length ≤ l.length := by have h := fold_len l ([], 0); simp only [List.length_nil, Nat.zero_add] at h; exact h
theorem range22 (n : Nat) : Builtin.Range.rangeSize 2 ((2 * (n + 1) : Nat) : Int) 2 = (n : Int) := by
  unfold Builtin.Range.rangeSize
  rw [if_pos (by decide)]
  split <;> omega
theorem byte255 {x : UInt8} (h : ((x.toNat : Nat) : Int) = 255) : x = 255 := by
  apply UInt8.toNat_inj.mp
  have : (255 : UInt8).toNat = 255 := rfl
  omega

local macro_rules | `(tactic| walk_at "inplaceOp Add str str") => `(tactic| (k_here; (with_reducible show wpAny _ _ (inplaceOp Operator.Add (Value.str _ _) (Value.str _ _)) _ _ _); (refine iadd_SS ?z ?_); (case z => ((try simp only [List.length_cons, List.length_nil]); omega)); intro t' k'))

set_option maxRecDepth 100000 in
set_option maxHeartbeats 8000000 in
theorem law_signs (w : World) (b : List UInt8) (n : Nat) (hb : b.length = 2 * (n + 1)) (hn : n < 10000) (t : Tok) : CtrC w 5 66 [.bytes b.toArray t] (fun _ => True) (fun _ _ r => ∃ t', r = .str (S (signsOf b)) t') := by
  unfold CtrC
  w_top off
  k_fill
  intro dp un gd cn cs a ccd cl outer A₀ base h₀ L m s Q E mean mg mb B F X T hk hpre hdp hun hret
  refine wpC_call ?_
  k_dflt (refine' enterC (binds := [(Str.ofString "octets", .bytes b.toArray t)]) ?k1 ?k2 ?k3 ?k5 ?kA ?kF ?kK ?k6 ?k7 ?k8 ?k9 ?kB ?_ ?c2 ?c3 ?c4 ?c5; (case kA => exact rfl); (case kF => exact rfl); (case kK => assumption); (case k1 => k_asm); (case k2 => k_asm); (case k3 => k_asm); (case k5 => k_asm); (case k6 => k_is); (case k7 => k_is); (case k8 => ktr_room); (case k9 => exact BindsTo.of_eq rfl); (case c5 => decide); (case kB => exact locs rfl); (case c2 => exact rfl); (case c3 => exact rfl); (case c4 => exact rfl); k_whole; intro g' L' h' hg' F' N' B' X' T')
  dsimp only
  clear F B X T
  refine wpC_execs_cons (wpC_mono (Q := fun f s' => f = .next ∧ ∃ h₁ tk t', s' = { s with heap := h₁, toks := tk } ∧ Fr g' L' h₁ (fun y => if y = Str.ofString "octets" then some (.bytes (norm b).toArray t') else List.lookup y [(Str.ofString "octets", Value.bytes b.toArray t)].reverse) ∧ News g' L' h₁ []) ?_ ?_ fun _ _ x => x)
  · refine wpC_If ?_
    k_steps
    · rename _ = (255 : Int) => h255
      refine wpC_execs_cons (wpC_Assign_Name (wpC_Call ?_))
      walk1
      refine callWith_CK (K := hd.heap_39 w.params) (by k_is) (wpC_of ?_)
      k_steps
      rename Fr _ _ _ _ => F'
      refine (byteswap w b (n + 1) hb (by omega) t _).use B' F' X' T' rfl trivial (by dsimp only; omega) (by dsimp only; omega) fun r h₁ tk₁ k₁ hr => ?_
      obtain ⟨t₁, rfl⟩ := hr
      have F₁ := F'.keeps k₁
      have N₁ : News g' L' h₁ [] := News.nil
      clear F' N'
      k_steps
      have e : norm b = swap2 b := by
        unfold norm
        rw [if_pos (show b.getD 0 0 = 255 from byte255 h255)]
      rw [e]
      exact wpC_of (wpAny_execs_nil ⟨rfl, _, _, _, rfl, by assumption, by assumption⟩)
    · rename (_ : Int) ≠ 255 => h255
      have e : norm b = b := by
        unfold norm
        rw [if_neg (fun q => h255 (by rw [show (Int.toNat 0) = 0 from rfl, q]; rfl))]
      rw [e]
      refine wpC_of (wpAny_execs_nil ⟨rfl, _, _, t, rfl, ?_, N'⟩)
      have e2 : (fun y => if y = Str.ofString "octets" then some (Value.bytes b.toArray t) else List.lookup y [(Str.ofString "octets", Value.bytes b.toArray t)].reverse) = fun y => List.lookup y [(Str.ofString "octets", Value.bytes b.toArray t)].reverse := by
        funext y
        by_cases hy : y = Str.ofString "octets"
        · rw [if_pos hy, hy]; rfl
        · rw [if_neg hy]
      rw [e2]
      exact F'
  · clear F' N'
    rintro f s' ⟨rfl, h₁, tk₁, t₁, rfl, F', N'⟩
    have hb' : (norm b).length = 2 * (n + 1) := by unfold norm; split <;> simp [swap2_length, hb]
    unfold signsOf at hret
    generalize norm b = c at *
    dsimp only
    refine wpC_of ?_
    k_steps
    rename IsRange _ _ _ _ _ _ _ _ => hR'
    rename Fr _ _ _ _ => F₂
    rename News _ _ _ _ => N₂
    refine iter_rangeV (L := L') (n := n) (fix := []) (news := []) rfl rfl hR' (small2 (by decide) (by decide) (by omega) (by simp; omega)) (by rw [List.size_toArray, hb']; exact range22 n) F₂ N₂ (fun i m nw => nw = [] ∧ (∃ tt, m (Str.ofString "text") = some (.str (S (decU ((units2 (c.drop 2)).take i)).1) tt)) ∧ (∃ th, m (Str.ofString "high") = some (.int ((decU ((units2 (c.drop 2)).take i)).2 : Int) th)) ∧
      ∀ y, y ≠ Str.ofString "text" → y ≠ Str.ofString "high" → y ≠ Str.ofString "k" → y ≠ Str.ofString "unit" → m y = (if y = Str.ofString "octets" then some (.bytes c.toArray t₁) else List.lookup y [(Str.ofString "octets", Value.bytes b.toArray t)].reverse)) ?_ ?_ ?_
    · refine ⟨rfl, ⟨_, rfl⟩, ⟨_, rfl⟩, fun y h1 h2 h3 h4 => ?_⟩
      simp only [if_neg h1, if_neg h2]
    · rintro i ti m₁ news₁ I h gs dr tk os hi ⟨rfl, ⟨tt, ht⟩, ⟨th, hh⟩, hm⟩ hlt hne F₃ N₃
      obtain ⟨uk, uu, rfl⟩ := mapKV ht hh hm
      clear hm ht hh hlt hne F₂ N₂ hR'
      dsimp only [List.cons_append, List.nil_append, List.append_nil] at N₃ F₃
      have hp2 := decU_snd ((units2 (c.drop 2)).take i)
      have hp1 := decU_len ((units2 (c.drop 2)).take i)
      have hu := decU_take (units_at c i n hb' hi)
      rw [List.length_take] at hp1
      generalize decU ((units2 (c.drop 2)).take i) = p at F₃ hp1 hp2 hu
      have hc1 := (c.getD (2 + ((i : Nat) : Int) * 2).toNat 0).toNat_lt
      have hc2 := (c.getD (2 + ((i : Nat) : Int) * 2 + 1).toNat 0).toNat_lt
      k_steps
      all_goals (dsimp only at *)
      all_goals (rename News _ _ _ _ => N₄)
      all_goals (refine TurnEnd.intro (news₂ := []) (by assumption) N₄ (fun p hp => hp) (fun p hp => nomatch hp) ?_)
      all_goals (rw [hu])
      all_goals (generalize (c.getD (2 + ((i : Nat) : Int) * 2).toNat 0).toNat = x1 at *; generalize (c.getD (2 + ((i : Nat) : Int) * 2 + 1).toNat 0).toNat = x2 at *)
      · have e1 : (stepU p (x1 * 256 + x2)).1 = p.1 := by rw [stepU, if_pos ⟨by omega, by omega⟩]
        have e2 : ((stepU p (x1 * 256 + x2)).2 : Int) = (x1 : Int) * 256 + (x2 : Int) - 55296 := by rw [stepU, if_pos ⟨by omega, by omega⟩]; dsimp only; omega
        rw [e1, e2]
        exact ⟨rfl, ⟨_, rfl⟩, ⟨_, rfl⟩, fun y h1 h2 h3 h4 => by simp only [if_neg h1, if_neg h2, if_neg h3, if_neg h4]⟩
      · have e1 : (stepU p (x1 * 256 + x2)).1 = p.1 ++ [(65536 + (p.2 : Int) * 1024 + ((x1 : Int) * 256 + (x2 : Int)) - 56320).toNat] := by
          rw [stepU, if_neg (by omega), if_pos ⟨by omega, by omega⟩]
          refine congrArg (fun z => p.1 ++ [z]) ?_
          omega
        have e2 : (stepU p (x1 * 256 + x2)).2 = p.2 := by rw [stepU, if_neg (by omega), if_pos ⟨by omega, by omega⟩]
        rw [e1, e2]
        exact ⟨rfl, ⟨_, rfl⟩, ⟨_, rfl⟩, fun y h1 h2 h3 h4 => by simp only [if_neg h1, if_neg h2, if_neg h3, if_neg h4]⟩
      all_goals (
        have e1 : (stepU p (x1 * 256 + x2)).1 = p.1 ++ [((x1 : Int) * 256 + (x2 : Int)).toNat] := by
          rw [stepU, if_neg (by omega), if_neg (by omega)]
          refine congrArg (fun z => p.1 ++ [z]) ?_
          omega
        have e2 : (stepU p (x1 * 256 + x2)).2 = p.2 := by rw [stepU, if_neg (by omega), if_neg (by omega)]
        rw [e1, e2]
        exact ⟨rfl, ⟨_, rfl⟩, ⟨_, rfl⟩, fun y h1 h2 h3 h4 => by simp only [if_neg h1, if_neg h2, if_neg h3, if_neg h4]⟩)
    · rintro h₂ tk₂ m₂ news₂ F₃ N₃ ⟨rfl, ⟨tt, ht⟩, ⟨th, hh⟩, hm⟩
      obtain ⟨uk, uu, rfl⟩ := mapKV ht hh hm
      clear hm ht hh F₂ N₂ hR'
      have e : (units2 (c.drop 2)).take n = units2 (c.drop 2) := List.take_of_length_le (by rw [units2_length _ n (by rw [List.length_drop]; omega)]; exact Nat.le_refl _)
      rw [e] at F₃
      dsimp only [List.cons_append, List.nil_append, List.append_nil] at N₃ F₃ ⊢
      k_steps
      refine hret _ _ _ (fun x o e => ?_) ⟨_, rfl⟩
      exact F₃.keep x o (hg' ▸ e)
end Mine
end

section
open PySem PySem.W PyProof.Rows PySem.Calls
open PySem.Builtin PySem.Builtin.Str PySem.StrLaws
namespace Mine
/-! cutting a text at a sign -/
noncomputable def posFrom (k : Nat) : Nat → List Nat → List Nat
  | _, [] => []
  | i, c :: r => if c = k then i :: posFrom k (i + 1) r else posFrom k (i + 1) r
noncomputable def splitN (k : Nat) : Nat → List Nat → List (List Nat)
  | _, [] => [[]]
  | lim, c :: r => if c = k ∧ 0 < lim then [] :: splitN k (lim - 1) r else match splitN k lim r with | p :: ps => (c :: p) :: ps | [] => [[c]]

theorem occ_run (l : List Nat) (k limit : Nat) : ∀ (r : List Nat) (i : Nat) (acc : Array Nat) (free : Nat), l.drop i = r → i + r.length = l.length → free ≤ i → acc.size ≤ limit →
    (forIn (List.range' i (r.length + 1)) (acc, free) (occBody (S l) (S [k]) (S l).length limit)).run.fst.toList = acc.toList ++ (posFrom k i r).take (limit - acc.size)
  | [], i, acc, free, hr, hlen, hf, ha => by
    rw [List.length_nil, List.range'_succ, List.range'_zero, List.forIn_cons]
    unfold occBody
    rw [if_neg (fun h => by have := h.1.2; rw [S_length] at this; simp [Str.length] at this; simp at hlen; omega)]
    show acc.toList = _
    simp [posFrom]
  | c :: r, i, acc, free, hr, hlen, hf, ha => by
    have hr' : l.drop (i + 1) = r := by
      have := congrArg (List.drop 1) hr
      rw [List.drop_drop] at this
      simpa [Nat.add_comm] using this
    have hc : l[i]? = some c := by
      have := congrArg (·[0]?) hr
      rw [List.getElem?_drop] at this
      simpa using this
    have hone := subAt_one (S l) k i
    have hone' : (i + (S [k]).length ≤ (S l).length ∧ subAt (S l) (S [k]) i = true) ↔ c = k := by
      rw [show (S [k]) = (⟨#[k]⟩ : Str) from rfl, hone]
      simp [hc]
    rw [List.length_cons, List.range'_succ, List.forIn_cons]
    have hl' : i + 1 + r.length = l.length := by simp at hlen; omega
    by_cases hk : c = k ∧ acc.size < limit
    · have cond : ((acc.size < limit ∧ free ≤ i) ∧ i + (S [k]).length ≤ (S l).length) ∧ subAt (S l) (S [k]) i = true :=
        ⟨⟨⟨hk.2, hf⟩, (hone'.mpr hk.1).1⟩, (hone'.mpr hk.1).2⟩
      have e : occBody (S l) (S [k]) (S l).length limit i (acc, free) = pure (ForInStep.yield (acc.push i, i + (S [k]).length)) := by
        unfold occBody; rw [if_pos cond]
      rw [e]
      have ih := occ_run l k limit r (i + 1) (acc.push i) (i + (S [k]).length) hr' hl' (by simp [Str.length]) (by simp; omega)
      show (forIn (List.range' (i + 1) (r.length + 1)) (acc.push i, i + (S [k]).length) (occBody (S l) (S [k]) (S l).length limit)).run.fst.toList = _
      rw [ih]
      have e2 : limit - acc.size = (limit - (acc.push i).size) + 1 := by simp; omega
      simp only [posFrom, if_pos hk.1, e2, List.take_succ_cons, Array.toList_push, List.append_assoc, List.singleton_append]
    · have e : occBody (S l) (S [k]) (S l).length limit i (acc, free) = pure (ForInStep.yield (acc, free)) := by
        unfold occBody
        rw [if_neg]
        intro h
        exact hk ⟨hone'.mp ⟨h.1.2, h.2⟩, h.1.1.1⟩
      rw [e]
      have ih := occ_run l k limit r (i + 1) acc free hr' hl' (by omega) ha
      show (forIn (List.range' (i + 1) (r.length + 1)) (acc, free) (occBody (S l) (S [k]) (S l).length limit)).run.fst.toList = _
      rw [ih]
      by_cases hck : c = k
      · have : acc.size = limit := by
          have : ¬ acc.size < limit := fun h => hk ⟨hck, h⟩
          omega
        simp [this]
      · simp only [posFrom, if_neg hck]
theorem occ_single (l : List Nat) (k limit : Nat) : occurrences (S l) (S [k]) 0 (S l).length limit = (posFrom k 0 l).take limit := by
  rw [occ_eq]
  have h := occ_run l k limit l 0 #[] 0 (by simp) (by simp) (Nat.le_refl _) (Nat.zero_le _)
  rw [S_length] at h ⊢
  simpa using h

theorem splitN_ne (k : Nat) : ∀ (lim : Nat) (l : List Nat), ∃ p ps, splitN k lim l = p :: ps
  | _, [] => ⟨_, _, rfl⟩
  | lim, c :: r => by
    unfold splitN
    split
    · exact ⟨_, _, rfl⟩
    · split <;> exact ⟨_, _, rfl⟩
theorem splitN_zero (k : Nat) : ∀ l : List Nat, splitN k 0 l = [l]
  | [] => rfl
  | c :: r => by
    unfold splitN
    rw [if_neg (by omega), splitN_zero k r]
theorem splitN_free (k : Nat) : ∀ (lim : Nat) (l : List Nat), k ∉ l → splitN k lim l = [l]
  | _, [], _ => rfl
  | lim, c :: r, h => by
    have h1 : ¬ c = k := fun e => h (e ▸ List.mem_cons_self ..)
    have h2 : k ∉ r := fun m => h (List.mem_cons_of_mem _ m)
    unfold splitN
    rw [if_neg (fun x => h1 x.1), splitN_free k lim r h2]
theorem splitN_cut (k : Nat) : ∀ (lim : Nat) (a b : List Nat), k ∉ a → splitN k (lim + 1) (a ++ k :: b) = a :: splitN k lim b
  | lim, [], b, _ => by
    show splitN k (lim + 1) (k :: b) = _
    rw [splitN]
    rw [if_pos ⟨rfl, Nat.succ_pos _⟩]
    rfl
  | lim, c :: a, b, h => by
    have h1 : ¬ c = k := fun e => h (e ▸ List.mem_cons_self ..)
    have h2 : k ∉ a := fun m => h (List.mem_cons_of_mem _ m)
    show splitN k (lim + 1) (c :: (a ++ k :: b)) = _
    rw [splitN]
    rw [if_neg (fun x => h1 x.1), splitN_cut k lim a b h2]

theorem strSub_S (l : List Nat) (a b : Nat) : strSub (S l) a b = S ((l.drop a).take (b - a)) := by
  unfold strSub
  refine Str.ext' ?_
  apply Array.toList_inj.mp
  rw [Array.toList_extract]
theorem parts_run (l : List Nat) (k : Nat) : ∀ (r : List Nat) (i a : Nat) (lim : Nat) (p : List Nat), l.drop i = r → i + r.length = l.length → a ≤ i → (l.drop a).take (i - a) = p →
    partsFrom (S l) 1 a ((posFrom k i r).take lim) = (match splitN k lim r with | q :: qs => (p ++ q) :: qs | [] => []).map S
  | [], i, a, lim, p, hr, hlen, hai, hp => by
    simp only [posFrom, List.take_nil, partsFrom, splitN, List.map_cons, List.map_nil, List.append_nil]
    rw [strSub_S, S_length]
    have : i = l.length := by simpa using hlen
    rw [← this, hp]
  | c :: r, i, a, lim, p, hr, hlen, hai, hp => by
    have hr' : l.drop (i + 1) = r := by
      have := congrArg (List.drop 1) hr
      rw [List.drop_drop] at this
      simpa [Nat.add_comm] using this
    have hc : l[i]? = some c := by
      have := congrArg (·[0]?) hr
      rw [List.getElem?_drop] at this
      simpa using this
    have hl' : i + 1 + r.length = l.length := by simp at hlen; omega
    by_cases hk : c = k
    · cases lim with
      | zero =>
        simp only [List.take_zero, partsFrom]
        rw [splitN_zero, strSub_S, S_length]
        simp only [List.map_cons, List.map_nil]
        have e : (l.drop a).take (l.length - a) = p ++ (c :: r) := by
          have e1 : (l.drop a).take (l.length - a) = l.drop a := List.take_of_length_le (by rw [List.length_drop]; omega)
          rw [e1, ← hp, ← hr]
          have e2 : l.drop i = (l.drop a).drop (i - a) := by rw [List.drop_drop]; congr 1; omega
          rw [e2, List.take_append_drop]
        rw [e]
      | succ lim =>
        simp only [posFrom, if_pos hk, List.take_succ_cons, partsFrom]
        have ih := parts_run l k r (i + 1) (i + 1) lim [] hr' hl' (Nat.le_refl _) (by simp)
        rw [ih, strSub_S, hp]
        obtain ⟨q, qs, e⟩ := splitN_ne k lim r
        have e3 : splitN k (lim + 1) (c :: r) = [] :: splitN k lim r := by
          rw [splitN]; rw [if_pos ⟨hk, Nat.succ_pos _⟩]; rfl
        rw [e3, e]
        simp
    · simp only [posFrom, if_neg hk]
      have ih := parts_run l k r (i + 1) a lim (p ++ [c]) hr' hl' (by omega) (by
        have e : i + 1 - a = (i - a) + 1 := by omega
        rw [e, List.take_add_one, hp, List.getElem?_drop, show a + (i - a) = i by omega, hc]
        rfl)
      rw [ih]
      obtain ⟨q, qs, e⟩ := splitN_ne k lim r
      have e3 : splitN k lim (c :: r) = (c :: q) :: qs := by
        rw [splitN]; rw [if_neg (fun x => hk x.1), e]
      rw [e3, e]
      simp
theorem parts_S (l : List Nat) (k lim : Nat) : partsBetween (S l) (occurrences (S l) (S [k]) 0 (S l).length lim) (S [k]).length = (splitN k lim l).map S := by
  rw [partsBetween_eq, occ_single, show (S [k]).length = 1 from by simp [Str.length]]
  have h := parts_run l k l 0 0 lim [] (by simp) (by simp) (Nat.le_refl _) (by simp)
  rw [h]
  obtain ⟨q, qs, e⟩ := splitN_ne k lim l
  rw [e]
  simp
theorem split_cases (l : List Nat) (k lim : Nat) :
    (if (decide ((S l).length < (S [k]).length) || decide (strKind (S l) < strKind (S [k]))) = true then [S l] else
     if (occurrences (S l) (S [k]) 0 (S l).length lim).isEmpty = true then [S l] else partsBetween (S l) (occurrences (S l) (S [k]) 0 (S l).length lim) (S [k]).length) = (splitN k lim l).map S := by
  split
  · rename_i h
    have hfree : k ∉ l := by
      rcases Bool.or_eq_true_iff.mp h with h | h
      · have h := of_decide_eq_true h
        rw [S_length, S_length] at h
        have : l = [] := List.eq_nil_of_length_eq_zero (by simpa using h)
        rw [this]; exact List.not_mem_nil
      · have := kind_free (S l) k (of_decide_eq_true h)
        simpa using this
    rw [splitN_free k lim l hfree]; rfl
  · split
    · rename_i h
      have hp := parts_S l k lim
      have e : occurrences (S l) (S [k]) 0 (S l).length lim = [] := List.isEmpty_iff.mp h
      rw [← hp, e, partsBetween_eq]
      show [S l] = [strSub (S l) 0 (S l).length]
      rw [sub_whole]
    · exact parts_S l k lim
theorem split_S (l : List Nat) (k : Nat) : Txt.split (S l) (S [k]) = (splitN k (l.length + 1) l).map S := by
  unfold Txt.split
  rw [← split_cases l k (l.length + 1)]
  rw [S_length l]
theorem splitMax_S (l : List Nat) (k lim : Nat) : Txt.splitMax (S l) (S [k]) (lim : Int) = (splitN k lim l).map S := by
  unfold Txt.splitMax
  rw [← split_cases l k lim]
  rw [show limitOf (S l) (lim : Int) = lim from by unfold limitOf; rw [if_neg (by omega)]; simp]
theorem slice1 (xs : List Value) : slicePick xs.toArray (some 1) none none = (xs.drop 1).toArray := by
  simpa using slicePick_from' xs.toArray 1
end Mine
end

section
open PySem PySem.W PyProof.Rows PySem.Calls
namespace Mine
def nm : Nat → List Nat
  | 38 => [97, 109, 112]
  | 60 => [108, 116]
  | 62 => [103, 116]
  | 34 => [113, 117, 111, 116]
  | 13 => [35, 49, 51]
  | 10 => [35, 49, 48]
  | 9 => [35, 48, 57]
  | _ => []
def sevens : List Nat := [38, 60, 62, 34, 13, 10, 9]
def itE (x : Nat × List Nat) : List Nat := nm x.1 ++ 59 :: x.2
theorem nm_no (k : Nat) (hk : k = 38 ∨ k = 59) : ∀ c ∈ sevens, k ∉ nm c := by rcases hk with rfl | rfl <;> decide
theorem nm_len (c : Nat) : (nm c).length ≤ 4 := by unfold nm; split <;> decide
theorem cut_items : ∀ (its : List (Nat × List Nat)) (lim : Nat) (p : List Nat), its.length ≤ lim → 38 ∉ p → (∀ x ∈ its, x.1 ∈ sevens ∧ 38 ∉ x.2) →
    splitN 38 lim (p ++ its.flatMap fun x => 38 :: itE x) = p :: its.map itE
  | [], lim, p, _, hp, _ => by simp [splitN_free 38 lim p hp]
  | x :: its, 0, p, h, _, _ => by simp at h
  | x :: its, lim + 1, p, h, hp, hx => by
    have h1 := hx x (List.mem_cons_self ..)
    have e : p ++ (x :: its).flatMap (fun x => 38 :: itE x) = p ++ 38 :: (itE x ++ its.flatMap fun x => 38 :: itE x) := by simp
    have h38 : 38 ∉ itE x := by
      unfold itE
      intro h
      rcases List.mem_append.mp h with h | h
      · exact nm_no 38 (.inl rfl) x.1 h1.1 h
      · rcases List.mem_cons.mp h with h | h
        · cases h
        · exact h1.2 h
    rw [e, splitN_cut 38 lim p _ hp, cut_items its lim (itE x) (by simpa using h) h38 fun y hy => hx y (List.mem_cons_of_mem _ hy)]
    rfl
theorem cut_one (c : Nat) (r : List Nat) (hc : c ∈ sevens) : Txt.splitMax (S (itE (c, r))) (S [59]) ((1 : Nat) : Int) = [S (nm c), S r] := by
  rw [splitMax_S]
  unfold itE
  rw [splitN_cut 59 0 (nm c) r (nm_no 59 (.inr rfl) c hc), splitN_zero]
  rfl
theorem items_le (p : List Nat) : ∀ its : List (Nat × List Nat), its.length ≤ (p ++ its.flatMap fun x => 38 :: itE x).length
  | [] => by simp
  | x :: its => by
    have := items_le p its
    simp only [List.length_append, List.flatMap_cons, List.length_cons] at *
    omega
theorem items_len (p : List Nat) : ∀ its : List (Nat × List Nat), (p ++ its.flatMap fun x => x.1 :: x.2).length ≤ (p ++ its.flatMap fun x => 38 :: itE x).length
  | [] => by simp
  | x :: its => by
    have := items_len p its
    simp only [List.length_append, List.flatMap_cons, List.length_cons, itE] at *
    omega
theorem take_flat {its : List (Nat × List Nat)} {i : Nat} {x : Nat × List Nat} (f : Nat × List Nat → List Nat) (h : its[i]? = some x) : (its.take (i + 1)).flatMap f = (its.take i).flatMap f ++ f x := by
  rw [List.take_add_one, h]; simp
theorem take_len (f : Nat × List Nat → List Nat) (its : List (Nat × List Nat)) (i : Nat) : ((its.take i).flatMap f).length ≤ (its.flatMap f).length := by
  have e : its.flatMap f = (its.take i).flatMap f ++ (its.drop i).flatMap f := by rw [← List.flatMap_append, List.take_append_drop]
  rw [e, List.length_append]; omega
theorem mapV3 {m m₀ : Str → Option Value} {a b c d : Str} {va : Value} (ha : m a = some va) (h : ∀ y, y ≠ a → y ≠ b → y ≠ c → y ≠ d → m y = m₀ y) :
    ∃ u v z, m = fun y => if y = a then some va else if y = b then u else if y = c then v else if y = d then z else m₀ y :=
  ⟨m b, m c, m d, funext fun y => by
    by_cases e1 : y = a
    · rw [if_pos e1, e1, ha]
    rw [if_neg e1]
    by_cases e2 : y = b
    · rw [if_pos e2, e2]
    rw [if_neg e2]
    by_cases e3 : y = c
    · rw [if_pos e3, e3]
    rw [if_neg e3]
    by_cases e4 : y = d
    · rw [if_pos e4, e4]
    rw [if_neg e4]
    exact h y e1 e2 e3 e4⟩
theorem values_cons (a : Str) (t : Tok) (l : List (Str × Tok)) : strValues ((a, t) :: l) = .str a t :: strValues l := rfl
theorem values_at {l : List (Str × Tok)} {ps : List Str} {i : Nat} {v : Value} (e : l.map (·.1) = ps) (h : (strValues l).toArray[i]? = some v) : ∃ a t, ps[i]? = some a ∧ v = .str a t := by
  subst e
  rw [List.getElem?_toArray, strValues, List.getElem?_map] at h
  cases hl : l[i]? with
  | none => rw [hl] at h; cases h
  | some p => rw [hl] at h; exact ⟨p.1, p.2, by rw [List.getElem?_map, hl]; rfl, (Option.some.inj h).symm⟩
theorem iter_listM {prog : Program} {w : World} {A : Around} {E : Value → Shared → Prop} {s : Shared} {g : Heap} {env : Env} {x : Str} {body : List Stmt} {Q : Flow → Shared → Prop} {L ax : Addr} {items : Array Value} {nn : Nat} {m : Str → Option Value} {news fix : List (Addr × Obj)} (hL : env.locals = L) (hh : A.handled = none)
    (hm : (ax, ({ cls := .type "list", data := .seq items nn } : Obj)) ∈ fix)
    (F : Fr g L s.heap m) (N : News g L s.heap (news ++ fix)) (J : (Str → Option Value) → Nat → (Str → Option Value) → List (Addr × Obj) → Prop) (h0 : J m 0 m news)
    (step : ∀ i v m₁ news₁ I oI h gs dr tk os, items[i]? = some v → J m i m₁ news₁ → (∀ p ∈ news ++ fix, p.1 < I) → (∀ p ∈ news₁, p.1 ≠ I) → Fr g L h (fun y => if y = x then some v else m₁ y) →
      News g L h ((I, oI) :: (news₁ ++ fix)) →
      wpAny (model prog w) A (execs body env) (TurnEnd g L I oI fix (J m (i + 1)) ⟨h, gs, dr, tk, os⟩) E ⟨h, gs, dr, tk, os⟩)
    (done : ∀ h' tk m' news', Fr g L h' m' → News g L h' (news' ++ fix) → J m items.size m' news' → Q .next { s with heap := h', toks := tk }) :
    wpAny (model prog w) A (pyIter (.ref ax)) (fun it s₂ => LoopAtU prog w A g env x body Q E it s₂) E s :=
  iter_list hL hh hm F N (J m) h0 step done
section
variable {prog : Program} {w : World} {A : Around} {E : Value → Shared → Prop} {s : Shared} {x y a b : Str} {t u v : Tok} {k : Int} {h₀ : Heap} {L : Addr} {m : Str → Option Value} {news : List (Addr × Obj)} {Q : Value → Shared → Prop}
theorem split_two (hF : Fr h₀ L s.heap m) (hN : News h₀ L s.heap news) (e : Txt.splitMax x y k = [a, b]) (hy : (y.length == 0) = false) (hk : (decide (k < -(2 ^ 63 : Int)) || decide (k ≥ 2 ^ 63)) = false) (hsz : x.length + 2 ≤ 16777216)
    (h : ∀ D h' tk t₁ t₂, Fr h₀ L h' m → News h₀ L h' ((D, { cls := .type "list", data := .seq #[.str a t₁, .str b t₂] }) :: news) → (∀ p ∈ news, p.1 < D) → Q (.ref D) { s with heap := h', toks := tk }) :
    wpAny (model prog w) A (call (.builtin "str.split") [.str x t, .str y u, .int k v]) Q E s := by
  refine splitN2A hF hN hy hk (fun l h' tk hl _ _ _ F N => ?_) hsz
  rw [e] at hl
  obtain ⟨t₁, l₁, rfl, hl1⟩ := KSpl.cons_of hl
  obtain ⟨t₂, l₂, rfl, hl2⟩ := KSpl.cons_of hl1
  rw [KSpl.nil_of hl2] at N
  exact h _ h' tk t₁ t₂ F N fun p hp => Heap.lt_size (hN p hp).1
theorem split_three {c : Str} (hF : Fr h₀ L s.heap m) (hN : News h₀ L s.heap news) (e : Txt.splitMax x y k = [a, b, c]) (hy : (y.length == 0) = false) (hk : (decide (k < -(2 ^ 63 : Int)) || decide (k ≥ 2 ^ 63)) = false) (hsz : x.length + 2 ≤ 16777216)
    (h : ∀ D h' tk t₁ t₂ t₃, Fr h₀ L h' m → News h₀ L h' ((D, { cls := .type "list", data := .seq #[.str a t₁, .str b t₂, .str c t₃] }) :: news) → (∀ p ∈ news, p.1 < D) → Q (.ref D) { s with heap := h', toks := tk }) :
    wpAny (model prog w) A (call (.builtin "str.split") [.str x t, .str y u, .int k v]) Q E s := by
  refine splitN2A hF hN hy hk (fun l h' tk hl _ _ _ F N => ?_) hsz
  rw [e] at hl
  obtain ⟨t₁, l₁, rfl, hl1⟩ := KSpl.cons_of hl
  obtain ⟨t₂, l₂, rfl, hl2⟩ := KSpl.cons_of hl1
  obtain ⟨t₃, l₃, rfl, hl3⟩ := KSpl.cons_of hl2
  rw [KSpl.nil_of hl3] at N
  exact h _ h' tk t₁ t₂ t₃ F N fun p hp => Heap.lt_size (hN p hp).1
theorem iadd_G (hz : x.length + y.length ≤ 16777216) (h : ∀ t' tk, Q (.str (x ++ y) t') { s with toks := tk }) : wpAny (model prog w) A (inplaceOp .Add (.str x t) (.str y u)) Q E s := by
  rw [S_of x, S_of y]
  refine iadd_SS (by simpa [Str.length] using hz) fun t' tk => ?_
  rw [← S_append, ← S_of x, ← S_of y]
  exact h t' tk
theorem add_G (hz : x.length + y.length ≤ 16777216) (h : ∀ t' tk, Q (.str (x ++ y) t') { s with toks := tk }) : wpAny (model prog w) A (binaryOp .Add (.str x t) (.str y u)) Q E s := by
  rw [S_of x, S_of y]
  refine add_SS (by simpa [Str.length] using hz) fun t' tk => ?_
  rw [← S_append, ← S_of x, ← S_of y]
  exact h t' tk
end
theorem same_txt {prog : Program} {w : World} {A : Around} {E : Value → Shared → Prop} {s : Shared} {c : Sem Value} {Q : Value → Shared → Prop} (x : Str) (h : wpAny (model prog w) A c (fun v s' => ∃ tk t', s' = { s with toks := tk } ∧ v = .str x t') E s) (k : ∀ tk t', Q (.str x t') { s with toks := tk }) : wpAny (model prog w) A c Q E s :=
  wpAny_mono h (fun _ _ ⟨tk, t', e, e'⟩ => e ▸ e' ▸ k tk t') fun _ _ q => q
theorem append_length (x y : Str) : (x ++ y).length = x.length + y.length := by simp [Str.length, Str.cps_append]
local macro_rules | `(tactic| walk_at "inplaceOp Add str str") => `(tactic| (k_here; (with_reducible show wpAny _ _ (inplaceOp Operator.Add (Value.str _ _) (Value.str _ _)) _ _ _); (refine iadd_G ?z ?_); (case z => (simp only [append_length, S_length, List.length_append, List.length_cons, List.length_nil]; omega)); intro t' k'))
local macro_rules | `(tactic| walk_at "binaryOp Add str str") => `(tactic| (k_here; (with_reducible show wpAny _ _ (binaryOp Operator.Add (Value.str _ _) (Value.str _ _)) _ _ _); (refine add_G ?z ?_); (case z => (simp only [append_length, S_length, List.length_append, List.length_cons, List.length_nil]; omega)); intro t' k'))
local macro_rules | `(tactic| walk_at "call builtin:str.split") => `(tactic| (k_here; (with_reducible show wpAny _ _ (call (Value.builtin "str.split") [_, _, _]) _ _ _); k_dflt (refine' split_two ?F ?N ?e ?y ?k ?z ?_; (case F => k_asm); (case N => k_asm); (case e => k_asm); (case y => decide); (case k => decide); (case z => (simp only [S_length]; omega))); intro D' h' k' t1' t2' F' N' l1; (try k_lt l1)))

set_option maxRecDepth 100000 in
set_option maxHeartbeats 8000000 in
theorem law_read (w : World) (p : List Nat) (its : List (Nat × List Nat)) (hp : 38 ∉ p) (hi : ∀ x ∈ its, x.1 ∈ sevens ∧ 38 ∉ x.2) (hl : (p ++ its.flatMap fun x => 38 :: itE x).length ≤ 10000) (t : Tok) :
    Ctr w 4 73 [.str (S (p ++ its.flatMap fun x => 38 :: itE x)) t] (fun _ => True) (fun _ _ r => ∃ t', r = .str (S (p ++ its.flatMap fun x => x.1 :: x.2)) t') := by
  unfold Ctr
  w_top off
  k_fill
  intro dp un gd cn cs a ccd cl outer A₀ base h₀ L m s Q E mean mg mb B F X T hk hpre hdp hun hret
  refine wpAny_call ?_
  generalize hl' : (p ++ its.flatMap fun x => 38 :: itE x) = l at *
  k_dflt (refine' enterP (binds := [(Str.ofString "text", .str (S l) t)]) ?k1 ?k2 ?k3 ?k5 ?kA ?kF ?kK ?k6 ?k7 ?k8 ?k9 ?kB ?_ ?c2 ?c3 ?c4 ?c5; (case kA => exact rfl); (case kF => exact rfl); (case kK => assumption); (case k1 => k_asm); (case k2 => k_asm); (case k3 => k_asm); (case k5 => k_asm); (case k6 => k_is); (case k7 => k_is); (case k8 => ktr_room); (case k9 => exact BindsTo.of_eq rfl); (case c5 => decide); (case kB => exact locs rfl); (case c2 => exact rfl); (case c3 => exact rfl); (case c4 => exact rfl); k_whole; intro g' L' h' hg' F' N' B' X' T')
  dsimp only
  clear F B X T
  have hSl : (S l).length ≤ 10000 := by rw [S_length]; exact hl
  k_steps
  all_goals (dsimp only at *)
  rename (List (Str × Tok)) => ps
  rename List.map _ ps = _ => hps
  rename (List.map _ ps)[Int.toNat 0]? = some _ => hy0
  rename Fr _ _ _ _ => F₂
  rename News _ _ _ _ => N₂
  rename StrsAre _ _ => junk
  clear junk
  rename (Heap.IsList _ _ (strValues ps).toArray) => junk
  clear junk
  have hlen : its.length ≤ l.length := hl' ▸ items_le p its
  have e0 : Txt.split (S l) (Str.ofString "&") = S p :: (its.map itE).map S := by
    rw [show Str.ofString "&" = S [38] from rfl, split_S, ← hl', cut_items its _ p (by rw [hl']; omega) hp hi]
    rfl
  rw [e0] at hps
  rw [hps] at hy0
  have hy0 := (Option.some.inj hy0).symm
  subst hy0
  obtain ⟨t0, ps2, rfl, hps2⟩ := KSpl.cons_of hps
  rw [slice1, values_cons, List.drop_succ_cons, List.drop_zero] at N₂
  refine iter_listM (L := L') (fix := [_, _, _]) (news := []) rfl rfl (List.mem_cons_self ..) F₂ N₂ (fun m₀ i m nw => nw = [] ∧ (∃ tt, m (Str.ofString "plain") = some (.str (S (p ++ (its.take i).flatMap fun x => x.1 :: x.2)) tt)) ∧
    ∀ y, y ≠ Str.ofString "plain" → y ≠ Str.ofString "part" → y ≠ Str.ofString "name" → y ≠ Str.ofString "rest" → m y = m₀ y) ?_ ?_ ?_
  · exact ⟨rfl, ⟨_, by simp only [List.take_zero, List.flatMap_nil, List.append_nil]; rfl⟩, fun y _ _ _ _ => rfl⟩
  · rintro i v m₁ news₁ I oI h gs dr tk os hv ⟨rfl, ⟨tt, ht⟩, hm⟩ hlt hne F₃ N₃
    obtain ⟨u1, u2, u3, rfl⟩ := mapV3 ht hm
    obtain ⟨a, ta, ha, rfl⟩ := values_at hps2 hv
    clear hm ht hv hne F₂ N₂ hps hps2
    rw [List.getElem?_map, List.getElem?_map] at ha
    cases hx : its[i]? with
    | none => rw [hx] at ha; cases ha
    | some x =>
      rw [hx] at ha
      have ha := (Option.some.inj ha).symm
      subst ha
      obtain ⟨c, r⟩ := x
      have hc := (hi _ (List.mem_of_getElem? hx)).1
      have hcut := cut_one c r hc
      have hlen1 : (p ++ (its.take (i + 1)).flatMap fun x => x.1 :: x.2).length ≤ 10000 := by
        have h1 := take_len (fun x => x.1 :: x.2) its (i + 1)
        have h2 := items_len p its
        rw [hl'] at h2
        simp only [List.length_append] at h2 ⊢
        omega
      rw [take_flat _ hx] at hlen1 ⊢
      simp only [List.length_append, List.length_cons] at hlen1
      generalize (its.take i).flatMap (fun x => x.1 :: x.2) = q at F₃ hlen1
      have hlen2 : (itE (c, r)).length ≤ 10 + r.length := by
        unfold itE
        have := nm_len c
        simp only [List.length_append, List.length_cons]; omega
      dsimp only [List.cons_append, List.nil_append, List.append_nil] at N₃ F₃ hlen1
      clear hl hl' hSl hlen e0 hlt hi hx
      generalize itE (c, r) = z at F₃ hcut hlen2
      have hcut : Txt.splitMax (S z) (Str.ofString ";") 1 = [S (nm c), S r] := hcut
      repeat' ((fail_if_success (with_reducible show wpAny _ _ (subscriptTail _ _ (Value.ref _) (Value.str _ _)) _ _ _)); first | (k_unfold; (try dsimp only)) | walk1 | (dsimp only; walk1))
      refine same_txt (S [c]) ?_ ?_
      · simp only [sevens, List.mem_cons, List.not_mem_nil, or_false] at hc
        rcases hc with rfl | rfl | rfl | rfl | rfl | rfl | rfl
        · show wpAny _ _ (subscriptTail _ _ _ (Value.str (Str.ofString "amp") _)) _ _ _
          walk1
          exact ⟨_, _, rfl, rfl⟩
        · show wpAny _ _ (subscriptTail _ _ _ (Value.str (Str.ofString "lt") _)) _ _ _
          walk1
          exact ⟨_, _, rfl, rfl⟩
        · show wpAny _ _ (subscriptTail _ _ _ (Value.str (Str.ofString "gt") _)) _ _ _
          walk1
          exact ⟨_, _, rfl, rfl⟩
        · show wpAny _ _ (subscriptTail _ _ _ (Value.str (Str.ofString "quot") _)) _ _ _
          walk1
          exact ⟨_, _, rfl, rfl⟩
        · show wpAny _ _ (subscriptTail _ _ _ (Value.str (Str.ofString "#13") _)) _ _ _
          walk1
          exact ⟨_, _, rfl, rfl⟩
        · show wpAny _ _ (subscriptTail _ _ _ (Value.str (Str.ofString "#10") _)) _ _ _
          walk1
          exact ⟨_, _, rfl, rfl⟩
        · show wpAny _ _ (subscriptTail _ _ _ (Value.str (Str.ofString "#09") _)) _ _ _
          walk1
          exact ⟨_, _, rfl, rfl⟩
      · intro tk' t'
        (try dsimp only)
        k_steps
        rename Fr _ _ _ _ => F₄
        rename News _ _ _ _ => N₄
        have e : S (p ++ q) ++ (S [c] ++ S r) = S (p ++ (q ++ c :: r)) := by
          rw [S_append, S_append]; simp
        rw [e] at F₄
        refine TurnEnd.intro (news₂ := []) F₄ N₄ (fun p hp => ?_) (fun p hp => nomatch hp) ⟨rfl, ⟨_, rfl⟩, fun y h1 h2 h3 h4 => ?_⟩
        · exact List.mem_cons_of_mem _ hp
        · simp only [if_neg h1, if_neg h2, if_neg h3, if_neg h4]
  · rintro h₂ tk₂ m₂ news₂ F₃ N₃ ⟨rfl, ⟨tt, ht⟩, hm⟩
    obtain ⟨u1, u2, u3, rfl⟩ := mapV3 ht hm
    have hn : (strValues ps2).toArray.size = its.length := by
      have := congrArg List.length hps2
      simpa [strValues] using this
    rw [hn, List.take_length] at F₃
    clear hm ht F₂ N₂ hps hps2
    dsimp only [List.cons_append, List.nil_append, List.append_nil] at N₃ F₃ ⊢
    k_steps
    refine hret _ _ _ (fun x o e => ?_) ⟨_, rfl⟩
    exact F₃.keep x o (hg' ▸ e)
end Mine
end

section
open PySem PySem.W PyProof.Rows PySem.Calls
namespace Mine
theorem Ctr.step {w : World} {lv : Nat} {f : Addr} {vs : List Value} {post : Heap → Heap → Value → Prop} (C : Ctr w lv f vs (fun _ => True) post)
    {dp un : Nat} {gd : Option (List Code)} {cn : Str} {cs : Scope} {a : Addr} {ccd : Value} {cl : List (Str × Addr)} {outer : List Env} {A₀ : Around} {base h₀ : Heap} {L : Addr} {m : Str → Option Value} {s : Shared}
    {Q E : Value → Shared → Prop} {mean : ExcName → Option Value} {mg mb : Str → Option Value} {news : List (Addr × Obj)}
    (B : Below A₀ base outer h₀) (F : Fr h₀ L s.heap m) (N : News h₀ L s.heap news) (X : (hd.heap_39 w.params).In h₀) (T : Top hd.view_39 (looseW hd.view_39 []) mean mg mb h₀) (hk : cs.kind = .function) (hdp : dp + lv < recursionLimit) (hun : un + 30 * lv < cLine)
    (h : ∀ r h' tk', Fr h₀ L h' m → News h₀ L h' news → post s.heap h' r → Q r { s with heap := h', toks := tk' }) :
    wpAny (model PySem.Challenge.rw_oc0018_01.row.prog w) (ktrTop dp un gd cn cs L a ccd cl outer) (call (.ref f) vs) Q E s :=
  C.use B F X T hk trivial hdp hun fun r h' tk' k p => h r h' tk' (F.keeps k) (fun q hq => ⟨k _ _ (N q hq).1, (N q hq).2⟩) p
local macro_rules | `(tactic| walk_at "call builtin:str.split") => `(tactic| (k_here; (with_reducible show wpAny _ _ (call (Value.builtin "str.split") [_, _, _]) _ _ _); k_dflt (refine' split_two ?F ?N ?e ?y ?k ?z ?_; (case F => k_asm); (case N => k_asm); (case e => k_asm); (case y => decide); (case k => decide); (case z => first | omega | (simp only [S_length]; omega))); intro D' h' k' t1' t2' F' N' l1; (try k_lt l1)))
local macro_rules | `(tactic| walk_at "call builtin:str.split") => `(tactic| (k_here; (with_reducible show wpAny _ _ (call (Value.builtin "str.split") [_, _, _]) _ _ _); k_dflt (refine' split_three ?F ?N ?e ?y ?k ?z ?_; (case F => k_asm); (case N => k_asm); (case e => k_asm); (case y => decide); (case k => decide); (case z => first | omega | (simp only [S_length]; omega))); intro D' h' k' t1' t2' t3' F' N' l1; (try k_lt l1)))
theorem splitN_sum (k : Nat) : ∀ (l : List Nat) (lim : Nat), ((splitN k lim l).map List.length).sum ≤ l.length
  | [], _ => by simp [splitN]
  | c :: r, lim => by
    by_cases h : c = k ∧ 0 < lim
    · have e : splitN k lim (c :: r) = [] :: splitN k (lim - 1) r := by rw [splitN]; rw [if_pos h]
      have := splitN_sum k r (lim - 1)
      rw [e]; simp; omega
    · have e := splitN_ne k lim r
      obtain ⟨q, qs, e⟩ := e
      have e2 : splitN k lim (c :: r) = (c :: q) :: qs := by rw [splitN]; rw [if_neg h, e]
      have := splitN_sum k r lim
      rw [e] at this
      rw [e2]; simp at this ⊢; omega
theorem splitN_total (k lim : Nat) (l a b c : List Nat) (h : splitN k lim l = [a, b, c]) : c.length ≤ l.length := by
  have := splitN_sum k l lim
  rw [h] at this
  simp at this; omega
theorem slice_tail (a : Nat) (l : List Nat) : Txt.slice (S (a :: l)) (some 1) none = S l := by
  rw [slice_from_eq (b := (((a :: l).length : Nat) : Int)) (by decide) (by rw [S_length]; simp; omega) (by rw [S_length])]
  show (⟨(List.take _ (List.drop 1 (a :: l))).toArray⟩ : Str) = S l
  rw [List.drop_succ_cons, List.drop_zero, List.take_of_length_le (by simp)]
theorem item_zero (a : Nat) (l : List Nat) : Txt.item (S (a :: l)) 0 = S [a] := by
  unfold Txt.item Txt.charAt
  have : seqIndex? 0 (S (a :: l)).length = some 0 := by rw [S_length]; unfold seqIndex?; simp
  rw [this]
  rfl
set_option maxRecDepth 100000 in
set_option maxHeartbeats 8000000 in
theorem law_parted (w : World) (tx hd1 v c tl v' c' : List Nat) (h1 : splitN 34 2 tx = [hd1, v, 62 :: (c ++ 60 :: tl)]) (h2 : 60 ∉ c) (hT : tx.length ≤ 10000)
    (R1 : ∀ t, Ctr w 4 73 [.str (S v) t] (fun _ => True) (fun _ _ r => ∃ t', r = .str (S v') t')) (R2 : ∀ t, Ctr w 4 73 [.str (S c) t] (fun _ => True) (fun _ _ r => ∃ t', r = .str (S c') t')) (t : Tok) :
    Ctr w 5 80 [.str (S tx) t] (fun _ => True) (fun h h' r => ∃ D t1 t2 t3 t4 t5, r = .ref D ∧ h.get? D = none ∧ h'.get? D = some { cls := .type "list", data := .seq #[.str (S hd1) t1, .str (S v') t2, .str (S [62]) t3, .str (S c') t4, .str (S tl) t5] }) := by
  unfold Ctr
  w_top off
  k_fill
  intro dp un gd cn cs a ccd cl outer A₀ base h₀ L m s Q E mean mg mb B F X T hk hpre hdp hun hret
  refine wpAny_call ?_
  k_dflt (refine' enterP (binds := [(Str.ofString "text", .str (S tx) t)]) ?k1 ?k2 ?k3 ?k5 ?kA ?kF ?kK ?k6 ?k7 ?k8 ?k9 ?kB ?_ ?c2 ?c3 ?c4 ?c5; (case kA => exact rfl); (case kF => exact rfl); (case kK => assumption); (case k1 => k_asm); (case k2 => k_asm); (case k3 => k_asm); (case k5 => k_asm); (case k6 => k_is); (case k7 => k_is); (case k8 => ktr_room); (case k9 => exact BindsTo.of_eq rfl); (case c5 => decide); (case kB => exact locs rfl); (case c2 => exact rfl); (case c3 => exact rfl); (case c4 => exact rfl); k_whole; intro g' L' h' hg' F' N' B' X' T')
  dsimp only
  clear F B X T
  have hc1 : Txt.splitMax (S tx) (Str.ofString "\"") 2 = [S hd1, S v, S (62 :: (c ++ 60 :: tl))] := by
    have := splitMax_S tx 34 2
    rw [h1] at this
    exact this
  have hSl : (S tx).length ≤ 10000 := by rw [S_length]; exact hT
  have hTl := splitN_total 34 2 tx _ _ _ h1
  have hSr : (S (62 :: (c ++ 60 :: tl))).length ≤ 10000 := by rw [S_length]; omega
  have hSr2 : (S (c ++ 60 :: tl)).length ≤ 10000 := by rw [S_length] at hSr ⊢; rw [List.length_cons] at hSr; omega
  have hc2 : Txt.splitMax (S (c ++ 60 :: tl)) (Str.ofString "<") 1 = [S c, S tl] := by
    have := splitMax_S (c ++ 60 :: tl) 60 1
    rw [splitN_cut 60 0 c tl h2, splitN_zero] at this
    exact this
  rw [← slice_tail 62] at hc2
  k_steps
  rename Fr _ _ _ _ => F₁
  rename News _ _ _ _ => N₁
  refine (R1 _).step B' F₁ N₁ X' T' rfl (by dsimp only; omega) (by dsimp only; omega) fun r h₁ tk₁ F₂ N₂ hr => ?_
  obtain ⟨t₁, rfl⟩ := hr
  clear F₁ N₁
  dsimp only at F₂ N₂ ⊢
  k_steps
  rename Fr _ _ _ _ => F₁
  rename News _ _ _ _ => N₁
  refine (R2 _).step B' F₁ N₁ X' T' rfl (by dsimp only; omega) (by dsimp only; omega) fun r h₂ tk₂ F₃ N₃ hr => ?_
  obtain ⟨t₂, rfl⟩ := hr
  clear F₁ N₁
  dsimp only at F₃ N₃ ⊢
  k_steps
  rename Fr _ _ _ _ => F₁
  rename News _ _ _ _ => N₁
  rw [item_zero] at N₁
  have hN := N₁ _ (List.mem_cons_self ..)
  refine hret _ _ _ (fun x o e => F₁.keep x o (hg' ▸ e)) ⟨_, _, _, _, _, _, rfl, hg' ▸ hN.2.2, hN.1⟩
end Mine
end

section
open PySem PySem.W PyProof.Rows PySem.Calls
namespace Mine
open LCg
section
variable {prog : Program} {w : World} {A : Around} {E : Value → Shared → Prop} {s : Shared} {h₀ : Heap} {L : Addr} {m : Str → Option Value} {env : Env}
/-- what a comprehension over a text asks of that text's value -/
def SrcS (prog : Program) (w : World) (A : Around) (h₀ : Heap) (L : Addr) (m : Str → Option Value) (env : Env) (elt : Expr) (x : Str) (scope : Scope) (cl : List (Str × Addr)) (Fin : Shared → List Value → List (Addr × Obj) → Prop) (xv : Value) (s₁ : Shared) : Prop :=
  ∃ z t news, xv = .str z t ∧ A.handled = none ∧ Fr h₀ L s₁.heap m ∧ News h₀ L s₁.heap news ∧ z.cps.size ≤ sizeLine ∧
    ∀ s₂ : Shared, (∃ h, s₂ = { s₁ with heap := h }) → CompRest prog w A h₀ L m env elt x scope cl s₂ (fun _ => True) (SignAt z) (Fin s₂) z.cps.size 0 [] news
theorem ListComp_S {elt iter : Expr} {x : Str} {px : Pos} {scope : Scope} {cl : List (Str × Addr)} {pos : Pos} {Q : Value → Shared → Prop} (_F₀ : Fr h₀ L s.heap m)
    (hclos : closureFor scope env = pure cl) (hcell : ∀ y ∈ scope.names, y.2 ≠ .cell) (hkind : scope.kind = .function)
    (hnames : ∀ y ∈ scope.names, y.2 = .local → scope.names.lookup y.1 = some .local) (hx : scope.names.lookup x = some .local)
    (h : wpAny (model prog w) A (eval iter env) (SrcS prog w A h₀ L m env elt x scope cl (fun s₂ => FinE h₀ L m s₂ Q)) E s)
    (hs : ∀ x, foldedSetIterable iter env x = pure x := by intro _; rfl) :
    wpAny (model prog w) A (eval (.ListComp elt [⟨.Name x px, iter, [], 0⟩] scope pos) env) Q E s := by
  rw [eval_ListComp]
  refine wpAny_comprehension_free (use := none) rfl hs hclos hkind hnames (wpAny_mono h (fun xv s₁ h₁ => ?_) fun _ _ e => e)
  obtain ⟨z, t, news, rfl, hh, F, N, hsz, R⟩ := h₁
  cases ha : z.cps.all (· < 128)
  · refine wpAny_pyIter_wide ha ?_
    refine block_U (St := fun i h => h.IsStrIter s₁.heap.objs.size "str_iterator" z t i) (Walks.strWide hh s₁.heap.objs.size z t) hsz (fun i h st => let ⟨o, e, _⟩ := st; ⟨o, e⟩) (S := fun _ => True)
      (fun i h h' o nw st e e' _ _ _ => by obtain ⟨o', q, r⟩ := st; rw [e] at q; cases q; exact ⟨o, e', r⟩) hcell hkind hx ⟨_, Heap.get?_push_size _ rfl, rfl, rfl⟩ (fun b hb => ?_)
      (F.keeps fun _ _ e => Heap.get?_push_of_some _ e) (N.grown fun _ _ e => Heap.get?_push_of_some _ e) (Nat.ne_of_lt F.ns.lt) (next_is_new F) (fun p hp => Nat.ne_of_lt (Heap.lt_size (N p hp).1)) trivial (R _ ⟨_, rfl⟩) ?_
    · rw [List.mem_singleton.mp hb]
      show s₁.heap.objs.size < (s₁.heap.push _).objs.size
      rw [Heap.size_push]; exact Nat.lt_succ_self _
    · intro D C h tk m' ys news' F' N' o1 hn hC₀ hD₀ hCL hDL hCD offC fin
      refine ⟨m', hn, fun h'' hs'' => fin D h'' tk (F'.change hs'' hCL hC₀) (fun p hp => ?_) o1⟩
      refine ⟨hs''.extBut _ _ ?_ (N' p hp).1, (N' p hp).2⟩
      rcases List.mem_cons.mp hp with rfl | hp
      · exact Ne.symm hCD
      · exact offC p hp
  · refine wpAny_pyIter_ascii ha ?_
    refine block_U (St := fun i h => h.IsStrIter s₁.heap.objs.size "str_ascii_iterator" z t i) (Walks.strAscii hh s₁.heap.objs.size z t) hsz (fun i h st => let ⟨o, e, _⟩ := st; ⟨o, e⟩) (S := fun _ => True)
      (fun i h h' o nw st e e' _ _ _ => by obtain ⟨o', q, r⟩ := st; rw [e] at q; cases q; exact ⟨o, e', r⟩) hcell hkind hx ⟨_, Heap.get?_push_size _ rfl, rfl, rfl⟩ (fun b hb => ?_)
      (F.keeps fun _ _ e => Heap.get?_push_of_some _ e) (N.grown fun _ _ e => Heap.get?_push_of_some _ e) (Nat.ne_of_lt F.ns.lt) (next_is_new F) (fun p hp => Nat.ne_of_lt (Heap.lt_size (N p hp).1)) trivial (R _ ⟨_, rfl⟩) ?_
    · rw [List.mem_singleton.mp hb]
      show s₁.heap.objs.size < (s₁.heap.push _).objs.size
      rw [Heap.size_push]; exact Nat.lt_succ_self _
    · intro D C h tk m' ys news' F' N' o1 hn hC₀ hD₀ hCL hDL hCD offC fin
      refine ⟨m', hn, fun h'' hs'' => fin D h'' tk (F'.change hs'' hCL hC₀) (fun p hp => ?_) o1⟩
      refine ⟨hs''.extBut _ _ ?_ (N' p hp).1, (N' p hp).2⟩
      rcases List.mem_cons.mp hp with rfl | hp
      · exact Ne.symm hCD
      · exact offC p hp
theorem comp_str {elt : Expr} {x : Str} {scope : Scope} {cl : List (Str × Addr)} {Fin : List Value → List (Addr × Obj) → Prop} {news : List (Addr × Obj)} (l : List Nat) (f : Nat → Str)
    (turn : ∀ c t I oI C oC D m₂ ys h tk (E' : Value → Shared → Prop), c ∈ l → NsObj oC m₂ → m₂ x = some (.str (S [c]) t) → Fr h₀ L h m → News h₀ L h ((I, oI) :: (C, oC) :: (D, lst ys) :: news) → Off3 I C D news → ((@Ne Nat I C) ∧ (@Ne Nat I D) ∧ (@Ne Nat C D)) →
      wpAny (model prog w) A (eval elt (compEnvC scope cl C env)) (CompEnd h₀ L m { s with heap := h, toks := tk } I oI C oC D (lst ys) (fun _ => True) (fun y news' => news' = news ∧ ∃ t, y = .str (f c) t)) E' { s with heap := h, toks := tk })
    (fin : ∀ ys, StrsAre ys (l.map f) → Fin ys news) : CompRest prog w A h₀ L m env elt x scope cl s (fun _ => True) (SignAt (S l)) Fin l.length 0 [] news := by
  have key : ∀ (j i : Nat) (ys : List Value), i + j = l.length → StrsAre ys ((l.take i).map f) → CompRest prog w A h₀ L m env elt x scope cl s (fun _ => True) (SignAt (S l)) Fin j i ys news := by
    intro j
    induction j with
    | zero =>
      intro i ys hi hy
      have e : i = l.length := by omega
      subst e
      rw [List.take_length] at hy
      exact CompRest.zero (fin ys hy)
    | succ j ih =>
      intro i ys hi hy
      refine CompRest.succ ?_
      intro v I oI C oC D m₂ h tk E' hv hC hx F N off ne
      obtain ⟨c, u, hc, rfl⟩ := hv
      have hc : l[i]? = some c := by simpa using hc
      refine wpAny_mono (turn c u I oI C oC D m₂ ys h tk E' (List.mem_of_getElem? hc) hC hx F N off ne) (fun y s₂ hq => ?_) fun _ _ e => e
      obtain ⟨h', tk', nw, e, F', N', off', hS, hn, t', hy'⟩ := hq
      rw [hn] at N' off'
      refine ⟨h', tk', news, e, F', N', off', trivial, ?_⟩
      rw [hy']
      refine ih (i + 1) _ (by omega) ?_
      rw [List.take_add_one, hc]
      simpa using kct_snoc hy
  exact key l.length 0 [] (by omega) (by simp only [List.take_zero, List.map_nil]; exact .nil)
theorem src_str {elt : Expr} {x : Str} {scope : Scope} {cl : List (Str × Addr)} {Fin : Shared → List Value → List (Addr × Obj) → Prop} {news : List (Addr × Obj)} {l : List Nat} {t : Tok} {s₁ : Shared} (f : Nat → Str)
    (hh : A.handled = none) (F : Fr h₀ L s₁.heap m) (N : News h₀ L s₁.heap news) (hz : l.length ≤ 16777216)
    (turn : ∀ g c t I oI C oC D m₂ ys h tk (E' : Value → Shared → Prop), c ∈ l → NsObj oC m₂ → m₂ x = some (.str (S [c]) t) → Fr h₀ L h m → News h₀ L h ((I, oI) :: (C, oC) :: (D, lst ys) :: news) → Off3 I C D news → ((@Ne Nat I C) ∧ (@Ne Nat I D) ∧ (@Ne Nat C D)) →
      wpAny (model prog w) A (eval elt (compEnvC scope cl C env)) (CompEnd h₀ L m { s₁ with heap := h, toks := tk } I oI C oC D (lst ys) (fun _ => True) (fun y news' => news' = news ∧ ∃ t, y = .str (f c) t)) E' { { s₁ with heap := g } with heap := h, toks := tk })
    (fin : ∀ g ys, StrsAre ys (l.map f) → Fin { s₁ with heap := g } ys news) : SrcS prog w A h₀ L m env elt x scope cl Fin (.str (S l) t) s₁ := by
  refine ⟨S l, t, news, rfl, hh, F, N, by simpa [sizeLine] using hz, ?_⟩
  rintro s₂ ⟨g, rfl⟩
  have e : (S l).cps.size = l.length := by simp
  rw [e]
  exact comp_str l f (turn g) (fin g)
end
end Mine
end

section
open PySem PySem.W PyProof.Rows PySem.Calls
namespace Mine
theorem S_beq (a c : Nat) : (S [a] == S [c]) = decide (c = a) := by
  by_cases h : c = a
  · subst h; simp
  · rw [decide_eq_false h]
    rw [beq_eq_false_iff_ne]
    intro e
    have := S_inj e
    simp at this
    exact h this.symm
theorem any7 (c : Nat) : ([Str.ofString "&", Str.ofString "<", Str.ofString ">", Str.ofString "\"", Str.ofString "\x0d", Str.ofString "\n", Str.ofString "\t"].any fun x => x == S [c]) = decide (c ∈ sevens) := by
  rw [show Str.ofString "&" = S [38] from rfl, show Str.ofString "<" = S [60] from rfl, show Str.ofString ">" = S [62] from rfl, show Str.ofString "\"" = S [34] from rfl, show Str.ofString "\x0d" = S [13] from rfl, show Str.ofString "\n" = S [10] from rfl, show Str.ofString "\t" = S [9] from rfl]
  simp only [List.any_cons, List.any_nil, S_beq, sevens, List.mem_cons, List.not_mem_nil, or_false]
  simp [Bool.or_eq_true]
theorem any3 (c : Nat) : ([Str.ofString "&", Str.ofString "<", Str.ofString ">"].any fun x => x == S [c]) = decide (c ∈ [38, 60, 62]) := by
  rw [show Str.ofString "&" = S [38] from rfl, show Str.ofString "<" = S [60] from rfl, show Str.ofString ">" = S [62] from rfl]
  simp only [List.any_cons, List.any_nil, S_beq, List.mem_cons, List.not_mem_nil, or_false]
  simp [Bool.or_eq_true]
theorem index_txt {prog : Program} {w : World} {A : Around} {E : Value → Shared → Prop} {s : Shared} {h₀ : Heap} {L D : Addr} {news : List (Addr × Obj)} {its : List Value} {ys : List Str} {n : Nat} {x : Str} {t : Tok} {j : Nat} {Q : Value → Shared → Prop}
    (N : News h₀ L s.heap news) (hm : (D, listOf its.toArray n) ∈ news) (hi : StrsAre its ys) (e : its.findIdx? (isStrOf x) = some j) (hz : its.length ≤ 1000)
    (h : Q (.int j s.toks) { s with toks := s.toks + 1 }) : wpAny (model prog w) A (call (.builtin "list.index") [.ref D, .str x t]) Q E s := by
  obtain ⟨a, b, c⟩ := List.findIdx?_eq_some_iff_getElem.mp e
  refine call_meets PySem.F.slot_list_index ⟨_, (N _ hm).1, rfl⟩ PySem.F.entry_list_index (PySem.F.args_list_index_2 _ _)
    (MeetsSeq.list_index D its.toArray n (.str x t) (isStrOf x) (fun y hy => eq_isStrOf x t hi y (by simpa using hy)) j (by simpa using a) (by omega) (by simpa using b) (fun i hi hlt => ?_)) ⟨(N _ hm).1, h⟩
  simpa using c i hlt
end Mine
end

section
open PySem PySem.W PyProof.Rows PySem.Calls
namespace Mine
open LCg
theorem join_flat' (f : Nat → List Nat) : ∀ l : List Nat, Str.join (Str.ofString "") (l.map fun c => S (f c)) = S (l.flatMap f)
  | [] => rfl
  | [c] => by simp [Str.join]
  | c :: d :: r => by
    have ih := join_flat' f (d :: r)
    have e : Str.join (Str.ofString "") ((c :: d :: r).map fun c => S (f c)) = S (f c) ++ Str.ofString "" ++ Str.join (Str.ofString "") ((d :: r).map fun c => S (f c)) := rfl
    rw [e, ih, show Str.ofString "" = S [] from rfl, S_append, S_append]
    simp
theorem join_flat (f : Nat → List Nat) (l : List Nat) : Txt.join (Str.ofString "") (l.map fun c => S (f c)) = S (l.flatMap f) := by
  rw [← join_flat' f l]
  exact eq_of_beq (join_plain_closes _ _)
theorem join_fits (f : Nat → List Nat) (hf : ∀ c, (f c).length ≤ 6) (l : List Nat) (hl : l.length ≤ 1000) : ((l.map fun c => S (f c)).map (·.length)).sum + (l.map fun c => S (f c)).length * 64 ≤ 16777216 := by
  have h : ((l.map fun c => S (f c)).map (·.length)).sum ≤ 6 * l.length := by
    clear hl
    induction l with
    | nil => simp
    | cons c r ih =>
      have := hf c
      simp only [List.map_cons, List.sum_cons, S_length, List.length_cons] at ih ⊢
      omega
  rw [List.length_map]
  omega
theorem e7_other {c : Nat} (h : c ∉ sevens) : e7 c = [c] := by
  simp only [sevens, List.mem_cons, List.not_mem_nil, or_false, not_or] at h
  obtain ⟨h1, h2, h3, h4, h5, h6, h7⟩ := h
  simp only [e7, if_neg h1, if_neg h2, if_neg h3, if_neg h4, if_neg h5, if_neg h6, if_neg h7]
theorem e3_other {c : Nat} (h : c ∉ [38, 60, 62]) : e3 c = [c] := by
  simp only [List.mem_cons, List.not_mem_nil, or_false, not_or] at h
  obtain ⟨h1, h2, h3⟩ := h
  simp only [e3, if_neg h1, if_neg h2, if_neg h3]
local macro_rules | `(tactic| walk_at "eval ListComp") => `(tactic| (k_here; k_dflt (refine ListComp_S (by k_asm) (by with_unfolding_all rfl) (by decide) (by rfl) (by decide) (by rfl) ?_)))
local macro_rules | `(tactic| walk_at "call builtin:list.index") => `(tactic| (k_here; (with_reducible show wpAny _ _ (call (Value.builtin "list.index") [Value.ref _, Value.str _ _]) _ _ _); k_dflt (refine' index_txt ?N ?m ?i ?e ?z ?_; (case N => k_asm); (case m => k_mem); (case i => (repeat constructor)); (case e => rfl); (case z => exact Nat.le_of_ble_eq_true rfl))))
local macro_rules | `(tactic| walk_at "binaryOp Add str str") => `(tactic| (k_here; (with_reducible show wpAny _ _ (binaryOp Operator.Add (Value.str _ _) (Value.str _ _)) _ _ _); (refine add_G ?z ?_); (case z => decide +kernel); intro t' k'))
set_option maxRecDepth 100000 in
set_option maxHeartbeats 8000000 in
theorem law_spelled7 (w : World) (l : List Nat) (hl : l.length ≤ 1000) (t t2 : Tok) : Ctr w 5 54 [.str (S l) t, .int 7 t2] (fun _ => True) (fun _ _ r => ∃ t', r = .str (S (l.flatMap e7)) t') := by
  unfold Ctr
  w_top off
  k_fill
  intro dp un gd cn cs a ccd cl outer A₀ base h₀ L m s Q E mean mg mb B F X T hk hpre hdp hun hret
  refine wpAny_call ?_
  k_dflt (refine' enterPC (binds := [(Str.ofString "text", .str (S l) t), (Str.ofString "count", .int 7 t2)]) ?k1 ?k2 ?k3 ?k5 ?kA ?kF ?kK ?k6 ?k7 ?k8 ?k9 ?kB ?kD ?_ ?c2 ?c3 ?c4; (case kA => exact rfl); (case kF => exact rfl); (case kK => assumption); (case k1 => k_asm); (case k2 => k_asm); (case k3 => k_asm); (case k5 => k_asm); (case k6 => k_is); (case k7 => k_is); (case k8 => ktr_room); (case k9 => exact BindsTo.of_eq rfl); (case kB => exact rfl); (case kD => decide +kernel); (case c2 => exact rfl); (case c3 => exact rfl); (case c4 => exact rfl); k_whole; intro g' L' h' tk' cells' hg' F' N' Y' B' X' T'; k_cells Y'; (try simp only [List.cons_append, List.nil_append] at N'))
  dsimp only
  clear F B X T
  have hSl : (S l).length ≤ 1000 := by rw [S_length]; exact hl
  k_steps
  all_goals (dsimp only at *)
  rename Fr _ _ _ _ => F₂
  rename News _ _ _ _ => N₂
  refine src_str (fun c => S (e7 c)) rfl F₂ N₂ (by omega) ?_ ?_
  · intro g c t I oI C oC D m₂ ys h tk E' hc hC hx F₃ N₃ off ne
    clear F₂ N₂
    dsimp only
    simp only [LCg.Off3, and_true] at off
    k_steps
    · rename (List.any _ _) = true => ha
      rw [any7] at ha
      have hc7 := of_decide_eq_true ha
      clear ha hc
      simp only [sevens, List.mem_cons, List.not_mem_nil, or_false] at hc7
      rcases hc7 with rfl | rfl | rfl | rfl | rfl | rfl | rfl
      all_goals k_steps
      all_goals exact rfl
    · rename (List.any _ _) = false => ha
      rw [any7] at ha
      have hc7 := of_decide_eq_false ha
      rw [e7_other hc7]
  · intro g ys hys
    clear F₂ N₂
    k_steps
    rename News _ _ _ _ => N₄
    rename Fr _ _ _ _ => F₄
    refine join_listC (N₄.isList (.head _)) hys (by decide) (join_fits e7 e7_length l hl) ?_
    intro t' k'
    rw [join_flat]
    refine hret _ _ _ (fun x o e => F₄.keep x o (hg' ▸ e)) ⟨_, rfl⟩
set_option maxRecDepth 100000 in
set_option maxHeartbeats 8000000 in
theorem law_spelled3 (w : World) (l : List Nat) (hl : l.length ≤ 1000) (t t2 : Tok) : Ctr w 5 54 [.str (S l) t, .int 3 t2] (fun _ => True) (fun _ _ r => ∃ t', r = .str (S (l.flatMap e3)) t') := by
  unfold Ctr
  w_top off
  k_fill
  intro dp un gd cn cs a ccd cl outer A₀ base h₀ L m s Q E mean mg mb B F X T hk hpre hdp hun hret
  refine wpAny_call ?_
  k_dflt (refine' enterPC (binds := [(Str.ofString "text", .str (S l) t), (Str.ofString "count", .int 3 t2)]) ?k1 ?k2 ?k3 ?k5 ?kA ?kF ?kK ?k6 ?k7 ?k8 ?k9 ?kB ?kD ?_ ?c2 ?c3 ?c4; (case kA => exact rfl); (case kF => exact rfl); (case kK => assumption); (case k1 => k_asm); (case k2 => k_asm); (case k3 => k_asm); (case k5 => k_asm); (case k6 => k_is); (case k7 => k_is); (case k8 => ktr_room); (case k9 => exact BindsTo.of_eq rfl); (case kB => exact rfl); (case kD => decide +kernel); (case c2 => exact rfl); (case c3 => exact rfl); (case c4 => exact rfl); k_whole; intro g' L' h' tk' cells' hg' F' N' Y' B' X' T'; k_cells Y'; (try simp only [List.cons_append, List.nil_append] at N'))
  dsimp only
  clear F B X T
  have hSl : (S l).length ≤ 1000 := by rw [S_length]; exact hl
  k_steps
  all_goals (dsimp only at *)
  rename Fr _ _ _ _ => F₂
  rename News _ _ _ _ => N₂
  refine src_str (fun c => S (e3 c)) rfl F₂ N₂ (by omega) ?_ ?_
  · intro g c t I oI C oC D m₂ ys h tk E' hc hC hx F₃ N₃ off ne
    clear F₂ N₂
    dsimp only
    simp only [LCg.Off3, and_true] at off
    k_steps
    · rename (List.any _ _) = true => ha
      rw [any3] at ha
      have hc7 := of_decide_eq_true ha
      clear ha hc
      simp only [List.mem_cons, List.not_mem_nil, or_false] at hc7
      rcases hc7 with rfl | rfl | rfl
      all_goals k_steps
      all_goals exact rfl
    · rename (List.any _ _) = false => ha
      rw [any3] at ha
      have hc7 := of_decide_eq_false ha
      rw [e3_other hc7]
  · intro g ys hys
    clear F₂ N₂
    k_steps
    rename News _ _ _ _ => N₄
    rename Fr _ _ _ _ => F₄
    refine join_listC (N₄.isList (.head _)) hys (by decide) (join_fits e3 e3_length l hl) ?_
    intro t' k'
    rw [join_flat]
    refine hret _ _ _ (fun x o e => F₄.keep x o (hg' ▸ e)) ⟨_, rfl⟩
end Mine
end

section
open PySem PySem.W PyProof.Rows PySem.Calls
set_option maxRecDepth 100000
namespace Mine
section
variable {prog : Program} {w : World} {A : Around} {E : Value → Shared → Prop} {s : Shared} {env : Env} {g : Heap} {target : Expr} {body : List Stmt} {Q : Flow → Shared → Prop}
theorem loopT {L I : Addr} {fp : List Addr} {n : Nat} {P : Nat → Value → Prop} {St : Nat → Heap → Prop} {m : Str → Option Value} {news fix : List (Addr × Obj)}
    (hL : env.locals = L) (W : Walks prog w A I fp [I] n P St) (hobj : ∀ i h, St i h → ∃ o, h.get? I = some o) (hfp : ∀ b ∈ fp, b = I ∨ (∃ o, g.get? b = some o) ∨ ∃ o, (b, o) ∈ fix)
    (hgo : ∀ i (s' : Shared) v (Q' : Unit → Shared → Prop), St i s'.heap → Q' () s' → wpAny (model prog w) A (letOwnedTupleGo target (.ref I) v) Q' E s')
    (hLf : L ∉ fp) (hI : g.get? I = none) (hst : St 0 s.heap) (F : Fr g L s.heap m) (N : News g L s.heap (news ++ fix)) (hnI : ∀ p ∈ news ++ fix, p.1 ≠ I)
    (J : Nat → (Str → Option Value) → List (Addr × Obj) → Prop) (h0 : J 0 m news)
    (step : ∀ i v m₁ news₁ oI h gs dr tk os, i < n → P i v → J i m₁ news₁ → (∀ p ∈ news₁, p.1 ≠ I) → Fr g L h m₁ → News g L h ((I, oI) :: (news₁ ++ fix)) →
      wpAny (model prog w) A (assign target env v) (fun _ s₂ => wpAny (model prog w) A (execs body env) (TurnEnd g L I oI fix (J (i + 1)) ⟨h, gs, dr, tk, os⟩) E s₂) E ⟨h, gs, dr, tk, os⟩)
    (done : ∀ h' tk m' news', Fr g L h' m' → News g L h' (news' ++ fix) → J n m' news' → Q .next { s with heap := h', toks := tk }) :
    LoopAtT prog w A g env target body Q E (.ref I) s := by
  subst hL
  refine ⟨I, fp, [I], n, P, St, m, news ++ fix, fun i m₁ ns => ∃ n₁, ns = n₁ ++ fix ∧ (∀ p ∈ n₁, p.1 ≠ I) ∧ J i m₁ n₁, rfl, W, hLf, ?_, ?_, hst, F, N, hgo, ⟨news, rfl, fun p hp => hnI p (List.mem_append_left _ hp), h0⟩, ?_, ?_⟩
  · intro b hb; rw [List.mem_singleton.mp hb]; exact hI
  · intro p hp hb; exact hnI p hp (List.mem_singleton.mp hb)
  · rintro i v m₁ ns s₁ own hi hP ⟨n₁, rfl, hn₁, hJ⟩ hoff hown hget hall hst₁ F₁ N₁
    obtain ⟨h, gs, dr, tk, os⟩ := s₁
    obtain ⟨oI, ho⟩ := hobj _ _ hst₁
    have hIown : (I, oI) ∈ own := hall I (W.sub I (List.mem_singleton.mpr rfl)) hI _ ho
    have N₂ : News g env.locals h ((I, oI) :: (n₁ ++ fix)) := fun p hp => by
      rcases List.mem_cons.mp hp with rfl | hp
      · exact N₁ _ (List.mem_append_left _ hIown)
      · exact N₁ p (List.mem_append_right _ hp)
    refine wpAny_mono (step i v m₁ n₁ oI h gs dr tk os hi hP hJ hn₁ F₁ N₂) (fun _ s₂ h₂ => wpAny_mono h₂ (fun f s₂ h₂ => ?_) fun _ _ e => e) fun _ _ e => e
    obtain ⟨rfl, h', tk', m₂, n₂, rfl, F', N', hn₂, hJ'⟩ := h₂
    refine LoopStepU.intro (news₂ := n₂ ++ fix) F' (fun p hp => ?_) (fun p hp hb => ?_) ⟨n₂, rfl, hn₂, hJ'⟩
    · rcases List.mem_append.mp hp with hp | hp
      · rcases hfp _ (hown p hp) with e | ⟨o, e⟩ | ⟨o, e⟩
        · have hg := hget p hp
          rw [e] at hg
          have : p.2 = oI := by
            have hg' : h.get? I = some p.2 := hg
            rw [ho] at hg'; exact (Option.some.inj hg').symm
          have : p = (I, oI) := by rw [← e, ← this]
          rw [this]; exact N' _ (List.mem_cons_self ..)
        · have := (N₁ p (List.mem_append_left _ hp)).2.2
          rw [e] at this; cases this
        · have hg := hget p hp
          have hg2 := (N₁ _ (List.mem_append_right own (List.mem_append_right n₁ e))).1
          have : p.2 = o := by
            have hg' : h.get? p.1 = some p.2 := hg
            have hg3 : h.get? p.1 = some o := hg2
            rw [hg3] at hg'; exact (Option.some.inj hg').symm
          have : p = (p.1, o) := by rw [← this]
          rw [this]; exact N' _ (List.mem_cons_of_mem _ (List.mem_append_right _ e))
      · exact N' p (List.mem_cons_of_mem _ hp)
    · have hb' := List.mem_singleton.mp hb
      rcases List.mem_append.mp hp with hp | hp
      · exact hn₂ p hp hb'
      · exact hoff p (List.mem_append_right _ hp) hb
  · rintro h' tk m' ns F' N' _ ⟨n₁, rfl, _, hJ⟩
    exact done h' tk m' n₁ F' N' hJ
theorem iter_listT {L ax : Addr} {items : Array Value} {nn : Nat} {m : Str → Option Value} {news fix : List (Addr × Obj)} (hL : env.locals = L) (hh : A.handled = none)
    (hm : (ax, ({ cls := .type "list", data := .seq items nn } : Obj)) ∈ fix)
    (F : Fr g L s.heap m) (N : News g L s.heap (news ++ fix)) (J : (Str → Option Value) → Nat → (Str → Option Value) → List (Addr × Obj) → Prop) (h0 : J m 0 m news)
    (step : ∀ i v m₁ news₁ I oI h gs dr tk os, items[i]? = some v → J m i m₁ news₁ → (∀ p ∈ news ++ fix, p.1 < I) → (∀ p ∈ news₁, p.1 ≠ I) → Fr g L h m₁ →
      News g L h ((I, oI) :: (news₁ ++ fix)) →
      wpAny (model prog w) A (assign target env v) (fun _ s₂ => wpAny (model prog w) A (execs body env) (TurnEnd g L I oI fix (J m (i + 1)) ⟨h, gs, dr, tk, os⟩) E s₂) E ⟨h, gs, dr, tk, os⟩)
    (done : ∀ h' tk m' news', Fr g L h' m' → News g L h' (news' ++ fix) → J m items.size m' news' → Q .next { s with heap := h', toks := tk }) :
    wpAny (model prog w) A (pyIter (.ref ax)) (fun it s₂ => LoopAtT prog w A g env target body Q E it s₂) E s := by
  subst hL
  have hax := N _ (List.mem_append_right news hm)
  have hl : s.heap.IsList ax items := ⟨_, hax.1, rfl, nn, rfl⟩
  have hlt : ∀ p ∈ news ++ fix, p.1 < s.heap.objs.size := fun p hp => Heap.lt_size (N p hp).1
  have hL : env.locals < s.heap.objs.size := F.ns.lt
  have hne : ax ≠ s.heap.objs.size := Nat.ne_of_lt (Heap.lt_size hax.1)
  refine wpAny_pyIter_list hl ?_
  refine loopT rfl (fix := fix) (news := news) (I := s.heap.objs.size) (s := { s with heap := s.heap.push { cls := .type "list_iterator", data := .fields #[.ref ax, .int 0 0] } }) (Walks.list hh s.heap.objs.size ax hne items) (fun i h st => let ⟨o, ho, _⟩ := st.1; ⟨o, ho⟩) ?_ (fun i s' v Q' st hQ' => letGo_listiter st.1 hQ') ?_ ?_ ?_ (F.push _) ?_ ?_ (J m) h0 ?_ ?_
  · intro b hb
    rcases List.mem_cons.mp hb with rfl | hb
    · exact .inl rfl
    · rw [List.mem_singleton.mp hb]; exact .inr (.inr ⟨_, hm⟩)
  · intro hb
    rcases List.mem_cons.mp hb with e | hb
    · exact absurd e (Nat.ne_of_lt hL)
    · have e := List.mem_singleton.mp hb
      exact hax.2.1 e.symm
  · cases hq : g.get? s.heap.objs.size with
    | none => rfl
    | some o => exact absurd (Heap.lt_size (F.keep _ _ hq)) (Nat.lt_irrefl _)
  · exact ⟨⟨_, Heap.get?_push_size _ rfl, rfl, rfl⟩, hl.push _⟩
  · exact fun p hp => ⟨Heap.get?_push_of_some _ (N p hp).1, (N p hp).2⟩
  · exact fun p hp => Nat.ne_of_lt (hlt p hp)
  · intro i v m₁ news₁ oI h gs dr tk os hi hP hJ hn₁ F₁ N₁
    exact step i v m₁ news₁ _ oI h gs dr tk os hP hJ hlt hn₁ F₁ N₁
  · intro h' tk m' news' F' N' hJ
    exact done h' tk m' news' F' N' hJ
end
end Mine
end

section
open PySem PySem.W PyProof.Rows PySem.Calls
set_option maxRecDepth 100000
namespace Mine
theorem seq_list_iadd : seqSlot? (.type "list") (dunderI "add") = pure (some (.builtin "list.__iadd__")) := PySem.seqSlot_of F.slot_list_iadd.lookup (by decide +kernel)
theorem noFill_list_iadd : fillsInplaceSlot (.type "list") "add" (Operator.Add == .Add) = pure false := by
  unfold fillsInplaceSlot
  show (typeLookup (.type "list") (dunderI "add") >>= fun fi => pure (fi.isSome && !isSeqSlot fi)) = pure false
  rw [F.slot_list_iadd.lookup]
  show (pure _ : Sem Bool) = pure false
  refine congrArg pure ?_
  decide +kernel
section
variable {prog : Program} {w : World} {A : Around} {E : Value → Shared → Prop} {s : Shared} {h₀ : Heap} {L D b : Addr} {m : Str → Option Value} {news news' : List (Addr × Obj)} {its its2 : Array Value} {l : List Value} {n n2 : Nat}
theorem iadd_lists {Q : Value → Shared → Prop} (F : Fr h₀ L s.heap m) (N : News h₀ L s.heap news) (hb : (b, listOf its2 n2) ∈ news) (e : its.toList ++ its2.toList = l) (hne : its2.toList.length ≠ 0)
    (U : Upd D (listOf its n) (listOf l.toArray (n + 1)) news news') (hz : its.size + its2.size ≤ 16777216)
    (h : ∀ h', Fr h₀ L h' m → News h₀ L h' news' → Q (.ref D) { s with heap := h' }) : wpAny (model prog w) A (inplaceOp .Add (.ref D) (.ref b)) Q E s := by
  obtain ⟨pre, post, rfl, rfl, a, c⟩ := U.split
  have z := N (D, listOf its n) (List.mem_append.mpr (.inr (.head _)))
  have hs : sizeLine = 16777216 := by decide
  have ha : s.TypeIs (.ref D) "list" := ⟨_, z.1, rfl⟩
  have hb' : s.TypeIs (.ref b) "list" := ⟨_, (N _ hb).1, rfl⟩
  unfold inplaceOp
  refine wpAny_holding ?_
  refine wpAny_bind (wpAny_typeOf ha (wpAny_bind (wpAny_of_eq noFill_list_iadd ?_)))
  show wpAny _ A (if false = true then _ else _) Q E s
  rw [if_neg Bool.false_ne_true]
  refine wpAny_bind (wpAny_binaryOp1_none (nm := "add") ha hb' noFill_list_add ?_)
  refine wpAny_bind (wpAny_of_eq seq_list_iadd ?_)
  refine wpAny_bind (wpAny_rule ?_)
  refine call_meets PySem.F.slot_list_iadd ha PySem.F.entry_list_iadd (PySem.F.args_list_iadd_2 _ _) (PySem.AutoSeq1.list___iadd___list_list_0 D its n b its2 n2 (extend_door (by omega)) (by omega) (by omega)) ⟨z.1, (N _ hb).1, h _ (F.change (Heap.SameBut.update ..) z.2.1 z.2.2) (kl_turn _ N a c ?_ ?_)⟩
  · subst e
    apply Array.toList_inj.mp
    simp
  · subst e
    simp at hne ⊢
    exact hne
end
end Mine
end

section
open PySem PySem.W PyProof.Rows PySem.Calls
namespace Mine
def okSign (c : Nat) : Bool := decide (c < 55296) || (decide (57344 ≤ c) && decide (c < 1114112))
def goodT (i : Nat) (a : Str) : Prop := a.length ≤ 4 * i ∧ a.cps.toList.all okSign = true
theorem goodT_nil : goodT 0 (Str.ofString "") := ⟨by decide +kernel, by decide +kernel⟩
theorem goodT_more {i : Nat} {a : Str} (h : goodT i a) : goodT (i + 1) a := ⟨by have := h.1; omega, h.2⟩
theorem goodT_le {i j : Nat} {a : Str} (h : goodT i a) (hj : i ≤ j) : goodT j a := ⟨by have := h.1; omega, h.2⟩
theorem goodT_add {i : Nat} {a b : Str} (h : goodT i a) (h' : goodT 1 b) : goodT (i + 1) (a ++ b) := by
  refine ⟨?_, ?_⟩
  · rw [append_length]; have := h.1; have := h'.1; omega
  · have h1 := h.2
    have h2 := h'.2
    rw [Str.cps_append, Array.toList_append, List.all_append, h1, h2]; rfl
theorem ints_at {vs : List Value} {xs : List Int} {i : Nat} {v : Value} (h : IntsAre vs xs) (hv : vs.toArray[i]? = some v) : ∃ x t, v = .int x t := by
  have hv : vs[i]? = some v := by simpa using hv
  induction h generalizing i with
  | nil => cases hv
  | cons n t _ ih =>
    cases i with
    | zero => exact ⟨_, _, (Option.some.inj hv).symm⟩
    | succ i => exact ih (by simpa using hv) (by simpa using hv)
theorem ints_len {vs : List Value} {xs : List Int} (h : IntsAre vs xs) : vs.length = xs.length := by
  induction h with
  | nil => rfl
  | cons n t _ ih => simp [ih]
theorem idx_lt {vs : List Value} {xs : List Int} {i : Nat} {v : Value} (h : IntsAre vs (xs.take 12 ++ [0, 20, 25, 13, 28, 11, 30, 8, 3, 31])) (hv : vs.toArray[i]? = some v) : i < 22 := by
  have hl := ints_len h
  have hv : vs[i]? = some v := by simpa using hv
  have := (List.getElem?_eq_some_iff.mp hv).1
  simp only [List.length_append, List.length_take, List.length_cons, List.length_nil] at hl
  omega
theorem news3 {g : Heap} {L : Addr} {h : Heap} {l : List (Addr × Obj)} (N : News g L h l) (i j k : Nat) {x y z : Addr × Obj} (hi : l[i]? = some x) (hj : l[j]? = some y) (hk : l[k]? = some z) : News g L h [x, y, z] := by
  intro p hp
  simp only [List.mem_cons, List.not_mem_nil, or_false] at hp
  rcases hp with rfl | rfl | rfl
  · exact N _ (List.mem_of_getElem? hi)
  · exact N _ (List.mem_of_getElem? hj)
  · exact N _ (List.mem_of_getElem? hk)
local macro_rules | `(tactic| walk_at "inplaceOp Add str str") => `(tactic| (k_here; (with_reducible show wpAny _ _ (inplaceOp Operator.Add (Value.str _ _) (Value.str _ _)) _ _ _); (refine iadd_G ?z ?_); (case z => omega); intro t' k'))
set_option maxRecDepth 100000 in
set_option maxHeartbeats 8000000 in
theorem law_drawn (w : World) (Ax : Addr) (vs : List Value) (xs : List Int) (hI : IntsAre vs xs) (hx : xs.length ≤ 63) :
    Ctr w 5 49 [.ref Ax] (fun h => h.IsList Ax vs.toArray) (fun h h' r => ∃ D v c t1 t2, r = .ref D ∧ h.get? D = none ∧ h'.get? D = some { cls := .type "list", data := .seq #[.str v t1, .str c t2] } ∧ goodT 22 v ∧ goodT 22 c) := by
  unfold Ctr
  w_top off
  k_fill
  intro dp un gd cn cs a ccd cl outer A₀ base h₀ L m s Q E mean mg mb B F X T hk hpre hdp hun hret
  refine wpAny_call ?_
  k_dflt (refine' enterP (binds := [(Str.ofString "script", .ref Ax)]) ?k1 ?k2 ?k3 ?k5 ?kA ?kF ?kK ?k6 ?k7 ?k8 ?k9 ?kB ?_ ?c2 ?c3 ?c4 ?c5; (case kA => exact rfl); (case kF => exact rfl); (case kK => assumption); (case k1 => k_asm); (case k2 => k_asm); (case k3 => k_asm); (case k5 => k_asm); (case k6 => k_is); (case k7 => k_is); (case k8 => ktr_room); (case k9 => exact BindsTo.of_eq rfl); (case c5 => decide); (case kB => exact locs rfl); (case c2 => exact rfl); (case c3 => exact rfl); (case c4 => exact rfl); k_whole; intro g' L' h' hg' F' N' B' X' T')
  dsimp only
  clear F B X T
  rw [hg'] at hpre
  k_steps
  all_goals (dsimp only at *)
  rename IntsAre _ (_ ++ _) => hI₂
  rename Fr _ _ _ _ => F₂
  rename News _ _ _ _ => N₂
  rename_i tk₀ pc _ _ _ tk₁ dr _ hlt₁ _ _ _ _ _ _ _ _ _ _ _ _ D ws _ hlt₂
  generalize hpl : (#[Value.str (Str.ofString "&") _, _, _, _, _, _, _, _, _, _, _, _, _, _, _, _] : Array Value) = pl at N₂
  have hP : ∀ j : Nat, j < 16 → ∃ x t, pl[j]? = some (.str x t) ∧ goodT 1 x := by
    subst hpl
    intro j hj
    have : j = 0 ∨ j = 1 ∨ j = 2 ∨ j = 3 ∨ j = 4 ∨ j = 5 ∨ j = 6 ∨ j = 7 ∨ j = 8 ∨ j = 9 ∨ j = 10 ∨ j = 11 ∨ j = 12 ∨ j = 13 ∨ j = 14 ∨ j = 15 := by omega
    rcases this with rfl | rfl | rfl | rfl | rfl | rfl | rfl | rfl | rfl | rfl | rfl | rfl | rfl | rfl | rfl | rfl
    all_goals exact ⟨_, _, rfl, by decide +kernel, by decide +kernel⟩
  clear hpl
  have N₃ := news3 N₂ 3 0 4 rfl rfl rfl
  clear N₂
  refine iter_listM (L := L') (fix := [_, _]) (news := [_]) rfl rfl (List.mem_cons_self ..) F₂ N₃ (fun m₀ i m nw => (∃ a b t1 t2, nw = [(dr, { cls := .type "list", data := .seq #[.str a t1, .str b t2] })] ∧ goodT i a ∧ goodT i b) ∧ ∀ y, y ≠ Str.ofString "x" → m y = m₀ y) ?_ ?_ ?_
  · exact ⟨⟨_, _, _, _, rfl, goodT_nil, goodT_nil⟩, fun y _ => rfl⟩
  · rintro i v m₁ news₁ I oI h gs dw tk os hv ⟨⟨x1, x2, t1, t2, rfl, g1, g2⟩, hm⟩ hlt hne F₃ N₄
    obtain ⟨u1, rfl⟩ := map1 hm
    have hSI : dr < I := hlt (dr, _) (List.mem_cons_self ..)
    have hDI : D < I := hlt (D, _) (.tail _ (.head _))
    have hPI : pc < I := hlt (pc, _) (.tail _ (.tail _ (.head _)))
    obtain ⟨_, _, hdD, hpD⟩ := hlt₂
    have hne2 : ∀ p ∈ [(D, ({ cls := .type "list", data := .seq ws.toArray } : Obj)), (pc, { cls := .type "list", data := .seq pl })], p.1 ≠ dr := fun p hp => by
      rcases List.mem_cons.mp hp with rfl | hp
      · exact Nat.ne_of_gt hdD
      · rw [List.mem_singleton.mp hp]; exact Nat.ne_of_lt hlt₁
    have hi22 : i < 22 := idx_lt hI₂ hv
    obtain ⟨g1a, g1b⟩ := g1
    obtain ⟨g2a, g2b⟩ := g2
    dsimp only [List.cons_append, List.nil_append, List.append_nil] at N₄ F₃
    have hxv : ∃ xi ti, v = .int xi ti := ints_at hI₂ hv
    obtain ⟨xi, ti, rfl⟩ := hxv
    have h01 : (xi.fdiv 16).fmod 2 = 0 ∨ (xi.fdiv 16).fmod 2 = 1 := by
      have h1 := Int.fmod_nonneg_of_pos (xi.fdiv 16) (show (0 : Int) < 2 by decide)
      have h2 := Int.fmod_lt_of_pos (xi.fdiv 16) (show (0 : Int) < 2 by decide)
      omega
    have hm1 := Int.fmod_nonneg_of_pos xi (show (0 : Int) < 16 by decide)
    have hm2 := Int.fmod_lt_of_pos xi (show (0 : Int) < 16 by decide)
    k_steps
    rcases h01 with h01 | h01
    all_goals (rw [h01])
    all_goals k_steps
    all_goals (
      rename News _ _ _ _ => N₅
      rename Fr _ _ _ _ => F₅
      obtain ⟨z, tz, hz, gza, gzb⟩ := hP (xi.fmod 16).toNat (by omega)
      refine item_list (N₅.isList (.tail _ (.tail _ (.tail _ (.head _))))) hm1 (by omega) hz ?_)
    all_goals k_steps
    all_goals (dsimp only at *)
    all_goals (rename News _ _ _ _ => N₆; rename Fr _ _ _ _ => F₆)
    · refine ki_set (its := #[Value.str x1 t1, Value.str x2 t2]) (n := 0) (q := [Value.str (x1 ++ z) _, Value.str x2 t2]) F₆ N₆ (by decide) (by decide) rfl (.tail (Nat.ne_of_gt hSI) (.head hne2)) ?_
      intro h' F' N'
      clear F₆ N₆
      dsimp only at F' N' ⊢
      k_steps
      refine TurnEnd.intro (news₂ := [_]) F' N' (fun p hp => hp) (fun p hp => ?_) ⟨⟨_, _, _, _, rfl, goodT_add ⟨g1a, g1b⟩ ⟨gza, gzb⟩, goodT_more ⟨g2a, g2b⟩⟩, fun y h1 => ?_⟩
      · rw [List.mem_singleton.mp hp]; exact Nat.ne_of_lt hSI
      · simp only [if_neg h1]
    · refine ki_set (its := #[Value.str x1 t1, Value.str x2 t2]) (n := 0) (q := [Value.str x1 t1, Value.str (x2 ++ z) _]) F₆ N₆ (by decide) (by decide) rfl (.tail (Nat.ne_of_gt hSI) (.head hne2)) ?_
      intro h' F' N'
      clear F₆ N₆
      dsimp only at F' N' ⊢
      k_steps
      refine TurnEnd.intro (news₂ := [_]) F' N' (fun p hp => hp) (fun p hp => ?_) ⟨⟨_, _, _, _, rfl, goodT_more ⟨g1a, g1b⟩, goodT_add ⟨g2a, g2b⟩ ⟨gza, gzb⟩⟩, fun y h1 => ?_⟩
      · rw [List.mem_singleton.mp hp]; exact Nat.ne_of_lt hSI
      · simp only [if_neg h1]
  · rintro h₂ tk₂ m₂ news₂ F₃ N₄ ⟨⟨x1, x2, t1, t2, rfl, g1, g2⟩, hm⟩
    obtain ⟨u1, rfl⟩ := map1 hm
    have hn : ws.toArray.size ≤ 22 := by
      have hl := ints_len hI₂
      simp only [List.length_append, List.length_take, List.length_cons, List.length_nil] at hl
      rw [List.size_toArray]; omega
    clear hm F₂ N₃
    dsimp only [List.cons_append, List.nil_append, List.append_nil] at N₄ F₃ ⊢
    k_steps
    have hN := N₄ _ (List.mem_cons_self ..)
    refine hret _ _ _ (fun x o e => F₃.keep x o (hg' ▸ e)) ⟨_, x1, x2, _, _, rfl, hg' ▸ hN.2.2, hN.1, goodT_le g1 hn, goodT_le g2 hn⟩
end Mine
end

section
open PySem PySem.W PyProof.Rows PySem.Calls
namespace Mine
open LCg
/-- a fact that omega is not to see -/
def Hid (p : Prop) : Prop := p
theorem hid {p : Prop} (h : p) : Hid p := h
theorem Hid.out {p : Prop} (h : Hid p) : p := h
def unitsOf (c : Nat) : List Nat := if 65535 < c then [55296 + (c - 65536) / 1024, 56320 + (c - 65536) % 1024] else [c]
def octU (z : Bool) (u : Nat) : List Int := [cond z ((u / 256 : Nat) : Int) ((u % 256 : Nat) : Int), cond z ((u % 256 : Nat) : Int) ((u / 256 : Nat) : Int)]
def octI (z : Bool) (l : List Nat) : List Int := (l.flatMap unitsOf).flatMap (octU z)
theorem units_lt {c : Nat} (h : c < 1114112) : ∀ u ∈ unitsOf c, u < 65536 := by
  intro u hu
  unfold unitsOf at hu
  split at hu
  · simp only [List.mem_cons, List.not_mem_nil, or_false] at hu
    omega
  · simp only [List.mem_cons, List.not_mem_nil, or_false] at hu
    omega
theorem units_hi {c : Nat} {t u : Tok} (h : c < 1114112) (h' : (65535 : Int) < (c : Int)) : IntsAre [.int (55296 + ((c : Int) - 65536).fdiv 1024) t, .int (56320 + ((c : Int) - 65536).fmod 1024) u] ((unitsOf c).map fun u : Nat => (u : Int)) := by
  have e : unitsOf c = [55296 + (c - 65536) / 1024, 56320 + (c - 65536) % 1024] := by rw [unitsOf, if_pos (by omega)]
  have e1 : (55296 + ((c : Int) - 65536).fdiv 1024) = ((55296 + (c - 65536) / 1024 : Nat) : Int) := by
    rw [Int.fdiv_eq_ediv_of_nonneg _ (by decide)]; omega
  have e2 : (56320 + ((c : Int) - 65536).fmod 1024) = ((56320 + (c - 65536) % 1024 : Nat) : Int) := by
    rw [Int.fmod_eq_emod_of_nonneg _ (by decide)]; omega
  rw [e, e1, e2]
  exact .cons _ _ (.cons _ _ .nil)
theorem units_lo {c : Nat} {t : Tok} (h' : ¬ (65535 : Int) < (c : Int)) : IntsAre [.int (c : Int) t] ((unitsOf c).map fun u : Nat => (u : Int)) := by
  have e : unitsOf c = [c] := by rw [unitsOf, if_neg (by omega)]
  rw [e]
  exact .cons _ _ .nil
theorem units_len (c : Nat) : (unitsOf c).length ≤ 2 := by unfold unitsOf; split <;> simp
theorem octU_len (z : Bool) (us : List Nat) : (us.flatMap (octU z)).length = 2 * us.length := by
  induction us with
  | nil => rfl
  | cons u us ih => simp only [List.flatMap_cons, List.length_append, ih, List.length_cons]; simp [octU]; omega
theorem units_flat_len (l : List Nat) : (l.flatMap unitsOf).length ≤ 2 * l.length := by
  induction l with
  | nil => simp
  | cons c l ih => have := units_len c; simp only [List.flatMap_cons, List.length_append, List.length_cons]; omega
theorem octI_len (z : Bool) (i : Nat) (l us : List Nat) (j : Nat) (hu : us.length ≤ 2) : (octI z (l.take i) ++ (us.take j).flatMap (octU z)).length ≤ 4 * l.length + 4 := by
  have h1 := units_flat_len (l.take i)
  rw [List.length_append, octI, octU_len, octU_len]
  rw [List.length_take] at *
  omega
theorem ints_nat {vs : List Value} {us : List Nat} {i : Nat} {v : Value} (h : IntsAre vs (us.map fun u : Nat => (u : Int))) (hv : vs.toArray[i]? = some v) : ∃ u t, us[i]? = some u ∧ v = .int (u : Int) t := by
  have hv : vs[i]? = some v := by simpa using hv
  have hl := ints_len h
  have hi : i < us.length := by
    have := (List.getElem?_eq_some_iff.mp hv).1
    simpa [hl] using this
  obtain ⟨t, e⟩ := h.get i ((us[i]'hi : Nat) : Int) (by simp [hi])
  rw [hv] at e
  exact ⟨us[i]'hi, t, by simp [hi], Option.some.inj e⟩
theorem map3 {m m₀ : Str → Option Value} {a b c : Str} (h : ∀ y, y ≠ a → y ≠ b → y ≠ c → m y = m₀ y) :
    ∃ u v z, m = fun y => if y = a then u else if y = b then v else if y = c then z else m₀ y :=
  ⟨m a, m b, m c, funext fun y => by
    by_cases e1 : y = a
    · rw [if_pos e1, e1]
    rw [if_neg e1]
    by_cases e2 : y = b
    · rw [if_pos e2, e2]
    rw [if_neg e2]
    by_cases e3 : y = c
    · rw [if_pos e3, e3]
    rw [if_neg e3]
    exact h y e1 e2 e3⟩
theorem news4 {g : Heap} {L : Addr} {h : Heap} {l : List (Addr × Obj)} (N : News g L h l) (i j k r : Nat) {x y z v : Addr × Obj} (hi : l[i]? = some x) (hj : l[j]? = some y) (hk : l[k]? = some z) (hr : l[r]? = some v) : News g L h [x, y, z, v] := by
  intro p hp
  simp only [List.mem_cons, List.not_mem_nil, or_false] at hp
  rcases hp with rfl | rfl | rfl | rfl
  · exact N _ (List.mem_of_getElem? hi)
  · exact N _ (List.mem_of_getElem? hj)
  · exact N _ (List.mem_of_getElem? hk)
  · exact N _ (List.mem_of_getElem? hr)
theorem news6 {g : Heap} {L : Addr} {h : Heap} {l : List (Addr × Obj)} (N : News g L h l) (i j k r p q : Nat) {x y z v u t : Addr × Obj} (hi : l[i]? = some x) (hj : l[j]? = some y) (hk : l[k]? = some z) (hr : l[r]? = some v) (hp : l[p]? = some u) (hq : l[q]? = some t) : News g L h [x, y, z, v, u, t] := by
  intro e he
  simp only [List.mem_cons, List.not_mem_nil, or_false] at he
  rcases he with rfl | rfl | rfl | rfl | rfl | rfl
  · exact N _ (List.mem_of_getElem? hi)
  · exact N _ (List.mem_of_getElem? hj)
  · exact N _ (List.mem_of_getElem? hk)
  · exact N _ (List.mem_of_getElem? hr)
  · exact N _ (List.mem_of_getElem? hp)
  · exact N _ (List.mem_of_getElem? hq)
theorem ne3 {d : Addr} {x y z : Addr × Obj} (hx : x.1 ≠ d) (hy : y.1 ≠ d) (hz : z.1 ≠ d) : ∀ p ∈ [x, y, z], p.1 ≠ d := by
  intro p hp
  simp only [List.mem_cons, List.not_mem_nil, or_false] at hp
  rcases hp with rfl | rfl | rfl <;> assumption
theorem ne2 {d : Addr} {x y : Addr × Obj} (hx : x.1 ≠ d) (hy : y.1 ≠ d) : ∀ p ∈ [x, y], p.1 ≠ d := by
  intro p hp
  simp only [List.mem_cons, List.not_mem_nil, or_false] at hp
  rcases hp with rfl | rfl <;> assumption
theorem mem_rot4 (x y z v : Addr × Obj) : ∀ p ∈ [v, x, y], p ∈ [x, y, z, v] := by
  intro p hp
  simp only [List.mem_cons, List.not_mem_nil, or_false] at hp ⊢
  rcases hp with rfl | rfl | rfl <;> simp
theorem ints_app {a c : List Value} {b d : List Int} (h : IntsAre a b) (h' : IntsAre c d) : IntsAre (a ++ c) (b ++ d) := by
  induction h with
  | nil => exact h'
  | cons n t _ ih => exact .cons n t ih
theorem ints_step {z : Bool} {vs : List Value} {is : List Int} {us : List Nat} {j u : Nat} {t1 t2 t3 t4 : Tok} (hu : us[j]? = some u) (h : IntsAre vs (is ++ (us.take j).flatMap (octU z))) :
    IntsAre (vs.toArray.toList ++ [cond z (Value.int ((u : Int).fdiv 256) t1) (Value.int ((u : Int).fmod 256) t2), cond z (Value.int ((u : Int).fmod 256) t3) (Value.int ((u : Int).fdiv 256) t4)]) (is ++ (us.take (j + 1)).flatMap (octU z)) := by
  have e : (us.take (j + 1)).flatMap (octU z) = (us.take j).flatMap (octU z) ++ octU z u := by rw [List.take_add_one, hu]; simp
  rw [e, ← List.append_assoc]
  refine ints_app h ?_
  have e1 : (u : Int).fdiv 256 = ((u / 256 : Nat) : Int) := by rw [Int.fdiv_eq_ediv_of_nonneg _ (by decide)]; omega
  have e2 : (u : Int).fmod 256 = ((u % 256 : Nat) : Int) := by rw [Int.fmod_eq_emod_of_nonneg _ (by decide)]; omega
  rw [e1, e2]
  cases z <;> exact .cons _ _ (.cons _ _ .nil)
open PySem.NumText in
theorem item_any {prog : Program} {w : World} {A : Around} {E : Value → Shared → Prop} {s : Shared} {value slice : Expr} {l : Addr} {items : Array Value} {k : Int} {u : Tok} {x : Value} {Q : Value → Shared → Prop} (hl : s.heap.IsList l items)
    (h0 : 0 ≤ k) (hfit : k < 2 ^ 63) (hx : items[k.toNat]? = some x) (h : Q x s)
    (hs : subscripted slice false (.ref l) (.int k u) = operate [.ref l, .int k u] (getItem (.ref l) (.int k u)) := by with_unfolding_all rfl) :
    wpAny (model prog w) A (subscriptTail value slice (.ref l) (.int k u)) Q E s :=
  tail_any hl.typeIs slot_list_getitem.lookup (wpAny_getItem_list hl h0 hfit hx h) hs
theorem two_first (z : Bool) (a b : Value) : (#[a, b] : Array Value)[(cond z 0 1 : Int).toNat]? = some (cond z a b) := by cases z <;> rfl
theorem two_last (z : Bool) (a b : Value) : (#[a, b] : Array Value)[(cond z 1 0 : Int).toNat]? = some (cond z b a) := by cases z <;> rfl
theorem first_nn (z : Bool) : 0 ≤ (cond z 0 1 : Int) := by cases z <;> decide
theorem first_fit (z : Bool) : (cond z 0 1 : Int) < 2 ^ 63 := by cases z <;> decide
theorem last_nn (z : Bool) : 0 ≤ (cond z 1 0 : Int) := by cases z <;> decide
theorem last_fit (z : Bool) : (cond z 1 0 : Int) < 2 ^ 63 := by cases z <;> decide
theorem octI_step {z : Bool} {l : List Nat} {i c : Nat} (hc : l.toArray[i]? = some c) : octI z (l.take (i + 1)) = octI z (l.take i) ++ (unitsOf c).flatMap (octU z) := by
  have hc : l[i]? = some c := by simpa using hc
  unfold octI
  rw [List.take_add_one, hc]
  simp
theorem octI_len1 (z : Bool) (l : List Nat) : (octI z l).length ≤ 4 * l.length := by
  have h1 := units_flat_len l
  rw [octI, octU_len]
  omega
def encU (z : Bool) (u : Nat) : List UInt8 := [cond z (u / 256).toUInt8 (u % 256).toUInt8, cond z (u % 256).toUInt8 (u / 256).toUInt8]
def encP (z : Bool) (l : List Nat) : List UInt8 := (l.flatMap unitsOf).flatMap (encU z)
theorem octI_byte (z : Bool) (l : List Nat) (h : ∀ c ∈ l, c < 1114112) : ∀ n ∈ octI z l, 0 ≤ n ∧ n < 256 := by
  intro n hn
  unfold octI at hn
  obtain ⟨u, hu, hn⟩ := List.mem_flatMap.mp hn
  obtain ⟨c, hc, hu⟩ := List.mem_flatMap.mp hu
  have := units_lt (h c hc) u hu
  cases z
  all_goals (simp only [octU, cond_true, cond_false, List.mem_cons, List.not_mem_nil, or_false] at hn; omega)
theorem byte_enc (z : Bool) (l : List Nat) : byteArr (octI z l) = (encP z l).toArray := by
  unfold octI encP byteArr
  refine congrArg List.toArray ?_
  rw [List.map_flatMap]
  refine congrArg (fun f => List.flatMap f _) (funext fun u => ?_)
  cases z <;> simp only [octU, encU, cond_true, cond_false, List.map_cons, List.map_nil, Int.toNat_natCast]
theorem pick4 {g : Heap} {L U : Addr} {h : Heap} {x y v : Addr × Obj} {ws : List Value} {is : List Int} (N : News g L h [x, y, (U, { cls := .type "list", data := .seq ws.toArray }), v]) (hw : IntsAre ws is) :
    ∃ ws', IntsAre ws' is ∧ News g L h [x, y, (U, { cls := .type "list", data := .seq ws'.toArray }), v] := ⟨ws, hw, N⟩
theorem bom_append (l : List Nat) : Str.ofString "\ufeff" ++ S l = S (65279 :: l) := by
  rw [show Str.ofString "\ufeff" = S [65279] from rfl, S_append]; rfl
theorem iter_strM {prog : Program} {w : World} {A : Around} {E : Value → Shared → Prop} {s : Shared} {g : Heap} {env : Env} {x : Str} {body : List Stmt} {Q : Flow → Shared → Prop} {L : Addr} {z : Str} {t : Tok} {m : Str → Option Value} {news fix : List (Addr × Obj)} (hL : env.locals = L) (hh : A.handled = none)
    (F : Fr g L s.heap m) (N : News g L s.heap (news ++ fix)) (J : (Str → Option Value) → Nat → (Str → Option Value) → List (Addr × Obj) → Prop) (h0 : J m 0 m news)
    (step : ∀ i c u m₁ news₁ I oI h gs dr tk os, z.cps[i]? = some c → J m i m₁ news₁ → (∀ p ∈ news ++ fix, p.1 < I) → (∀ p ∈ news₁, p.1 ≠ I) → Fr g L h (fun y => if y = x then some (.str ⟨#[c]⟩ u) else m₁ y) →
      News g L h ((I, oI) :: (news₁ ++ fix)) →
      wpAny (model prog w) A (execs body env) (TurnEnd g L I oI fix (J m (i + 1)) ⟨h, gs, dr, tk, os⟩) E ⟨h, gs, dr, tk, os⟩)
    (done : ∀ h' tk m' news', Fr g L h' m' → News g L h' (news' ++ fix) → J m z.cps.size m' news' → Q .next { s with heap := h', toks := tk }) :
    wpAny (model prog w) A (pyIter (.str z t)) (fun it s₂ => LoopAtU prog w A g env x body Q E it s₂) E s := iter_str hL hh F N (J m) h0 step done
local macro_rules | `(tactic| k_ne) => `(tactic| (refine neN ?_; (try dsimp only); (repeat (rename _ ∧ _ => hc9; obtain ⟨_, _⟩ := hc9)); first | assumption | exact Ne.symm (by assumption) | exact Nat.ne_of_lt (by assumption) | exact Nat.ne_of_gt (by assumption) | omega))
set_option maxRecDepth 100000 in
set_option maxHeartbeats 8000000 in
theorem law_octetsP (z : Bool) (w : World) (l : List Nat) (hl : l.length ≤ 2000) (hval : ∀ c ∈ 65279 :: l, c < 1114112) (P : Addr) (t t0 t1 : Tok) : Ctr w 5 59 [.str (S l) t, .ref P] (fun h => h.IsList P #[.int (cond z 0 1) t0, .int (cond z 1 0) t1]) (fun _ _ r => ∃ t', r = .bytes (encP z (65279 :: l)).toArray t') := by
  unfold Ctr
  w_top off
  k_fill
  intro dp un gd cn cs a ccd cl outer A₀ base h₀ L m s Q E mean mg mb B F X T hk hpre hdp hun hret
  refine wpAny_call ?_
  k_dflt (refine' enterPC (binds := [(Str.ofString "text", .str (S l) t), (Str.ofString "places", .ref P)]) ?k1 ?k2 ?k3 ?k5 ?kA ?kF ?kK ?k6 ?k7 ?k8 ?k9 ?kB ?kD ?_ ?c2 ?c3 ?c4; (case kA => exact rfl); (case kF => exact rfl); (case kK => assumption); (case k1 => k_asm); (case k2 => k_asm); (case k3 => k_asm); (case k5 => k_asm); (case k6 => k_is); (case k7 => k_is); (case k8 => ktr_room); (case k9 => exact BindsTo.of_eq rfl); (case kB => exact rfl); (case kD => decide +kernel); (case c2 => exact rfl); (case c3 => exact rfl); (case c4 => exact rfl); k_whole; intro g' L' h' tk' cells' hg' F' N' Y' B' X' T'; k_cells Y'; (try simp only [List.cons_append, List.nil_append] at N'))
  dsimp only
  clear F B X T
  rw [hg'] at hpre
  have hSl : (S l).length ≤ 2000 := by rw [S_length]; exact hl
  have hl' := hid hl
  clear hl hdp hun
  repeat' ((fail_if_success (with_reducible show wpAny _ _ (pyIter _) _ _ _)); first | (k_unfold; (try dsimp only)) | walk1 | (dsimp only; walk1))
  dsimp only at *
  rename Fr _ _ _ _ => F₂
  rename News _ _ _ _ => N₂
  rename_i oC dC oc _ hlt₀ _ _ _ _ _ 
  rename ((Str.ofString _).length + _ ≤ _ ∧ _) => junk
  clear junk hSl
  rw [bom_append l]
  refine iter_strM (L := L') (fix := []) (news := [_, _]) rfl rfl F₂ N₂ (fun m₀ i m nw => (∃ vs nn o v, nw = [(oc, { cls := .type "list", data := .seq vs.toArray nn }), (L' + 1, o)] ∧ IntsAre vs (octI z ((65279 :: l).take i)) ∧ o.data = .cell v) ∧ 
    ∀ y, y ≠ Str.ofString "sign" → y ≠ Str.ofString "code" → y ≠ Str.ofString "units" → m y = m₀ y) ?_ ?_ ?_
  · exact ⟨⟨[], 0, oC, _, rfl, .nil, dC⟩, fun y _ _ _ => rfl⟩
  · rintro i c u m₁ news₁ I oI h gs dw tk os hc ⟨⟨vs, nn, o, v, rfl, hI, ho⟩, hm⟩ hlt hne F₃ N₃
    obtain ⟨u1, u2, u3, rfl⟩ := map3 hm
    have hSI : oc < I := hlt (oc, _) (List.mem_cons_self ..)
    have hCI : @LT.lt Nat _ (@HAdd.hAdd Nat Nat Nat _ L' 1) I := hlt (L' + 1, _) (.tail _ (.head _))
    clear hm F₂ N₂ hlt hne
    dsimp only [List.cons_append, List.nil_append, List.append_nil] at N₃ F₃
    have hcv : c < 1114112 := hval c (List.mem_of_getElem? (by simpa using hc))
    repeat' ((fail_if_success (with_reducible show wpAny _ _ (exec (Stmt.For _ _ _ _ _) _) _ _ _)); first | (k_unfold; (try dsimp only)) | walk1 | (dsimp only; walk1))
    all_goals (try dsimp only at *)
    · rename News _ _ _ _ => N₄
      rename Fr _ _ _ _ => F₄
      have N₅ := news4 N₄ 3 4 0 2 rfl rfl rfl rfl
      clear N₄
      refine For_invT g' ?_ (by intro _; with_unfolding_all rfl)
      walk1
      rename (65535 : Int) < (c : Int) => h65
      rename (_ < _ ∧ _ < _ ∧ _ < _ ∧ _ < _) => hlU
      obtain ⟨_, hIU, hocU, hCU⟩ := hlU
      obtain ⟨ws, hws, N₆⟩ := pick4 N₅ (units_hi hcv h65)
      clear N₅
      generalize hus : unitsOf c = us at hws
      have hus2 := hid (show us.length ≤ 2 from hus ▸ units_len c)
      clear hcv h65
      refine iter_listT (L := L') (fix := [_, _]) (news := [_, _]) rfl rfl (List.mem_cons_self ..) F₄ N₆ (fun m₀ j m nw => (∃ vs' nn' o' v', nw = [(oc, { cls := .type "list", data := .seq vs'.toArray nn' }), (L' + 1, o')] ∧ IntsAre vs' (octI z ((65279 :: l).take i) ++ (us.take j).flatMap (octU z)) ∧ o'.data = .cell v') ∧ m = m₀) ?_ ?_ ?_
      · exact ⟨⟨vs, nn, o, v, rfl, by simpa using hI, ho⟩, rfl⟩
      · rintro j v₂ m₂ news₂ I₂ oI₂ h₂ gs₂ dw₂ tk₂ os₂ hv₂ ⟨⟨vs', nn', o', v', rfl, hI', ho'⟩, rfl⟩ hlt₂ hne₂ F₅ N₇
        obtain ⟨u, tu, hu, rfl⟩ := ints_nat hws hv₂
        have h1 : oc < I₂ := hlt₂ (oc, _) (List.mem_cons_self ..)
        have h2 : @LT.lt Nat _ (@HAdd.hAdd Nat Nat Nat _ L' 1) I₂ := hlt₂ (L' + 1, _) (.tail _ (.head _))
        have h3 := hlt₂ _ (.tail _ (.tail _ (.head _)))
        have h4 : I < I₂ := hlt₂ (I, _) (.tail _ (.tail _ (.tail _ (.head _))))
        dsimp only at h3
        clear hlt₂ hne₂ F₄ N₆ hv₂
        dsimp only [List.cons_append, List.nil_append, List.append_nil] at N₇
        repeat' ((fail_if_success (with_reducible show wpAny _ _ (subscriptTail _ _ _ (Value.int _ _)) _ _ _)); first | (k_unfold; (try dsimp only)) | walk1 | (dsimp only; walk1))
        rename News _ _ _ _ => Na
        refine item_any (Na.isList (.head _)) (first_nn z) (first_fit z) (two_first z _ _) ?_
        repeat' ((fail_if_success (with_reducible show wpAny _ _ (subscriptTail _ _ _ (Value.int _ _)) _ _ _)); first | (k_unfold; (try dsimp only)) | walk1 | (dsimp only; walk1))
        rename News _ _ _ _ => Nb
        refine item_any (Nb.isList (.head _)) (last_nn z) (last_fit z) (two_last z _ _) ?_
        k_steps
        rename_i ho1
        obtain ⟨_, _, _, hocD, _, _, _⟩ := ho1
        rename News _ _ _ _ => N₈
        rename Fr _ _ _ _ => F₈
        have hlen := ints_len hI'
        have hlen2 : _ ≤ 4 * (l.length + 1) + 4 := octI_len z i (65279 :: l) us j hus2.out
        have N₈' := news6 N₈ 0 3 4 5 6 7 rfl rfl rfl rfl rfl rfl
        clear N₈
        refine iadd_lists (its := vs'.toArray) (its2 := [_, _].toArray) F₈ N₈' (.head _) rfl (by simp) (.tail (Ne.symm hocD) (.tail (Nat.ne_of_gt h1) (.head (ne3 (Nat.ne_of_lt hlt₀) (Nat.ne_of_gt hocU) (Nat.ne_of_gt hSI))))) (by have hl := hl'.out; rw [List.size_toArray, List.size_toArray, hlen]; simp only [List.length_cons, List.length_nil]; omega) ?_
        intro h₃ F₉ N₉
        clear N₈' F₈ hlen hlen2
        k_steps
        rename News _ _ _ _ => N₁₀
        rename Fr _ _ _ _ => F₁₀
        refine TurnEnd.intro (news₂ := [_, _]) F₁₀ N₁₀ (fun p hp => .tail _ hp) (ne2 (Nat.ne_of_lt h1) (Nat.ne_of_lt h2)) ⟨⟨_, _, _, _, rfl, ints_step hu hI', by assumption⟩, ?_⟩
        funext y
        by_cases hy : y = Str.ofString "octets"
        · rw [if_pos hy, hy]; rfl
        · rw [if_neg hy]
      · rintro h₂ tk₂ m₂ news₂ F₅ N₇ ⟨⟨vs', nn', o', v', rfl, hI', ho'⟩, rfl⟩
        have hsz : ws.toArray.size = us.length := by
          have := ints_len hws
          simpa using this
        rw [hsz, List.take_length, ← hus, ← octI_step hc] at hI'
        clear F₄ N₆
        dsimp only [List.cons_append, List.nil_append, List.append_nil] at N₇ ⊢
        k_steps
        refine TurnEnd.intro (news₂ := [_, _]) F₅ N₇ (mem_rot4 _ _ _ _) (ne2 (Nat.ne_of_lt hSI) (Nat.ne_of_lt hCI)) ⟨⟨_, _, _, _, rfl, hI', ho'⟩, fun y a1 a2 a3 => ?_⟩
        simp only [if_neg a1, if_neg a2, if_neg a3]
    · rename News _ _ _ _ => N₄
      rename Fr _ _ _ _ => F₄
      have N₅ := news4 N₄ 2 3 0 1 rfl rfl rfl rfl
      clear N₄
      refine For_invT g' ?_ (by intro _; with_unfolding_all rfl)
      walk1
      rename ¬ (65535 : Int) < (c : Int) => h65
      rename (_ < _ ∧ _ < _ ∧ _ < _) => hlU
      obtain ⟨hIU, hocU, hCU⟩ := hlU
      obtain ⟨ws, hws, N₆⟩ := pick4 N₅ (units_lo h65)
      clear N₅
      generalize hus : unitsOf c = us at hws
      have hus2 := hid (show us.length ≤ 2 from hus ▸ units_len c)
      clear hcv h65
      refine iter_listT (L := L') (fix := [_, _]) (news := [_, _]) rfl rfl (List.mem_cons_self ..) F₄ N₆ (fun m₀ j m nw => (∃ vs' nn' o' v', nw = [(oc, { cls := .type "list", data := .seq vs'.toArray nn' }), (L' + 1, o')] ∧ IntsAre vs' (octI z ((65279 :: l).take i) ++ (us.take j).flatMap (octU z)) ∧ o'.data = .cell v') ∧ m = m₀) ?_ ?_ ?_
      · exact ⟨⟨vs, nn, o, v, rfl, by simpa using hI, ho⟩, rfl⟩
      · rintro j v₂ m₂ news₂ I₂ oI₂ h₂ gs₂ dw₂ tk₂ os₂ hv₂ ⟨⟨vs', nn', o', v', rfl, hI', ho'⟩, rfl⟩ hlt₂ hne₂ F₅ N₇
        obtain ⟨u, tu, hu, rfl⟩ := ints_nat hws hv₂
        have h1 : oc < I₂ := hlt₂ (oc, _) (List.mem_cons_self ..)
        have h2 : @LT.lt Nat _ (@HAdd.hAdd Nat Nat Nat _ L' 1) I₂ := hlt₂ (L' + 1, _) (.tail _ (.head _))
        have h3 := hlt₂ _ (.tail _ (.tail _ (.head _)))
        have h4 : I < I₂ := hlt₂ (I, _) (.tail _ (.tail _ (.tail _ (.head _))))
        dsimp only at h3
        clear hlt₂ hne₂ F₄ N₆ hv₂
        dsimp only [List.cons_append, List.nil_append, List.append_nil] at N₇
        repeat' ((fail_if_success (with_reducible show wpAny _ _ (subscriptTail _ _ _ (Value.int _ _)) _ _ _)); first | (k_unfold; (try dsimp only)) | walk1 | (dsimp only; walk1))
        rename News _ _ _ _ => Na
        refine item_any (Na.isList (.head _)) (first_nn z) (first_fit z) (two_first z _ _) ?_
        repeat' ((fail_if_success (with_reducible show wpAny _ _ (subscriptTail _ _ _ (Value.int _ _)) _ _ _)); first | (k_unfold; (try dsimp only)) | walk1 | (dsimp only; walk1))
        rename News _ _ _ _ => Nb
        refine item_any (Nb.isList (.head _)) (last_nn z) (last_fit z) (two_last z _ _) ?_
        k_steps
        rename_i ho1
        obtain ⟨_, _, _, hocD, _, _, _⟩ := ho1
        rename News _ _ _ _ => N₈
        rename Fr _ _ _ _ => F₈
        have hlen := ints_len hI'
        have hlen2 : _ ≤ 4 * (l.length + 1) + 4 := octI_len z i (65279 :: l) us j hus2.out
        have N₈' := news6 N₈ 0 3 4 5 6 7 rfl rfl rfl rfl rfl rfl
        clear N₈
        refine iadd_lists (its := vs'.toArray) (its2 := [_, _].toArray) F₈ N₈' (.head _) rfl (by simp) (.tail (Ne.symm hocD) (.tail (Nat.ne_of_gt h1) (.head (ne3 (Nat.ne_of_lt hlt₀) (Nat.ne_of_gt hocU) (Nat.ne_of_gt hSI))))) (by have hl := hl'.out; rw [List.size_toArray, List.size_toArray, hlen]; simp only [List.length_cons, List.length_nil]; omega) ?_
        intro h₃ F₉ N₉
        clear N₈' F₈ hlen hlen2
        k_steps
        rename News _ _ _ _ => N₁₀
        rename Fr _ _ _ _ => F₁₀
        refine TurnEnd.intro (news₂ := [_, _]) F₁₀ N₁₀ (fun p hp => .tail _ hp) (ne2 (Nat.ne_of_lt h1) (Nat.ne_of_lt h2)) ⟨⟨_, _, _, _, rfl, ints_step hu hI', by assumption⟩, ?_⟩
        funext y
        by_cases hy : y = Str.ofString "octets"
        · rw [if_pos hy, hy]; rfl
        · rw [if_neg hy]
      · rintro h₂ tk₂ m₂ news₂ F₅ N₇ ⟨⟨vs', nn', o', v', rfl, hI', ho'⟩, rfl⟩
        have hsz : ws.toArray.size = us.length := by
          have := ints_len hws
          simpa using this
        rw [hsz, List.take_length, ← hus, ← octI_step hc] at hI'
        clear F₄ N₆
        dsimp only [List.cons_append, List.nil_append, List.append_nil] at N₇ ⊢
        k_steps
        refine TurnEnd.intro (news₂ := [_, _]) F₅ N₇ (mem_rot4 _ _ _ _) (ne2 (Nat.ne_of_lt hSI) (Nat.ne_of_lt hCI)) ⟨⟨_, _, _, _, rfl, hI', ho'⟩, fun y a1 a2 a3 => ?_⟩
        simp only [if_neg a1, if_neg a2, if_neg a3]
  · rintro h₂ tk₂ m₂ news₂ F₅ N₇ ⟨⟨vs', nn', o', v', rfl, hI', ho'⟩, hm⟩
    obtain ⟨u1, u2, u3, rfl⟩ := map3 hm
    have hsz : (S (65279 :: l)).cps.size = (65279 :: l).length := by simp
    rw [hsz, List.take_length] at hI'
    clear hm F₂ N₂
    dsimp only [List.cons_append, List.nil_append, List.append_nil] at N₇ F₅ ⊢
    have hlen := ints_len hI'
    have hl := hl'.out
    have hlen2 := octI_len1 z (65279 :: l)
    simp only [List.length_cons] at hlen2
    repeat' ((fail_if_success (with_reducible show wpAny _ _ (call (Value.type "bytes") _) _ _ _)); first | (k_unfold; (try dsimp only)) | walk1 | (dsimp only; walk1))
    refine call_bytes_ints (N₇.isList (.head _)) hI' (octI_byte z (65279 :: l) hval) (by rw [show sizeLine = 16777216 from rfl]; omega) rfl fun h₃ t₃ k₃ e₃ => ?_
    refine hret _ _ _ (fun x o e => e₃ x o (F₅.keep x o (hg' ▸ e))) ⟨t₃, ?_⟩
    rw [byte_enc z (65279 :: l)]
/-- high octet first, low octet first -/
def encB (l : List Nat) : List UInt8 := encP true l
def encL (l : List Nat) : List UInt8 := encP false l
theorem law_octets (w : World) (l : List Nat) (hl : l.length ≤ 2000) (hval : ∀ c ∈ 65279 :: l, c < 1114112) (P : Addr) (t t0 t1 : Tok) : Ctr w 5 59 [.str (S l) t, .ref P] (fun h => h.IsList P #[.int 0 t0, .int 1 t1]) (fun _ _ r => ∃ t', r = .bytes (encB (65279 :: l)).toArray t') :=
  law_octetsP true w l hl hval P t t0 t1
theorem law_octetsR (w : World) (l : List Nat) (hl : l.length ≤ 2000) (hval : ∀ c ∈ 65279 :: l, c < 1114112) (P : Addr) (t t0 t1 : Tok) : Ctr w 5 59 [.str (S l) t, .ref P] (fun h => h.IsList P #[.int 1 t0, .int 0 t1]) (fun _ _ r => ∃ t', r = .bytes (encL (65279 :: l)).toArray t') :=
  law_octetsP false w l hl hval P t t0 t1
end Mine
end

section
open PySem PySem.W PyProof.Rows PySem.Calls
namespace Mine
/-! the plain law -/
def okS1 (c : Nat) : Prop := c < 55296 ∨ (57344 ≤ c ∧ c < 1114112)
theorem units2_enc : ∀ us : List Nat, (∀ u ∈ us, u < 65536) → units2 (us.flatMap (encU true)) = us
  | [], _ => rfl
  | u :: us, h => by
    have hu := h u (List.mem_cons_self ..)
    have ih := units2_enc us fun v hv => h v (List.mem_cons_of_mem _ hv)
    show ((u / 256).toUInt8.toNat * 256 + (u % 256).toUInt8.toNat) :: units2 (us.flatMap (encU true)) = u :: us
    rw [ih]
    have e1 : (u / 256).toUInt8.toNat = u / 256 := by simp; omega
    have e2 : (u % 256).toUInt8.toNat = u % 256 := by simp
    rw [e1, e2]
    congr 1
    omega
theorem step_units (c : Nat) (h : okS1 c) (p : List Nat × Nat) : ((unitsOf c).foldl stepU p).1 = p.1 ++ [c] := by
  unfold unitsOf
  split
  · rename_i hc
    rcases h with h | ⟨h1, h2⟩
    · omega
    · rw [List.foldl_cons, List.foldl_cons, List.foldl_nil]
      have e1 : stepU p (55296 + (c - 65536) / 1024) = (p.1, (c - 65536) / 1024) := by
        rw [stepU, if_pos ⟨by omega, by omega⟩]
        refine congrArg (Prod.mk p.1) ?_
        omega
      rw [e1, stepU, if_neg (by omega), if_pos ⟨by omega, by omega⟩]
      refine congrArg (fun x => p.1 ++ [x]) ?_
      show 65536 + (c - 65536) / 1024 * 1024 + (56320 + (c - 65536) % 1024) - 56320 = c
      omega
  · rename_i hc
    rw [List.foldl_cons, List.foldl_nil]
    rcases h with h | ⟨h1, h2⟩
    · rw [stepU, if_neg (by omega), if_neg (by omega)]
    · rw [stepU, if_neg (by omega), if_neg (by omega)]
theorem fold_units : ∀ (l : List Nat) (p : List Nat × Nat), (∀ c ∈ l, okS1 c) → ((l.flatMap unitsOf).foldl stepU p).1 = p.1 ++ l
  | [], p, _ => by simp
  | c :: l, p, h => by
    rw [List.flatMap_cons, List.foldl_append, fold_units l _ fun d hd => h d (List.mem_cons_of_mem _ hd), step_units c (h c (List.mem_cons_self ..)) p]
    simp
theorem okS1_lt {c : Nat} (h : okS1 c) : c < 1114112 := by rcases h with h | h <;> omega
theorem units_all (l : List Nat) (h : ∀ c ∈ l, okS1 c) : ∀ u ∈ l.flatMap unitsOf, u < 65536 := by
  intro u hu
  obtain ⟨c, hc, hu⟩ := List.mem_flatMap.mp hu
  exact units_lt (okS1_lt (h c hc)) u hu
theorem encB_bom (l : List Nat) : encB (65279 :: l) = 254 :: 255 :: encB l := by
  unfold encB encP
  rw [List.flatMap_cons, List.flatMap_append]
  rfl
/-- a reader gets the signs of what was written, high octet first -/
theorem read_be (l : List Nat) (h : ∀ c ∈ l, okS1 c) : signsOf (encB (65279 :: l)) = l := by
  unfold signsOf norm
  rw [encB_bom]
  rw [if_neg (by show ¬ (254 : UInt8) = 255; decide)]
  show (decU (units2 (encB l))).1 = l
  unfold encB encP
  rw [units2_enc _ (units_all l h)]
  unfold decU
  rw [fold_units l _ h]
  rfl
theorem swap_swap : ∀ b : List UInt8, swap2 (swap2 b) = b
  | [] => rfl
  | [_] => rfl
  | a :: b :: r => by show a :: b :: swap2 (swap2 r) = _; rw [swap_swap r]
theorem read_le (l : List Nat) (h : ∀ c ∈ l, okS1 c) : signsOf (swap2 (encB (65279 :: l))) = l := by
  have h1 := read_be l h
  unfold signsOf norm at *
  rw [encB_bom] at *
  rw [if_pos (by rfl), swap_swap]
  rw [if_neg (by show ¬ (254 : UInt8) = 255; decide)] at h1
  exact h1
theorem enc_len (l : List Nat) : (encB l).length = 2 * (l.flatMap unitsOf).length := by
  unfold encB encP
  generalize l.flatMap unitsOf = us
  induction us with
  | nil => rfl
  | cons u us ih => simp only [List.flatMap_cons, List.length_append, ih, List.length_cons]; simp [encU]; omega
/-! cutting an escaped text -/
noncomputable def cutE (sp : Nat → Bool) : List Nat → List Nat × List (Nat × List Nat)
  | [] => ([], [])
  | c :: l => if sp c then ([], (c, (cutE sp l).1) :: (cutE sp l).2) else (c :: (cutE sp l).1, (cutE sp l).2)
theorem cutE_plain (sp : Nat → Bool) : ∀ l : List Nat, (cutE sp l).1 ++ (cutE sp l).2.flatMap (fun x => x.1 :: x.2) = l
  | [] => rfl
  | c :: l => by
    have ih := cutE_plain sp l
    unfold cutE
    split
    · show [] ++ ((c :: (cutE sp l).1) ++ (cutE sp l).2.flatMap (fun x => x.1 :: x.2)) = c :: l
      rw [List.nil_append, List.cons_append, ih]
    · show c :: (cutE sp l).1 ++ _ = c :: l
      rw [List.cons_append, ih]
theorem cutE_esc (sp : Nat → Bool) (f : Nat → List Nat) (h1 : ∀ c, sp c = true → f c = 38 :: nm c ++ [59]) (h2 : ∀ c, sp c = false → f c = [c]) :
    ∀ l : List Nat, (cutE sp l).1 ++ (cutE sp l).2.flatMap (fun x => 38 :: itE x) = l.flatMap f
  | [] => rfl
  | c :: l => by
    have ih := cutE_esc sp f h1 h2 l
    have e : (c :: l).flatMap f = f c ++ l.flatMap f := List.flatMap_cons ..
    unfold cutE
    split
    · rename_i h
      rw [e, h1 c h, ← ih]
      show [] ++ ((38 :: (nm c ++ 59 :: (cutE sp l).1)) ++ (cutE sp l).2.flatMap (fun x => 38 :: itE x)) = _
      simp
    · rename_i h
      rw [e, h2 c (by simpa using h), ← ih]
      rfl
theorem cutE_no (sp : Nat → Bool) (h : sp 38 = true) : ∀ l : List Nat, 38 ∉ (cutE sp l).1 ∧ ∀ x ∈ (cutE sp l).2, sp x.1 = true ∧ 38 ∉ x.2
  | [] => ⟨List.not_mem_nil, fun x hx => nomatch hx⟩
  | c :: l => by
    obtain ⟨i1, i2⟩ := cutE_no sp h l
    unfold cutE
    split
    · rename_i hc
      refine ⟨List.not_mem_nil, fun x hx => ?_⟩
      rcases List.mem_cons.mp hx with rfl | hx
      · exact ⟨hc, i1⟩
      · exact i2 x hx
    · rename_i hc
      refine ⟨fun hm => ?_, i2⟩
      rcases List.mem_cons.mp hm with e | hm
      · rw [← e] at hc; exact hc h
      · exact i1 hm
def sp7 (c : Nat) : Bool := decide (c ∈ sevens)
def sp3 (c : Nat) : Bool := decide (c ∈ [38, 60, 62])
theorem e7_sp (c : Nat) (h : sp7 c = true) : e7 c = 38 :: nm c ++ [59] := by
  have h := of_decide_eq_true h
  simp only [sevens, List.mem_cons, List.not_mem_nil, or_false] at h
  rcases h with rfl | rfl | rfl | rfl | rfl | rfl | rfl <;> rfl
theorem e3_sp (c : Nat) (h : sp3 c = true) : e3 c = 38 :: nm c ++ [59] := by
  have h := of_decide_eq_true h
  simp only [List.mem_cons, List.not_mem_nil, or_false] at h
  rcases h with rfl | rfl | rfl <;> rfl
theorem e7_ot {c : Nat} (h : sp7 c = false) : e7 c = [c] := by
  have h := of_decide_eq_false h
  simp only [sevens, List.mem_cons, List.not_mem_nil, or_false, not_or] at h
  obtain ⟨h1, h2, h3, h4, h5, h6, h7⟩ := h
  simp only [e7, if_neg h1, if_neg h2, if_neg h3, if_neg h4, if_neg h5, if_neg h6, if_neg h7]
theorem e3_ot {c : Nat} (h : sp3 c = false) : e3 c = [c] := by
  have h := of_decide_eq_false h
  simp only [List.mem_cons, List.not_mem_nil, or_false, not_or] at h
  obtain ⟨h1, h2, h3⟩ := h
  simp only [e3, if_neg h1, if_neg h2, if_neg h3]
theorem sp3_seven {c : Nat} (h : sp3 c = true) : c ∈ sevens := by
  have h := of_decide_eq_true h
  simp only [List.mem_cons, List.not_mem_nil, or_false] at h
  rcases h with rfl | rfl | rfl <;> decide
/-- an escaped text read back is the text -/
theorem read7 (w : World) (l : List Nat) (hl : l.length ≤ 1000) (t : Tok) : Ctr w 4 73 [.str (S (l.flatMap e7)) t] (fun _ => True) (fun _ _ r => ∃ t', r = .str (S l) t') := by
  obtain ⟨n1, n2⟩ := cutE_no sp7 (by decide) l
  have he := cutE_esc sp7 e7 e7_sp (fun c h => e7_ot h) l
  have hp := cutE_plain sp7 l
  have := law_read w (cutE sp7 l).1 (cutE sp7 l).2 n1 (fun x hx => ⟨of_decide_eq_true (n2 x hx).1, (n2 x hx).2⟩) (by
    rw [he]; have := flat_length e7 e7_length l; omega) t
  rw [he, hp] at this
  exact this
theorem read3 (w : World) (l : List Nat) (hl : l.length ≤ 1000) (t : Tok) : Ctr w 4 73 [.str (S (l.flatMap e3)) t] (fun _ => True) (fun _ _ r => ∃ t', r = .str (S l) t') := by
  obtain ⟨n1, n2⟩ := cutE_no sp3 (by decide) l
  have he := cutE_esc sp3 e3 e3_sp (fun c h => e3_ot h) l
  have hp := cutE_plain sp3 l
  have := law_read w (cutE sp3 l).1 (cutE sp3 l).2 n1 (fun x hx => ⟨sp3_seven (n2 x hx).1, (n2 x hx).2⟩) (by
    rw [he]; have := flat_length e3 e3_length l; omega) t
  rw [he, hp] at this
  exact this
theorem no34 (l : List Nat) : 34 ∉ l.flatMap e7 := by
  intro h
  obtain ⟨c, _, h⟩ := List.mem_flatMap.mp h
  cases hs : sp7 c with
  | true =>
    have hc := of_decide_eq_true hs
    simp only [sevens, List.mem_cons, List.not_mem_nil, or_false] at hc
    rcases hc with rfl | rfl | rfl | rfl | rfl | rfl | rfl <;> revert h <;> decide
  | false =>
    rw [e7_ot hs] at h
    have e : 34 = c := by simpa using h
    subst e
    exact absurd hs (by decide)
theorem no60 (l : List Nat) : 60 ∉ l.flatMap e3 := by
  intro h
  obtain ⟨c, _, h⟩ := List.mem_flatMap.mp h
  cases hs : sp3 c with
  | true =>
    have hc := of_decide_eq_true hs
    simp only [List.mem_cons, List.not_mem_nil, or_false] at hc
    rcases hc with rfl | rfl | rfl <;> revert h <;> decide
  | false =>
    rw [e3_ot hs] at h
    have e : 60 = c := by simpa using h
    subst e
    exact absurd hs (by decide)
/-- the element -/
def elem (v c : List Nat) : List Nat := [60, 97, 32, 98, 61, 34] ++ v.flatMap e7 ++ [34, 62] ++ c.flatMap e3 ++ [60, 47, 97, 62]
theorem elem_cut (v c : List Nat) : splitN 34 2 (elem v c) = [[60, 97, 32, 98, 61], v.flatMap e7, 62 :: (c.flatMap e3 ++ 60 :: [47, 97, 62])] := by
  have e : elem v c = [60, 97, 32, 98, 61] ++ 34 :: (v.flatMap e7 ++ 34 :: (62 :: (c.flatMap e3 ++ 60 :: [47, 97, 62]))) := by simp [elem]
  rw [e, splitN_cut 34 1 _ _ (by decide), splitN_cut 34 0 _ _ (no34 v), splitN_zero]
theorem elem_len (v c : List Nat) : (elem v c).length ≤ 12 + 6 * v.length + 6 * c.length := by
  have h1 := flat_length e7 e7_length v
  have h2 := flat_length e3 e3_length c
  simp only [elem, List.length_append, List.length_cons, List.length_nil]
  omega
theorem ok_flat (f : Nat → List Nat) (hf : ∀ c, okS1 c → ∀ d ∈ f c, okS1 d) (l : List Nat) (h : ∀ c ∈ l, okS1 c) : ∀ d ∈ l.flatMap f, okS1 d := by
  intro d hd
  obtain ⟨c, hc, hd⟩ := List.mem_flatMap.mp hd
  exact hf c (h c hc) d hd
theorem ok_e7 (c : Nat) (h : okS1 c) : ∀ d ∈ e7 c, okS1 d := by
  cases hs : sp7 c with
  | true =>
    have hc := of_decide_eq_true hs
    simp only [sevens, List.mem_cons, List.not_mem_nil, or_false] at hc
    intro d hd
    have : d < 200 := by rcases hc with rfl | rfl | rfl | rfl | rfl | rfl | rfl <;> revert d <;> decide
    exact .inl (by omega)
  | false => intro d hd; rw [e7_ot hs] at hd; rw [List.mem_singleton.mp hd]; exact h
theorem ok_e3 (c : Nat) (h : okS1 c) : ∀ d ∈ e3 c, okS1 d := by
  cases hs : sp3 c with
  | true =>
    have hc := of_decide_eq_true hs
    simp only [List.mem_cons, List.not_mem_nil, or_false] at hc
    intro d hd
    have : d < 200 := by rcases hc with rfl | rfl | rfl <;> revert d <;> decide
    exact .inl (by omega)
  | false => intro d hd; rw [e3_ot hs] at hd; rw [List.mem_singleton.mp hd]; exact h
theorem ok_elem (v c : List Nat) (hv : ∀ x ∈ v, okS1 x) (hc : ∀ x ∈ c, okS1 x) : ∀ x ∈ elem v c, okS1 x := by
  intro x hx
  simp only [elem, List.mem_append] at hx
  rcases hx with (((hx | hx) | hx) | hx) | hx
  · have : x < 200 := by revert x; decide
    exact .inl (by omega)
  · exact ok_flat e7 ok_e7 v hv x hx
  · have : x < 200 := by revert x; decide
    exact .inl (by omega)
  · exact ok_flat e3 ok_e3 c hc x hx
  · have : x < 200 := by revert x; decide
    exact .inl (by omega)
end Mine
end

section
open PySem PySem.W PyProof.Rows PySem.Calls
set_option maxRecDepth 100000
namespace Mine
theorem call_fullC {prog : Program} {w : World} {A : Around} {R : Result → Shared → Prop} {s : Shared} {name : Str} {params : Arguments} {body : List Stmt} {scope : Scope}
    {dV kV pm cd doc : Value} {a : Addr} {o : Obj} {args : Args} {binds : List (Str × Value)}
    (hroom : A.depth < recursionLimit) (ho : s.heap.get? a = some o) (hdata : o.data = .func { docDef name params body scope pm cd doc with defaults := dV, kwdefaults := kV }) (hlim : s.heap.NoLimit) (hcd : s.heap.CodeRec cd name)
    (hbind : BindsTo s { docDef name params body scope pm cd doc with defaults := dV, kwdefaults := kV } args binds)
    (hloc : ∀ x ∈ binds, scope.names.lookup x.1 = some .local)
    (h : ∀ h₁, Fr s.heap s.heap.objs.size h₁ (fun x => binds.reverse.lookup x) →
      wpC (model prog w) (A.deeper (envOf name scope s.heap.objs.size a cd)) (execs body (envOf name scope s.heap.objs.size a cd))
        (fun f s' => R (.ok (.ret (match f with | .ret v => v | _ => .none))) s')
        (fun e s' => wpAny (model prog w) (A.deeper (envOf name scope s.heap.objs.size a cd)) (leaving (envOf name scope s.heap.objs.size a cd) e)
          (fun _ s'' => R (.error e) s'') (fun e' s'' => R (.error e') s'') s')
        { s with heap := h₁, toks := s.toks + binds.length })
    (hco : scope.isCoroutine = false := by rfl) (hgen : scope.isGenerator = false := by rfl) (hk : scope.kind = .function := by rfl)
    (hcell : ∀ x ∈ scope.names, x.2 ≠ .cell := by decide) :
    codeC (model prog w) A (.call (.ref a) args) R s := by
  refine codeC_call_function hroom ho hdata hco hgen rfl hcd (hbind _ _ _ _ ?_)
  refine wpAny_newFunctionEnv hcell hloc (fun h₁ hns₀ hsb₀ => ⟨hlim.fresh _ hsb₀, codeC_func ?_⟩) hk
  exact h h₁ ⟨hns₀, fun b o e => hsb₀.extBut b o (Nat.ne_of_lt (Heap.lt_size e)) (Heap.get?_push_of_some _ e), Nat.le_refl _⟩
theorem runS_intro {prog : Program} {w : World} {f : Value} {vs : List Value} {Q E : Value → Shared → Prop} {s : Shared} (h : wpC (model prog w) callerA (call f vs) Q E s) (h' : Q (.bool true) s) :
    wpAny (model prog w) callerA (runS f vs) Q E s := by
  intro Γ p hΓ
  unfold runS
  rw [Sem.wp_bind']
  unfold stack
  rw [Sem.wp_stack, Sem.wp_pure]
  by_cases hk : okS ((Γ.code, p) :: Γ.below) = true
  · rw [if_pos hk]
    have hc := okS_code.mp hk
    refine h Γ p hΓ ⟨?_, ?_⟩
    · rw [hc.1]; decide +kernel
    · intro x hx; rw [hc.2] at hx; cases hx
  · rw [if_neg hk]
    exact h'
theorem good_true {c : ClaimW} {cl : Str → Option Addr} {mean : ExcName → Option Value} {args : List WData} {s₁ s' : Shared} (hn : ∀ cls, c.raises args cls = false) (hp : c.post args (.bool true) args = true)
    (k : s₁.heap.StaysIn s'.heap) (hos : s'.os = s₁.os) (hg : s'.gens = #[]) : GoodWG c cl mean args s₁ (.ok (.ret (.bool true))) s' :=
  ⟨.inl ⟨_, _, _, rfl, hn, .bool true, hp, unshared_nil⟩, .of_keep k, hos, .of_eq hg⟩
end Mine
end

section
open PySem PySem.W PyProof.Rows PySem.Calls
set_option maxRecDepth 100000
namespace Mine
theorem frNew {g h h' : Heap} {L D : Addr} {o : Obj} {m : Str → Option Value} {news : List (Addr × Obj)} (F : Fr g L h m) (N : News g L h news) (k : h.StaysIn h') (hn : h.get? D = none) (e : h'.get? D = some o) :
    Fr g L h' m ∧ News g L h' ((D, o) :: news) := by
  refine ⟨F.keeps k, fun p hp => ?_⟩
  rcases List.mem_cons.mp hp with rfl | hp
  · refine ⟨e, ?_, ?_⟩
    · rintro rfl
      obtain ⟨o', _, _, ho, _⟩ := F.ns
      have hn : h.get? D = none := hn
      rw [ho] at hn; cases hn
    · cases hq : g.get? D with
      | none => rfl
      | some o' => have := F.keep _ _ hq; rw [hn] at this; cases this
  · exact ⟨k _ _ (N p hp).1, (N p hp).2⟩
theorem strs_at {vs : List Value} {ys : List Str} (h : StrsAre vs ys) : ∀ (j : Nat) (hj : j < vs.length), ∃ y t, ys[j]? = some y ∧ vs[j] = .str y t := by
  induction h with
  | nil => intro j hj; simp at hj
  | cons n t _ ih =>
    intro j hj
    cases j with
    | zero => exact ⟨n, t, rfl, rfl⟩
    | succ j => exact ih j (by simpa using hj)
theorem eq_texts {prog : Program} {w : World} {A : Around} {E : Value → Shared → Prop} {s : Shared} {l b : Addr} {vs ws : List Value} {ys : List Str} {Q : Value → Shared → Prop} (hl : s.heap.IsList l vs.toArray) (hb : s.heap.IsList b ws.toArray) (h1 : StrsAre vs ys) (h2 : StrsAre ws ys)
    (hu : A.units < cLine) (h : Q (.bool true) s) : wpAny (model prog w) A (compareOp .Eq (.ref l) (.ref b)) Q E s := by
  have e1 := h1.length
  have e2 := h2.length
  refine SeqAt.eq_listAt (e := fun _ => true) hl hb (by simp; omega) hu (fun j h3 h4 => ?_) (by rw [List.all_eq_true.mpr fun _ _ => rfl]; exact h)
  have h3' : j < vs.length := by simpa using h3
  have h4' : j < ws.length := by simpa using h4
  obtain ⟨y, t, hy, hv⟩ := strs_at h1 j h3'
  obtain ⟨y', t', hy', hw⟩ := strs_at h2 j h4'
  have : y = y' := by rw [hy] at hy'; exact Option.some.inj hy'
  subst this
  have hv' : vs.toArray[j] = .str y t := by simpa using hv
  have hw' : ws.toArray[j] = .str y t' := by simpa using hw
  rw [hv', hw']
  have := (eqGives_str y y t t').at A.in1 s
  rwa [beq_self_eq_true] at this
theorem good_list {v : List Nat} (h : goodT 22 (S v)) : v.length ≤ 88 ∧ ∀ x ∈ v, okS1 x := by
  refine ⟨by have := h.1; rw [S_length] at this; omega, fun x hx => ?_⟩
  have h2 := h.2
  have : okSign x = true := List.all_eq_true.mp h2 x (by simpa using hx)
  simp only [okSign, Bool.or_eq_true, Bool.and_eq_true, decide_eq_true_eq] at this
  exact this
theorem elem_esc (v c : List Nat) : Str.ofString "<a b=\"" ++ S (esc7 v) ++ Str.ofString "\">" ++ S (esc3 c) ++ Str.ofString "</a>" = S (elem v c) := by
  rw [show Str.ofString "<a b=\"" = S [60, 97, 32, 98, 61, 34] from rfl, show Str.ofString "\">" = S [34, 62] from rfl, show Str.ofString "</a>" = S [60, 47, 97, 62] from rfl, S_append, S_append, S_append, S_append, esc7_eq, esc3_eq]
  rfl
theorem elem_spell (v c : List Nat) : Str.ofString "<a b=\"" ++ S (v.flatMap e7) ++ Str.ofString "\">" ++ S (c.flatMap e3) ++ Str.ofString "</a>" = S (elem v c) := by
  rw [show Str.ofString "<a b=\"" = S [60, 97, 32, 98, 61, 34] from rfl, show Str.ofString "\">" = S [34, 62] from rfl, show Str.ofString "</a>" = S [60, 47, 97, 62] from rfl, S_append, S_append, S_append, S_append]
  rfl
theorem encL_swap (l : List Nat) : encL l = swap2 (encB l) := by
  unfold encL encB encP
  generalize l.flatMap unitsOf = us
  induction us with
  | nil => rfl
  | cons u us ih =>
    rw [List.flatMap_cons, List.flatMap_cons, ih]
    rfl
theorem news_stays {g h h' : Heap} {L : Addr} {news : List (Addr × Obj)} (N : News g L h news) (k : h.StaysIn h') : News g L h' news := fun p hp => ⟨k _ _ (N p hp).1, (N p hp).2⟩
theorem Ctr.stepP {w : World} {lv : Nat} {f : Addr} {vs : List Value} {pre : Heap → Prop} {post : Heap → Heap → Value → Prop} (C : Ctr w lv f vs pre post)
    {dp un : Nat} {gd : Option (List Code)} {cn : Str} {cs : Scope} {a : Addr} {ccd : Value} {cl : List (Str × Addr)} {outer : List Env} {A₀ : Around} {base h₀ : Heap} {L : Addr} {m : Str → Option Value} {s : Shared}
    {Q E : Value → Shared → Prop} {mean : ExcName → Option Value} {mg mb : Str → Option Value} {news : List (Addr × Obj)}
    (B : Below A₀ base outer h₀) (F : Fr h₀ L s.heap m) (N : News h₀ L s.heap news) (X : (hd.heap_39 w.params).In h₀) (T : Top hd.view_39 (looseW hd.view_39 []) mean mg mb h₀) (hk : cs.kind = .function) (hp : pre s.heap) (hdp : dp + lv < recursionLimit) (hun : un + 30 * lv < cLine)
    (h : ∀ r h' tk', Fr h₀ L h' m → News h₀ L h' news → post s.heap h' r → Q r { s with heap := h', toks := tk' }) :
    wpAny (model PySem.Challenge.rw_oc0018_01.row.prog w) (ktrTop dp un gd cn cs L a ccd cl outer) (call (.ref f) vs) Q E s :=
  C.use B F X T hk hp hdp hun fun r h' tk' k p => h r h' tk' (F.keeps k) (fun q hq => ⟨k _ _ (N q hq).1, (N q hq).2⟩) p
local macro_rules | `(tactic| walk_at "binaryOp Add str str") => `(tactic| (k_here; (with_reducible show wpAny _ _ (binaryOp Operator.Add (Value.str _ _) (Value.str _ _)) _ _ _); (refine add_G ?z ?_); (case z => (simp only [append_length, S_length]; omega)); intro t' k'))
set_option maxHeartbeats 8000000 in
theorem law_holds : PySem.Challenge.rw_oc0018_01.Holds := hd (by
  w_top off
  k_fill
  intro w s₀ s₁ mg mb G Y fa o pm cd doc dV kV ho hd hcd hD hmg hg args vals as hpre hlay hrd hwl hlo
  have KX := kIn_of Y
  refine Ground.open G ?_
  intro T B D TE TW
  try (refine guard_noD D (by decide +kernel) ?_; clear D)
  clear hmg
  wrow_args hpre hlay hrd hwl hlo
  rename List Int => xs
  rename Addr => Ax
  rename List Value => vs
  rename IntsAre vs xs => hI
  rename Heap.IsList _ _ _ => hL
  rename ¬ _ => hlen
  have fin : ∀ s', s₁.heap.StaysIn s'.heap → s'.os = s₁.os → s'.gens = #[] → GoodWG PySem.Challenge.rw_oc0018_01.row.claim (classAt s₀.heap) (ExcName.means s₀.heap) [ofPy (PyData.list (List.map PyData.int xs))] s₁ (Except.ok (Flow.ret (Value.bool true))) s' := fun s' a b c =>
    good_true (raisesW_false (by wrow_none_raised)) (by wrow_post) a b c
  refine runS_intro ?_ (fin _ (fun _ _ e => e) rfl hg)
  refine wpC_call (codeC_mono (R := GoodWG PySem.Challenge.rw_oc0018_01.row.claim (classAt s₀.heap) (ExcName.means s₀.heap) [ofPy (PyData.list (List.map PyData.int xs))] s₁) ?_ ?_)
  rotate_left
  · intro r s g
    rcases g.1 with ⟨v, _, _, rfl, _⟩ | ⟨e, _, _, rfl, _⟩ <;> exact g
  have he := Dflts.none hD rfl; subst he
  refine call_fullC (binds := [(Str.ofString "script", .ref Ax)]) (by decide) ho hd (Top.nolimit T) hcd (BindsTo.of_eq rfl) (locs rfl) fun h₁ F => ?_
  clear hd hcd hD ho G Y B TE TW
  have N : News s₁.heap s₁.heap.objs.size h₁ [] := News.nil
  have B := below_caller s₁.heap
  dsimp only
  generalize hgL : s₁.heap.objs.size = L at *
  refine wpC_execs_cons (wpC_of ?_)
  repeat' ((fail_if_success (with_reducible show wpAny _ _ (call (Value.ref _) _) _ _ _)); first | (k_unfold; (try dsimp only)) | walk1 | (dsimp only; walk1))
  rename Fr _ _ _ _ => F'
  refine (law_drawn w Ax vs xs hI (by omega)).use B F' KX T rfl (hL.at fun o e => F'.keep _ o e) (by decide) (by decide) fun r h₂ tk₂ k₂ hr => ?_
  obtain ⟨D, vv, cc, t1, t2, rfl, hD0, hD1, gv, gc⟩ := hr
  obtain ⟨F₂, N₂⟩ := frNew F' N k₂ hD0 hD1
  clear F' N k₂ hD0 hD1
  dsimp only at F₂ N₂ ⊢
  obtain ⟨v, rfl⟩ : ∃ v, vv = S v := ⟨_, S_of vv⟩
  obtain ⟨c, rfl⟩ : ∃ c, cc = S c := ⟨_, S_of cc⟩
  obtain ⟨hv1, hv2⟩ := good_list gv
  obtain ⟨hc1, hc2⟩ := good_list gc
  clear gv gc
  repeat' ((fail_if_success (with_reducible show wpAny _ _ (call (Value.ref _) _) _ _ _)); first | (k_unfold; (try dsimp only)) | walk1 | (dsimp only; walk1))
  refine wpC_execs_cons (wpC_of ?_)
  repeat' ((fail_if_success (with_reducible show wpAny _ _ (call (Value.ref _) _) _ _ _)); first | (k_unfold; (try dsimp only)) | walk1 | (dsimp only; walk1))
  generalize ((List.take 12 xs).sum.fmod 2 == 0) = turned at *
  have q1 : (Str.ofString "<a b=\"").length = 6 := rfl
  have q2 : (Str.ofString "\">").length = 2 := rfl
  have q3 : (Str.ofString "</a>").length = 4 := rfl
  have q7 := esc7_length v
  have q8 := esc3_length c
  have q9 := flat_length e7 e7_length v
  have q10 := flat_length e3 e3_length c
  refine wpC_execs_cons (wpC_of ?_)
  repeat' ((fail_if_success (with_reducible show wpAny _ _ (call (Value.ref _) _) _ _ _)); first | (k_unfold; (try dsimp only)) | walk1 | (dsimp only; walk1))
  rename Fr _ _ _ _ => F'
  rename News _ _ _ _ => N'
  refine (escape_attrib w v _ (by omega)).step B F' N' KX T rfl (by decide) (by decide) fun r h₃ tk₃ F₃ N₃ hr => ?_
  obtain ⟨t3, rfl⟩ := hr
  clear F' N'
  dsimp only at F₃ N₃ ⊢
  repeat' ((fail_if_success (with_reducible show wpAny _ _ (call (Value.ref _) _) _ _ _)); first | (k_unfold; (try dsimp only)) | walk1 | (dsimp only; walk1))
  rename Fr _ _ _ _ => F'
  rename News _ _ _ _ => N'
  refine (escape_cdata w c _ (by omega)).step B F' N' KX T rfl (by decide) (by decide) fun r h₄ tk₄ F₄ N₄ hr => ?_
  obtain ⟨t4, rfl⟩ := hr
  clear F' N'
  dsimp only at F₄ N₄ ⊢
  repeat' ((fail_if_success (with_reducible show wpAny _ _ (call (Value.ref _) _) _ _ _)); first | (k_unfold; (try dsimp only)) | walk1 | (dsimp only; walk1))
  rename Fr _ _ _ _ => F'
  rename News _ _ _ _ => N'
  rw [elem_esc v c]
  have hel := elem_len v c
  have hok := ok_elem v c hv2 hc2
  have hval : ∀ x ∈ 65279 :: elem v c, x < 1114112 := fun x hx => by
    rcases List.mem_cons.mp hx with rfl | hx
    · decide
    · exact okS1_lt (hok x hx)
  refine (law_octets w (elem v c) (by omega) hval _ _ _ _).stepP B F' N' KX T rfl (N'.isList (.head _)) (by decide) (by decide) fun r h₅ tk₅ F₅ N₅ hr => ?_
  obtain ⟨t5, rfl⟩ := hr
  clear F' N'
  dsimp only at F₅ N₅ ⊢
  repeat' ((fail_if_success (with_reducible show wpAny _ _ (call (Value.ref _) _) _ _ _)); first | (k_unfold; (try dsimp only)) | walk1 | (dsimp only; walk1))
  have hbl : (encB (65279 :: elem v c)).length = 2 * (((65279 :: elem v c).flatMap unitsOf).length - 1 + 1) := by
    rw [enc_len, List.flatMap_cons, List.length_append]
    have : (unitsOf 65279).length = 1 := rfl
    omega
  have hbn := units_flat_len (65279 :: elem v c)
  rw [List.length_cons] at hbn
  generalize hnn : ((65279 :: elem v c).flatMap unitsOf).length - 1 = nn at hbl
  have hnn2 : nn < 10000 := by omega
  cases turned with
  | true =>
    refine wpC_execs_cons (wpC_Assign_Name (wpC_IfExp ?_))
    repeat' ((fail_if_success (with_reducible show wpAny _ _ (call (Value.ref _) _) _ _ _)); first | (k_unfold; (try dsimp only)) | walk1 | (dsimp only; walk1))
    refine wpC_Call ?_
    walk1
    refine callWith_CK (K := hd.heap_39 w.params) (by k_is) (wpC_of ?_)
    repeat' ((fail_if_success (with_reducible show wpAny _ _ (call (Value.ref _) _) _ _ _)); first | (k_unfold; (try dsimp only)) | walk1 | (dsimp only; walk1))
    rename Fr _ _ _ _ => F'
    rename News _ _ _ _ => N'
    refine (byteswap w (encB (65279 :: elem v c)) (nn + 1) hbl (by omega) _ _).use B F' KX T rfl trivial (by decide) (by decide) fun r h₆ tk₆ k₆ hr => ?_
    obtain ⟨t6, rfl⟩ := hr
    have F₆ := F'.keeps k₆
    have N₆ := news_stays N' k₆
    clear F' N'
    dsimp only at F₆ N₆ ⊢
    repeat' ((fail_if_success (with_reducible show wpAny _ _ (call (Value.ref _) _) _ _ _)); first | (k_unfold; (try dsimp only)) | walk1 | (dsimp only; walk1))
    refine wpC_execs_cons (wpC_of ?_)
    repeat' ((fail_if_success (with_reducible show wpAny _ _ (call (Value.ref _) _) _ _ _)); first | (k_unfold; (try dsimp only)) | walk1 | (dsimp only; walk1))
    rename Fr _ _ _ _ => F'
    rename News _ _ _ _ => N'
    refine (law_spelled7 w v (by omega) _ _).step B F' N' KX T rfl (by decide) (by decide) fun r h₇ tk₇ F₇ N₇ hr => ?_
    obtain ⟨t7, rfl⟩ := hr
    clear F' N'
    dsimp only at F₇ N₇ ⊢
    repeat' ((fail_if_success (with_reducible show wpAny _ _ (call (Value.ref _) _) _ _ _)); first | (k_unfold; (try dsimp only)) | walk1 | (dsimp only; walk1))
    rename Fr _ _ _ _ => F'
    rename News _ _ _ _ => N'
    refine (law_spelled3 w c (by omega) _ _).step B F' N' KX T rfl (by decide) (by decide) fun r h₈ tk₈ F₈ N₈ hr => ?_
    obtain ⟨t8, rfl⟩ := hr
    clear F' N'
    dsimp only at F₈ N₈ ⊢
    repeat' ((fail_if_success (with_reducible show wpAny _ _ (call (Value.ref _) _) _ _ _)); first | (k_unfold; (try dsimp only)) | walk1 | (dsimp only; walk1))
    refine wpC_execs_cons (wpC_of ?_)
    repeat' ((fail_if_success (with_reducible show wpAny _ _ (call (Value.ref _) _) _ _ _)); first | (k_unfold; (try dsimp only)) | walk1 | (dsimp only; walk1))
    rename Fr _ _ _ _ => F'
    rename News _ _ _ _ => N'
    rw [elem_spell v c]
    refine (law_octetsR w (elem v c) (by omega) hval _ _ _ _).stepP B F' N' KX T rfl (N'.isList (.head _)) (by decide) (by decide) fun r h₉ tk₉ F₉ N₉ hr => ?_
    obtain ⟨t9, rfl⟩ := hr
    rw [encL_swap (65279 :: elem v c)]
    clear F' N'
    dsimp only at F₉ N₉ ⊢
    repeat' ((fail_if_success (with_reducible show wpAny _ _ (call (Value.ref _) _) _ _ _)); first | (k_unfold; (try dsimp only)) | walk1 | (dsimp only; walk1))
    · rename _ = true => hbad
      simp at hbad
    rename Fr _ _ _ _ => F'
    rename News _ _ _ _ => N'
    dsimp only
    refine wpC_execs_cons (wpC_Return_some (wpC_Compare1 (wpC_Call ?_)))
    walk1
    refine callWith_CK (K := hd.heap_39 w.params) (by k_is) (wpC_args1 (wpC_Call ?_))
    walk1
    refine callWith_CK (K := hd.heap_39 w.params) (by k_is) (wpC_of ?_)
    repeat' ((fail_if_success (with_reducible show wpAny _ _ (call (Value.ref _) _) _ _ _)); first | (k_unfold; (try dsimp only)) | walk1 | (dsimp only; walk1))
    refine (law_signs w (swap2 (encB (65279 :: elem v c))) nn (by rw [swap2_length]; exact hbl) hnn2 _).use B F' KX T rfl trivial (by decide) (by decide) fun r h₁₀ tk₁₀ k₁₀ hr => ?_
    obtain ⟨t10, rfl⟩ := hr
    rw [read_le (elem v c) hok]
    have F₁₀ := F'.keeps k₁₀
    have N₁₀ := news_stays N' k₁₀
    clear F' N'
    dsimp only at F₁₀ N₁₀ ⊢
    refine ⟨KX.keeps F₁₀.keep, wpC_of ?_⟩
    refine (law_parted w (elem v c) _ _ _ _ v c (elem_cut v c) (no60 c) (by omega) (fun t => read7 w v (by omega) t) (fun t => read3 w c (by omega) t) _).use B F₁₀ KX T rfl trivial (by decide) (by decide) fun r h₁₁ tk₁₁ k₁₁ hr => ?_
    obtain ⟨DD, s1, s2, s3, s4, s5, rfl, hDD0, hDD1⟩ := hr
    obtain ⟨F₁₁, N₁₁⟩ := frNew F₁₀ N₁₀ k₁₁ hDD0 hDD1
    clear F₁₀ N₁₀ k₁₁ hDD0 hDD1
    dsimp only at F₁₁ N₁₁ ⊢
    repeat' ((fail_if_success (with_reducible show wpAny _ _ (call (Value.ref _) _) _ _ _)); first | (k_unfold; (try dsimp only)) | walk1 | (dsimp only; walk1))
    rename Fr _ _ _ _ => F'
    rename News _ _ _ _ => N'
    refine eq_texts (ys := [S [60, 97, 32, 98, 61], S v, S [62], S c, S [47, 97, 62]]) (N'.isList (.tail _ (.head _))) (N'.isList (.head _)) (.cons _ _ (.cons _ _ (.cons _ _ (.cons _ _ (.cons _ _ .nil))))) (.cons _ _ (.cons _ _ (.cons _ _ (.cons _ _ (.cons _ _ .nil))))) (Nat.le_of_ble_eq_true rfl) ?_
    exact fin _ F'.keep rfl hg
  | false =>
    refine wpC_execs_cons (wpC_Assign_Name (wpC_IfExp ?_))
    repeat' ((fail_if_success (with_reducible show wpAny _ _ (call (Value.ref _) _) _ _ _)); first | (k_unfold; (try dsimp only)) | walk1 | (dsimp only; walk1))
    refine wpC_of ?_
    repeat' ((fail_if_success (with_reducible show wpAny _ _ (call (Value.ref _) _) _ _ _)); first | (k_unfold; (try dsimp only)) | walk1 | (dsimp only; walk1))
    refine wpC_execs_cons (wpC_of ?_)
    repeat' ((fail_if_success (with_reducible show wpAny _ _ (call (Value.ref _) _) _ _ _)); first | (k_unfold; (try dsimp only)) | walk1 | (dsimp only; walk1))
    rename Fr _ _ _ _ => F'
    rename News _ _ _ _ => N'
    refine (law_spelled7 w v (by omega) _ _).step B F' N' KX T rfl (by decide) (by decide) fun r h₇ tk₇ F₇ N₇ hr => ?_
    obtain ⟨t7, rfl⟩ := hr
    clear F' N'
    dsimp only at F₇ N₇ ⊢
    repeat' ((fail_if_success (with_reducible show wpAny _ _ (call (Value.ref _) _) _ _ _)); first | (k_unfold; (try dsimp only)) | walk1 | (dsimp only; walk1))
    rename Fr _ _ _ _ => F'
    rename News _ _ _ _ => N'
    refine (law_spelled3 w c (by omega) _ _).step B F' N' KX T rfl (by decide) (by decide) fun r h₈ tk₈ F₈ N₈ hr => ?_
    obtain ⟨t8, rfl⟩ := hr
    clear F' N'
    dsimp only at F₈ N₈ ⊢
    repeat' ((fail_if_success (with_reducible show wpAny _ _ (call (Value.ref _) _) _ _ _)); first | (k_unfold; (try dsimp only)) | walk1 | (dsimp only; walk1))
    refine wpC_execs_cons (wpC_of ?_)
    repeat' ((fail_if_success (with_reducible show wpAny _ _ (call (Value.ref _) _) _ _ _)); first | (k_unfold; (try dsimp only)) | walk1 | (dsimp only; walk1))
    rename Fr _ _ _ _ => F'
    rename News _ _ _ _ => N'
    rw [elem_spell v c]
    refine (law_octets w (elem v c) (by omega) hval _ _ _ _).stepP B F' N' KX T rfl (N'.isList (.head _)) (by decide) (by decide) fun r h₉ tk₉ F₉ N₉ hr => ?_
    obtain ⟨t9, rfl⟩ := hr
    clear F' N'
    dsimp only at F₉ N₉ ⊢
    repeat' ((fail_if_success (with_reducible show wpAny _ _ (call (Value.ref _) _) _ _ _)); first | (k_unfold; (try dsimp only)) | walk1 | (dsimp only; walk1))
    · rename _ = true => hbad
      simp at hbad
    rename Fr _ _ _ _ => F'
    rename News _ _ _ _ => N'
    dsimp only
    refine wpC_execs_cons (wpC_Return_some (wpC_Compare1 (wpC_Call ?_)))
    walk1
    refine callWith_CK (K := hd.heap_39 w.params) (by k_is) (wpC_args1 (wpC_Call ?_))
    walk1
    refine callWith_CK (K := hd.heap_39 w.params) (by k_is) (wpC_of ?_)
    repeat' ((fail_if_success (with_reducible show wpAny _ _ (call (Value.ref _) _) _ _ _)); first | (k_unfold; (try dsimp only)) | walk1 | (dsimp only; walk1))
    refine (law_signs w (encB (65279 :: elem v c)) nn hbl hnn2 _).use B F' KX T rfl trivial (by decide) (by decide) fun r h₁₀ tk₁₀ k₁₀ hr => ?_
    obtain ⟨t10, rfl⟩ := hr
    rw [read_be (elem v c) hok]
    have F₁₀ := F'.keeps k₁₀
    have N₁₀ := news_stays N' k₁₀
    clear F' N'
    dsimp only at F₁₀ N₁₀ ⊢
    refine ⟨KX.keeps F₁₀.keep, wpC_of ?_⟩
    refine (law_parted w (elem v c) _ _ _ _ v c (elem_cut v c) (no60 c) (by omega) (fun t => read7 w v (by omega) t) (fun t => read3 w c (by omega) t) _).use B F₁₀ KX T rfl trivial (by decide) (by decide) fun r h₁₁ tk₁₁ k₁₁ hr => ?_
    obtain ⟨DD, s1, s2, s3, s4, s5, rfl, hDD0, hDD1⟩ := hr
    obtain ⟨F₁₁, N₁₁⟩ := frNew F₁₀ N₁₀ k₁₁ hDD0 hDD1
    clear F₁₀ N₁₀ k₁₁ hDD0 hDD1
    dsimp only at F₁₁ N₁₁ ⊢
    repeat' ((fail_if_success (with_reducible show wpAny _ _ (call (Value.ref _) _) _ _ _)); first | (k_unfold; (try dsimp only)) | walk1 | (dsimp only; walk1))
    rename Fr _ _ _ _ => F'
    rename News _ _ _ _ => N'
    refine eq_texts (ys := [S [60, 97, 32, 98, 61], S v, S [62], S c, S [47, 97, 62]]) (N'.isList (.tail _ (.head _))) (N'.isList (.head _)) (.cons _ _ (.cons _ _ (.cons _ _ (.cons _ _ (.cons _ _ .nil))))) (.cons _ _ (.cons _ _ (.cons _ _ (.cons _ _ (.cons _ _ .nil))))) (Nat.le_of_ble_eq_true rfl) ?_
    exact fin _ F'.keep rfl hg)
end Mine
end

theorem PySem.Challenge.cw_oc0018_01_holds : PySem.Challenge.rw_oc0018_01.Holds :=
  Mine.law_holds
