import PyProof.Rows.All
import Wide.All
import OpenK.AllK
import Wide.FinOn
import PySem.Challenge.RW_il0052_01
set_option Elab.async false
set_option maxRecDepth 100000
set_option linter.unusedVariables false
set_option compiler.extract_closed false
namespace Mine
open PySem PySem.W PyProof.Rows
set_option maxHeartbeats 8000000
open_top hd for PySem.Challenge.rw_il0052_01
set_option maxHeartbeats 200000
open PySem.Calls PySem.Spec
/-! part B1 -/
/-- what stands around every call: the program, the world, what the head knows of the top -/
structure Wd where
  prog : Program
  w : World
  p : Program
  loose : List Str
  mean : ExcName → Option Value
  mg : Str → Option Value
  mb : Str → Option Value

abbrev Wd.T (W : Wd) (h : Heap) : Prop := Top W.p W.loose W.mean W.mg W.mb h
abbrev Wd.M (W : Wd) : Model := model W.prog W.w

/-! tokens never fall -/
theorem runs_toks {M : Model} {Γ : PySem.Ctx} {p : Pos} {t : Sem Fin} {fs : List Frame} {s s' : Shared} {e : End} (h : Runs M Γ p t fs s e s') : s.toks ≤ s'.toks := by
  induction h with
  | done => exact Nat.le_refl _
  | raise => exact Nat.le_refl _
  | yield => exact Nat.le_refl _
  | again _ _ ih => exact ih
  | rule _ ih => exact ih
  | «at» _ ih => exact ih
  | load _ _ ih => exact ih
  | update _ _ ih => exact ih
  | loadIfAlive _ ih => exact ih
  | point _ ih => exact ih
  | alloc _ ih => exact ih
  | fresh _ ih => exact Nat.le_of_succ_le ih
  | ask _ ih => exact ih
  | choose _ _ ih => exact ih
  | os _ ih => exact ih
  | handled _ ih => exact ih
  | genState _ _ ih => exact ih
  | stack _ ih => exact ih
  | thread _ ih => exact ih
  | newGen _ ih => exact ih
  | call _ _ i1 i2 => exact Nat.le_trans i1 i2
  | callSusp _ i1 => exact i1
  | resumeFresh _ _ _ _ i1 i2 => exact Nat.le_trans i1 i2
  | resumeSuspended _ _ _ _ i1 i2 => exact Nat.le_trans i1 i2
  | resumeJustStarted _ _ _ i1 => exact i1
  | resumeThrowFresh _ _ i1 => exact i1
  | resumeRunning _ _ i1 => exact i1
  | resumeFinished _ _ i1 => exact i1
  | segRet _ _ i1 i2 => exact Nat.le_trans i1 i2
  | segGen _ _ i1 i2 => exact Nat.le_trans i1 i2
  | segSuspOut _ _ i1 => exact i1
  | segSuspGen _ _ _ _ i1 i2 => exact Nat.le_trans i1 i2

theorem wakes_toks {M : Model} {Γ : PySem.Ctx} {p : Pos} {g : Nat} {r : Resume} {s s' : Shared} {res : GenResult} (h : Wakes M Γ p g r s res s') : s.toks ≤ s'.toks := by
  unfold Wakes at h
  split at h
  · exact h.elim
  · split at h
    · obtain ⟨_, _, h1, _, _, rfl⟩ := h; exact (runs_toks h1 : _)
    · obtain ⟨_, rfl⟩ := h; exact Nat.le_refl _
    · obtain ⟨_, rfl⟩ := h; exact Nat.le_refl _
  · obtain ⟨_, _, h1, _, _, rfl⟩ := h; exact (runs_toks h1 : _)
  · obtain ⟨_, rfl⟩ := h; exact Nat.le_refl _
  · obtain ⟨_, rfl⟩ := h; exact Nat.le_refl _

theorem wp_toks {α : Type} {M : Model} {Γ : PySem.Ctx} (n : Nat) (t : Sem α) {Q : α → Pos → Shared → Prop} {E : Value → Pos → Shared → Prop} (p : Pos) (s : Shared) (hn : n ≤ s.toks) (h : Sem.wp M Γ t Q E p s) :
    Sem.wp M Γ t (fun a p' s' => n ≤ s'.toks ∧ Q a p' s') (fun e p' s' => n ≤ s'.toks ∧ E e p' s') p s := by
  revert h
  induction t generalizing p s with
  | pure x => exact fun h => ⟨hn, h⟩
  | raise v => exact fun h => ⟨hn, h⟩
  | unsupported | finish | yield | fork | await | register => exact id
  | rule _ k ih | «at» _ k ih | alloc _ k ih | loadIfAlive _ k ih | point _ k ih | ask k ih | os _ _ k ih | handled _ k ih | newGen _ k ih | stack k ih | thread k ih => exact ih _ _ _ hn
  | fresh k ih => exact ih _ _ _ (Nat.le_succ_of_le hn)
  | load a _ k ih | genState a k ih => exact fun ⟨o, ho, h⟩ => ⟨o, ho, ih _ _ _ hn h⟩
  | update a _ f k ih | choose _ _ k ih => exact fun ⟨ha, h⟩ => ⟨ha, ih _ _ _ hn h⟩
  | call c h g l k ih => exact fun ⟨r, s', hr, h⟩ => ⟨r, s', hr, ih _ _ _ (Nat.le_trans hn (runs_toks hr)) h⟩
  | resume g r l k ih => exact fun ⟨res, s', hw, h⟩ => ⟨res, s', hw, ih _ _ _ (Nat.le_trans hn (wakes_toks hw)) h⟩

theorem wpAny_toks {α : Type} {M : Model} {A : Around} {t : Sem α} {Q : α → Shared → Prop} {E : Value → Shared → Prop} {s : Shared} {n : Nat} (hn : n ≤ s.toks)
    (h : wpAny M A t (fun a s' => n ≤ s'.toks → Q a s') E s) : wpAny M A t Q E s := fun Γ p hΓ =>
  Sem.wp_mono M Γ t (fun _ _ _ q => q.2 q.1) (fun _ _ _ q => q.2) p s (wp_toks n t p s hn (h Γ p hΓ))

/-- a statement, then the rest, the tokens forgotten but for their being above nought -/
theorem execs_consT {M : Model} {A : Around} {st : Stmt} {rest : List Stmt} {env : Env} {Q : Flow → Shared → Prop} {E : Value → Shared → Prop} {s : Shared} (h0 : 1 ≤ s.toks)
    (h : wpAny M A (exec st env) (fun f s' => match f with | .next => ∀ tk', 1 ≤ tk' → wpAny M A (execs rest env) Q E { s' with toks := tk' } | f => Q f s') E s) :
    wpAny M A (execs (st :: rest) env) Q E s := by
  refine wpAny_execs_cons (wpAny_toks (n := 1) h0 (wpAny_mono h (fun f s' q ht => ?_) fun _ _ e => e))
  cases f with
  | next => exact q s'.toks ht
  | _ => exact q

def Spec (W : Wd) (f : Addr) (args : List Value) (d u : Nat) (Pre : Heap → Prop) (Post : Heap → Value → Prop) : Prop :=
  ∀ (dp un : Nat) (gd : Option (List Code)) (cn : Str) (cs : Scope) (a : Addr) (ccd : Value) (cl : List (Str × Addr)) (outer : List Env) (A₀ : Around) (base h₀ : Heap) (L : Addr) (m : Str → Option Value) (hid : List Addr) (s : Shared)
    (Q E : Value → Shared → Prop),
    Below A₀ base outer h₀ → Fr h₀ L s.heap m → (hd.heap_39 W.w.params).In h₀ → W.T h₀ → cs.kind = .function → dp + d < recursionLimit → un + u < cLine → 1 ≤ s.toks → (∀ a ∈ hid, (s.heap.get? a).isSome = true) → Pre (hideAll s.heap hid) →
    (∀ r h' tk', s.heap.StaysIn h' → 1 ≤ tk' → Post (hideAll h' hid) r → Q r { s with heap := h', toks := tk' }) →
    wpAny W.M (ktrTop dp un gd cn cs L a ccd cl outer) (call (.ref f) args) Q E s

theorem Spec.intro {W : Wd} {f : Addr} {args : List Value} {d u : Nat} {Pre : Heap → Prop} {Post : Heap → Value → Prop}
    {name qual : Str} {params : Arguments} {body : List Stmt} {scope : Scope} {dV kV doc pm cdv ct oc : Value} {an od : Option Addr} {osl : Array (Option Value)} {binds : List (Str × Value)}
    (ho : (hd.heap_39 W.w.params).lookup f = some ⟨oc, od, .func (fnOf name qual params body scope dV kV doc pm an cdv ct), osl⟩)
    (hcd : codeIn (hd.heap_39 W.w.params) cdv qual = true)
    (hbind : ∀ s : Shared, (hd.heap_39 W.w.params).In s.heap → BindsTo s (fnOf name qual params body scope dV kV doc pm an cdv ct) ⟨args, []⟩ binds)
    (hloc : (binds.all fun x => decide (scope.names.lookup x.1 = some .local)) = true)
    (hd1 : 1 ≤ d) (hu : 3 ≤ u)
    (hcell : ∀ x ∈ scope.names, x.2 ≠ .cell) (hco : scope.isCoroutine = false) (hgen : scope.isGenerator = false) (hk : scope.kind = .function)
    (hb : ∀ (dp un : Nat) (gd : Option (List Code)) (outer : List Env) (A₀ : Around) (base : Heap) (L : Addr) (h₁ : Heap) (tk : Nat) (hid : List Addr) (s : Shared) (Q : Value → Shared → Prop),
      Below A₀ base outer s.heap → Fr s.heap L h₁ (fun y => binds.reverse.lookup y) → (hd.heap_39 W.w.params).In s.heap → W.T s.heap → dp + (d - 1) < recursionLimit → un + (u - 3) < cLine → 1 ≤ tk → (∀ a ∈ hid, (s.heap.get? a).isSome = true) → Pre (hideAll s.heap hid) →
      (∀ r h' tk', s.heap.StaysIn h' → Post (hideAll h' hid) r → Q r { s with heap := h', toks := tk' }) →
      wpAny W.M (ktrTop dp un gd qual scope L f cdv [] outer) (execs body (envX qual scope L f cdv []))
        (fun fl s' => Q (match fl with | .ret v => v | _ => .none) s') (fun _ _ => False) { s with heap := h₁, toks := tk }) :
    Spec W f args d u Pre Post := by
  intro dp un gd cn cs a ccd cl outer A₀ base h₀ L m hid s Q E B F X T hkc hdp hun htk hal hpre hret
  refine wpAny_call ?_
  have X' : (hd.heap_39 W.w.params).In s.heap := X.keeps F.keep
  have T' : W.T s.heap := T.keeps F.keep
  have hA : (ktrTop dp un gd cn cs L a ccd cl outer).frames = some (envX cn cs L a ccd cl :: outer) := rfl
  have B' : Below (A₀.deeper (envX cn cs L a ccd cl)) base (envX cn cs L a ccd cl :: outer) s.heap := pushX B F rfl hkc
  refine codeAny_call_def (fd := fnOf name qual params body scope dV kV doc pm an cdv ct) (body := body) (binds := binds) (by show dp < recursionLimit; omega) (X' _ _ ho) rfl T'.nolimit (codeRec_of X' hcd) rfl (hbind s X') hcell (locs hloc) (fun h₁ hns hk₁ => ?_) hco hgen hk
  have F' : Fr s.heap s.heap.objs.size h₁ (fun y => binds.reverse.lookup y) := ⟨hns, hk₁, Nat.le_refl _⟩
  refine wpAny_toks (n := 1) (by show 1 ≤ s.toks + binds.length; omega) ?_
  refine wpAny_mono (hb (dp + 1) (un + 3) gd (envX cn cs L a ccd cl :: outer) _ base s.heap.objs.size h₁ (s.toks + binds.length) hid s (fun v s' => 1 ≤ s'.toks → Q v s') B' F' X' T' (by omega) (by omega) (by omega) hal hpre fun r h' tk' st post ht => hret r h' tk' st ht post) (fun fl s' q => ?_) fun _ _ e => e.elim
  exact q

/-! the parts of the heap that stand still -/
def lv (g V : Heap) : List (Addr × Obj) := ((List.range V.objs.size).filterMap fun a => (V.get? a).map fun o => (a, o)).filter (fun p => (g.get? p.1).isNone)
theorem mem_lv {g V : Heap} {a : Addr} {o : Obj} : (a, o) ∈ lv g V ↔ V.get? a = some o ∧ g.get? a = none := by
  unfold lv
  rw [List.mem_filter, List.mem_filterMap]
  constructor
  · rintro ⟨⟨b, hb, e⟩, hn⟩
    cases hq : V.get? b with
    | none => rw [hq] at e; cases e
    | some x =>
      rw [hq] at e; cases e
      exact ⟨hq, by simpa using hn⟩
  · rintro ⟨h1, h2⟩
    exact ⟨⟨a, List.mem_range.mpr (Heap.lt_size h1), by rw [h1]; rfl⟩, by simp [h2]⟩

structure Vis (g : Heap) (hid : List Addr) (V : Heap) : Prop where
  off : ∀ a ∈ hid, V.get? a = none
  agree : ∀ a o o', V.get? a = some o → g.get? a = some o' → o = o'

theorem Vis.of_hide {g h : Heap} {hid : List Addr} (k : g.StaysIn h) : Vis g hid (hideAll h hid) :=
  ⟨fun a ha => hideAll_none _ ha, fun a o o' e e' => by have h1 := of_hideAll _ e; rw [k _ _ e'] at h1; exact (Option.some.inj h1).symm⟩

theorem Vis.stays {g h V : Heap} {hid : List Addr} {L : Addr} {m : Str → Option Value} {news : List (Addr × Obj)} (Y : Vis g hid V) (F : Fr g L h m) (N : News g L h news) (hs : ∀ p ∈ lv g V, p ∈ news) : V.StaysIn h := by
  intro a o e
  cases hq : g.get? a with
  | none => exact (N _ (hs _ (mem_lv.mpr ⟨e, hq⟩))).1
  | some o' => rw [Y.agree a o o' e hq]; exact F.keep _ _ hq

theorem news_lv {g h V : Heap} {hid : List Addr} {L : Addr} (Y : Vis g hid V) (hL : L ∈ hid) (k : V.StaysIn h) : News g L h (lv g V) := by
  rintro ⟨a, o⟩ hp
  obtain ⟨h1, h2⟩ := mem_lv.mp hp
  refine ⟨k _ _ h1, ⟨fun q => ?_, h2⟩⟩
  have := Y.off L hL; rw [← (show a = L from q), h1] at this; cases this

theorem stays_hide {h V : Heap} {hid : List Addr} (hoff : ∀ a ∈ hid, V.get? a = none) (k : V.StaysIn h) : V.StaysIn (hideAll h hid) := fun a o e =>
  hideAll_get _ (k _ _ e) fun q => by have := hoff a q; rw [e] at this; cases this

theorem hide_mono {h : Heap} {hid hid' : List Addr} (hs : ∀ a ∈ hid, a ∈ hid') : (hideAll h hid').StaysIn (hideAll h hid) := fun a o e =>
  hideAll_get _ (of_hideAll _ e) fun q => by have := hideAll_none (h := h) hid' (hs a q); rw [e] at this; cases this

def Mono (P : Heap → Prop) : Prop := ∀ V V' : Heap, V.StaysIn V' → P V → P V'

/-- a call of a def whose contract is known, from within a frame -/
theorem Spec.use {W : Wd} {f : Addr} {args : List Value} {d u : Nat} {Pre : Heap → Prop} {Post : Heap → Value → Prop} (S : Spec W f args d u Pre Post) (hid : List Addr) (V : Heap) (mt : List (Addr × Obj))
    {dp un : Nat} {gd : Option (List Code)} {cn : Str} {cs : Scope} {a : Addr} {ccd : Value} {cl : List (Str × Addr)} {outer : List Env} {A₀ : Around} {base g : Heap} {L : Addr} {m : Str → Option Value} {s : Shared} {news : List (Addr × Obj)}
    {Q E : Value → Shared → Prop} (B : Below A₀ base outer g) (F : Fr g L s.heap m) (X : (hd.heap_39 W.w.params).In g) (T : W.T g) (hk : cs.kind = .function) (hdp : dp + d < recursionLimit) (hun : un + u < cLine)
    (N : News g L s.heap news) (Y : Vis g hid V) (hVn : ∀ p ∈ lv g V, p ∈ news) (hL : L ∈ hid) (hal : ∀ a ∈ hid, (s.heap.get? a).isSome = true) (htk : 1 ≤ s.toks) (hm : ∀ p ∈ mt, p ∈ news) (mono : Mono Pre) (hpre : Pre V)
    (ret : ∀ r h' tk' V', Fr g L h' m → News g L h' (mt ++ lv g V') → V.StaysIn V' → Vis g hid V' → 1 ≤ tk' → Post V' r → Q r { s with heap := h', toks := tk' }) :
    wpAny W.M (ktrTop dp un gd cn cs L a ccd cl outer) (call (.ref f) args) Q E s := by
  have kV := Y.stays F N hVn
  refine S dp un gd cn cs a ccd cl outer A₀ base g L m hid s Q E B F X T hk hdp hun htk hal (mono _ _ (stays_hide Y.off kV) hpre) fun r h' tk' st ht post => ?_
  have F' : Fr g L h' m := F.keeps st
  have Y' : Vis g hid (hideAll h' hid) := Vis.of_hide F'.keep
  refine ret r h' tk' (hideAll h' hid) F' (fun p hp => ?_) (stays_hide Y.off fun a o e => st _ _ (kV _ _ e)) Y' ht post
  rcases List.mem_append.mp hp with hp | hp
  · have := N p (hm p hp); exact ⟨st _ _ this.1, this.2⟩
  · exact news_lv Y' hL (fun a o e => of_hideAll _ e) p hp

/-- a contract whose answer is no part of the heap -/
def PSpec (W : Wd) (f : Addr) (args : List Value) (d u : Nat) (Pre : Heap → Prop) (Post : Value → Prop) : Prop := Spec W f args d u Pre fun _ v => Post v

theorem PSpec.use {W : Wd} {f : Addr} {args : List Value} {d u : Nat} {Pre : Heap → Prop} {Post : Value → Prop} (S : PSpec W f args d u Pre Post) (V : Heap)
    {dp un : Nat} {gd : Option (List Code)} {cn : Str} {cs : Scope} {a : Addr} {ccd : Value} {cl : List (Str × Addr)} {outer : List Env} {A₀ : Around} {base g : Heap} {L : Addr} {m : Str → Option Value} {s : Shared} {news : List (Addr × Obj)}
    {Q E : Value → Shared → Prop} (B : Below A₀ base outer g) (F : Fr g L s.heap m) (X : (hd.heap_39 W.w.params).In g) (T : W.T g) (hk : cs.kind = .function) (hdp : dp + d < recursionLimit) (hun : un + u < cLine)
    (N : News g L s.heap news) (kV : V.StaysIn s.heap) (htk : 1 ≤ s.toks) (mono : Mono Pre) (hpre : Pre V)
    (ret : ∀ r h' tk', Fr g L h' m → News g L h' news → s.heap.StaysIn h' → 1 ≤ tk' → Post r → Q r { s with heap := h', toks := tk' }) :
    wpAny W.M (ktrTop dp un gd cn cs L a ccd cl outer) (call (.ref f) args) Q E s := by
  refine S dp un gd cn cs a ccd cl outer A₀ base g L m [] s Q E B F X T hk hdp hun htk (fun _ h => nomatch h) (mono _ _ kV hpre) fun r h' tk' st ht post => ?_
  exact ret r h' tk' (F.keeps st) (fun p hp => ⟨st _ _ (N p hp).1, (N p hp).2⟩) st ht post
/-! part B2 -/
theorem fillK : PySem.Challenge.rw_il0052_01 = PySem.Challenge.rw_il0052_01 ∧ hd.heap_39 = hd.heap_39 := by
  k_fill
  exact ⟨rfl, rfl⟩

-- the side goals of Spec.intro
local macro_rules | `(tactic| tb_start) => `(tactic| ((case ho => k_dflt k_is); (case hcd => k_dflt k_is); (case hbind => (intro s X; exact BindsTo.of_eq rfl)); (case hloc => exact rfl); (case hcell => decide); (case hco => exact rfl); (case hgen => exact rfl); (case hk => exact rfl)))

theorem str_at {a b : Str} {t : Tok} (h : a = b) : ∃ tk, Value.str a t = .str b tk := ⟨t, by rw [h]⟩
theorem news0 {g h : Heap} {L : Addr} : News g L h [] := fun _ h => nomatch h

/-- a text out of its signs -/
abbrev S (l : List Nat) : Str := ⟨l.toArray⟩

/-! what the heap holds -/
def Rd (h : Heap) (v : Value) (d : PyData) : Prop := ∃ as, Reads h v d as
def RdAll (h : Heap) (vs : List Value) (ds : List PyData) : Prop := ∃ as, ReadsAll h vs ds as

theorem Rd.mono {h h' : Heap} {v : Value} {d : PyData} (k : h.StaysIn h') (x : Rd h v d) : Rd h' v d := let ⟨_, r⟩ := x; ⟨_, Reads.keeps k r⟩
theorem RdAll.mono {h h' : Heap} {vs : List Value} {ds : List PyData} (k : h.StaysIn h') (x : RdAll h vs ds) : RdAll h' vs ds := let ⟨_, r⟩ := x; ⟨_, ReadsAll.keeps k r⟩
theorem rd_mono {v : Value} {d : PyData} : Mono fun h => Rd h v d := fun _ _ k x => x.mono k
theorem Rd.none {h : Heap} : Rd h .none .none := ⟨_, .none⟩
theorem Rd.int {h : Heap} {i : Int} {t : Tok} : Rd h (.int i t) (.int i) := ⟨_, .int i t⟩
theorem Rd.str {h : Heap} {x : Str} {t : Tok} : Rd h (.str x t) (.str x) := ⟨_, .str x t⟩
theorem RdAll.nil {h : Heap} : RdAll h [] [] := ⟨_, .nil⟩
theorem RdAll.cons {h : Heap} {v : Value} {d : PyData} {vs : List Value} {ds : List PyData} (a : Rd h v d) (b : RdAll h vs ds) : RdAll h (v :: vs) (d :: ds) := let ⟨_, r⟩ := a; let ⟨_, q⟩ := b; ⟨_, .cons r q⟩
theorem RdAll.append {h : Heap} : ∀ {vs ws : List Value} {ds es : List PyData}, RdAll h vs ds → RdAll h ws es → RdAll h (vs ++ ws) (ds ++ es)
  | [], _, [], _, _, b => b
  | _ :: _, _, _ :: _, _, ⟨_, .cons r q⟩, b => .cons ⟨_, r⟩ (RdAll.append ⟨_, q⟩ b)
  | [], _, _ :: _, _, ⟨_, x⟩, _ => nomatch x
  | _ :: _, _, [], _, ⟨_, x⟩, _ => nomatch x
theorem RdAll.len {h : Heap} : ∀ {vs : List Value} {ds : List PyData}, RdAll h vs ds → vs.length = ds.length
  | [], [], _ => rfl
  | _ :: _, _ :: _, ⟨_, .cons _ q⟩ => by simp [RdAll.len ⟨_, q⟩]
  | [], _ :: _, ⟨_, x⟩ => nomatch x
  | _ :: _, [], ⟨_, x⟩ => nomatch x
theorem RdAll.inv {h : Heap} {vs : List Value} {d : PyData} {ds : List PyData} (x : RdAll h vs (d :: ds)) : ∃ v vs', vs = v :: vs' ∧ Rd h v d ∧ RdAll h vs' ds := by
  obtain ⟨_, x⟩ := x
  cases x with
  | cons r q => exact ⟨_, _, rfl, ⟨_, r⟩, ⟨_, q⟩⟩
theorem RdAll.inv_nil {h : Heap} {vs : List Value} (x : RdAll h vs []) : vs = [] := by
  obtain ⟨_, x⟩ := x
  cases x; rfl
theorem Rd.list_of {h : Heap} {a : Addr} {o : Obj} {vs : Array Value} {n : Nat} {ds : List PyData} (ho : h.get? a = some o) (hc : o.cls = .type "list") (hd : o.data = .seq vs n) (x : RdAll h vs.toList ds) : Rd h (.ref a) (.list ds) :=
  let ⟨_, r⟩ := x; ⟨_, .list ho hc hd r⟩
theorem Rd.tuple_of {h : Heap} {a : Addr} {o : Obj} {vs : Array Value} {n : Nat} {ds : List PyData} (ho : h.get? a = some o) (hc : o.cls = .type "tuple") (hd : o.data = .seq vs n) (x : RdAll h vs.toList ds) : Rd h (.ref a) (.tuple ds) :=
  let ⟨_, r⟩ := x; ⟨_, .tuple ho hc hd r⟩
theorem Rd.list_in {h : Heap} {a : Addr} {vs : List Value} {ds : List PyData} (I : h.IsList a vs.toArray) (x : RdAll h vs ds) : Rd h (.ref a) (.list ds) := by
  obtain ⟨o, ho, hc, n, hd⟩ := I; exact .list_of ho hc hd x
theorem Rd.tuple_in {h : Heap} {a : Addr} {vs : List Value} {ds : List PyData} (I : IsTup h a vs.toArray) (x : RdAll h vs ds) : Rd h (.ref a) (.tuple ds) := by
  obtain ⟨o, ho, hc, n, hd⟩ := I; exact .tuple_of ho hc hd x
theorem Rd.inv_none {h : Heap} {v : Value} (x : Rd h v .none) : v = .none := by obtain ⟨_, x⟩ := x; cases x; rfl
theorem Rd.inv_str {h : Heap} {v : Value} {y : Str} (x : Rd h v (.str y)) : ∃ t, v = .str y t := by obtain ⟨_, x⟩ := x; cases x; exact ⟨_, rfl⟩
theorem Rd.inv_int {h : Heap} {v : Value} {y : Int} (x : Rd h v (.int y)) : ∃ t, v = .int y t := by obtain ⟨_, x⟩ := x; cases x; exact ⟨_, rfl⟩
theorem Rd.inv_list {h : Heap} {v : Value} {ds : List PyData} (x : Rd h v (.list ds)) : ∃ a vs, v = .ref a ∧ h.IsList a vs.toArray ∧ RdAll h vs ds := by
  obtain ⟨_, x⟩ := x
  cases x with
  | list ho hc hd r => exact ⟨_, _, rfl, ⟨_, ho, hc, _, hd⟩, ⟨_, r⟩⟩
theorem Rd.inv_tuple {h : Heap} {v : Value} {ds : List PyData} (x : Rd h v (.tuple ds)) : ∃ a vs, v = .ref a ∧ IsTup h a vs.toArray ∧ RdAll h vs ds := by
  obtain ⟨_, x⟩ := x
  cases x with
  | tuple ho hc hd r => exact ⟨_, _, rfl, ⟨_, ho, hc, _, hd⟩, ⟨_, r⟩⟩

theorem islist_mono {h h' : Heap} {a : Addr} {vs : Array Value} (k : h.StaysIn h') (x : h.IsList a vs) : h'.IsList a vs := let ⟨o, ho, r⟩ := x; ⟨o, k _ _ ho, r⟩

/-! what a frame made is seen from outside -/
theorem nothid_news {g h : Heap} {L D : Addr} {o : Obj} {hid : List Addr} {news : List (Addr × Obj)} (hal : ∀ a ∈ hid, (g.get? a).isSome = true) (N : News g L h news) (hm : (D, o) ∈ news) : D ∉ hid := fun q => by
  have := hal D q
  rw [(N _ hm).2.2] at this; cases this
theorem nothid_new {g : Heap} {D : Addr} {hid : List Addr} (hal : ∀ a ∈ hid, (g.get? a).isSome = true) (hn : g.get? D = none) : D ∉ hid := fun q => by
  have := hal D q
  rw [hn] at this; cases this
theorem Vis.out {g h V : Heap} {hid hid' : List Addr} {L : Addr} {m : Str → Option Value} {news : List (Addr × Obj)} (Y : Vis g hid' V) (F : Fr g L h m) (N : News g L h news) (hs : ∀ p ∈ lv g V, p ∈ news) (hsub : ∀ a ∈ hid, a ∈ hid') : V.StaysIn (hideAll h hid) :=
  stays_hide (fun a ha => Y.off a (hsub a ha)) (Y.stays F N hs)
/-! part P1 -/
section
open PySem.Builtin PySem.Builtin.Str
theorem S_len (l : List Nat) : (S l).length = l.length := by simp [Str.length]
theorem S_cat (a b : List Nat) : S a ++ S b = S (a ++ b) := Str.ext' (by rw [Str.cps_append]; simp)
theorem S_inj {a b : List Nat} (h : S a = S b) : a = b := by
  have := congrArg (fun x : Str => x.cps.toList) h
  simpa using this
theorem S_beq (a b : List Nat) : (S a == S b) = decide (a = b) := by
  rw [Bool.eq_iff_iff, beq_iff_eq, decide_eq_true_eq]
  exact ⟨S_inj, fun h => by rw [h]⟩
theorem S_eta (x : Str) : x = S x.cps.toList := by simp
theorem S_toList (l : List Nat) : (S l).cps.toList = l := by simp
theorem slice_text (x : Str) (l u : Option Int) : Txt.slice x l u = StrLaws.sliceText x l u := rfl

theorem clip_to (len : Nat) (j : Int) (h : (len : Int) ≤ j) (l : Option Int) : strSliceIndices l (some j) 1 len = strSliceIndices l (some (len : Int)) 1 len := by
  have a : ¬ (j < 0) := by omega
  have b : ¬ ((len : Int) < 0) := by omega
  have e1 : max (0 : Int) (min j (len : Int)) = len := by omega
  have e2 : max (0 : Int) (min (len : Int) (len : Int)) = len := by omega
  simp [strSliceIndices, a, b, e1, e2]
theorem clip_from (len : Nat) (j : Int) (h : (len : Int) ≤ j) (u : Option Int) : strSliceIndices (some j) u 1 len = strSliceIndices (some (len : Int)) u 1 len := by
  have a : ¬ (j < 0) := by omega
  have b : ¬ ((len : Int) < 0) := by omega
  have e1 : max (0 : Int) (min j (len : Int)) = len := by omega
  have e2 : max (0 : Int) (min (len : Int) (len : Int)) = len := by omega
  simp [strSliceIndices, a, b, e1, e2]

theorem slice_to (l : List Nat) (n : Nat) : Txt.slice (S l) none (some (n : Int)) = S (l.take n) := by
  rw [slice_text]
  by_cases h : n ≤ l.length
  · rw [StrLaws.sliceText_to ⟨by omega, by rw [S_toList]; omega⟩, S_toList]
    simp
  · have e : StrLaws.sliceText (S l) none (some (n : Int)) = StrLaws.sliceText (S l) none (some (l.length : Int)) := by
      unfold StrLaws.sliceText
      rw [S_len, clip_to _ _ (by omega)]
    rw [e, StrLaws.sliceText_to ⟨by omega, by rw [S_toList]; omega⟩, S_toList]
    simp [List.take_of_length_le (Nat.le_of_not_le h)]
theorem slice_from (l : List Nat) (n : Nat) : Txt.slice (S l) (some (n : Int)) none = S (l.drop n) := by
  rw [slice_text]
  by_cases h : n ≤ l.length
  · rw [StrLaws.sliceText_from ⟨by omega, by rw [S_toList]; omega⟩, S_toList]
    congr 2
    rw [List.take_of_length_le] <;> simp
  · have e : StrLaws.sliceText (S l) (some (n : Int)) none = StrLaws.sliceText (S l) (some (l.length : Int)) none := by
      unfold StrLaws.sliceText
      rw [S_len, clip_from _ _ (by omega)]
    rw [e, StrLaws.sliceText_from ⟨by omega, by rw [S_toList]; omega⟩, S_toList]
    simp [List.drop_of_length_le (Nat.le_of_not_le h)]
theorem slice_last (l : List Nat) : Txt.slice (S l) (some (-1)) none = S (l.drop (l.length - 1)) := by
  cases l with
  | nil => decide +kernel
  | cons c r =>
    rw [slice_text, StrLaws.sliceText_neg_lo _ _ (by omega) (by rw [S_len]; simp; omega), S_len]
    have e : (-1 : Int) + ((c :: r).length : Nat) = (((c :: r).length - 1 : Nat) : Int) := by simp; omega
    rw [e, ← slice_text, slice_from]
theorem slice_butlast (l : List Nat) : Txt.slice (S l) none (some (-1)) = S l.dropLast := by
  cases l with
  | nil => decide +kernel
  | cons c r =>
    rw [slice_text, StrLaws.sliceText_neg_hi _ _ (by omega) (by rw [S_len]; simp; omega), S_len]
    have e : (-1 : Int) + ((c :: r).length : Nat) = (((c :: r).length - 1 : Nat) : Int) := by simp; omega
    rw [e, ← slice_text, slice_to, List.dropLast_eq_take]

theorem foldl_rep (a : Array Nat) : ∀ (n : Nat) (acc : Array Nat), ((List.replicate n a).foldl (· ++ ·) acc).toList = acc.toList ++ (List.replicate n a.toList).flatten
  | 0, acc => by simp
  | n + 1, acc => by rw [List.replicate_succ, List.foldl_cons, foldl_rep a n]; simp [List.replicate_succ]
theorem mul_one (c : Nat) (d : Int) : Txt.mul (S [c]) d = S (List.replicate d.toNat c) := by
  unfold Txt.mul
  by_cases h : d < 1
  · rw [if_pos h, show d.toNat = 0 by omega]; rfl
  · rw [if_neg h]
    by_cases h1 : d = 1
    · subst h1; rfl
    · have e : (d == 1 || (S [c]).length == 0) = false := by simp [h1, S_len]
      rw [e, if_neg (by decide)]
      apply Str.ext'
      apply Array.toList_inj.mp
      show ((List.replicate d.toNat (S [c]).cps).foldl (· ++ ·) #[]).toList = (S (List.replicate d.toNat c)).cps.toList
      rw [foldl_rep, S_toList, S_toList]
      simp
theorem of_dot : Str.ofString "." = S [46] := by decide +kernel
theorem of_slash : Str.ofString "/" = S [47] := by decide +kernel
theorem of_crlf : Str.ofString "\r\n" = S [13, 10] := by decide +kernel
theorem of_lf : Str.ofString "\n" = S [10] := by decide +kernel
theorem of_cr : Str.ofString "\r" = S [13] := by decide +kernel
theorem of_end : Str.ofString "\r\n.\r\n" = S [13, 10, 46, 13, 10] := by decide +kernel
theorem of_end2 : Str.ofString ".\r\n" = S [46, 13, 10] := by decide +kernel
theorem of_row : Str.ofString "/\r\n" = S [47, 13, 10] := by decide +kernel
theorem of_nil : Str.ofString "" = S [] := by decide +kernel
theorem of_dd : Str.ofString ".." = S [46, 46] := by decide +kernel
theorem of_ss : Str.ofString "//" = S [47, 47] := by decide +kernel

theorem slice_toI (l : List Nat) {j : Int} (h : 0 ≤ j) : Txt.slice (S l) none (some j) = S (l.take j.toNat) := by
  have := slice_to l j.toNat
  rwa [Int.toNat_of_nonneg h] at this
theorem slice_fromI (l : List Nat) {j : Int} (h : 0 ≤ j) : Txt.slice (S l) (some j) none = S (l.drop j.toNat) := by
  have := slice_from l j.toNat
  rwa [Int.toNat_of_nonneg h] at this

def rstripL (c : Nat) (l : List Nat) : List Nat := l.take (l.length - (l.reverse.takeWhile (· == c)).length)
theorem rstrip_S (c : Nat) (l : List Nat) : Txt.rstripChars (S l) (S [c]) = S (rstripL c l) := by
  have e : (fun x => (S [c]).cps.contains x) = (fun x => x == c) := by funext x; rw [Bool.eq_iff_iff]; simp
  have hh : PySem.stripHi (S [c]).cps.contains true (S l) 0 = l.length - (l.reverse.takeWhile (· == c)).length := by
    show (S l).length - (((S l).cps.toList.drop 0).reverse.takeWhile (fun x => (S [c]).cps.contains x)).length = _
    rw [e, S_len, S_toList]; rfl
  have hs : PySem.stripped (S [c]).cps.contains false true (S l) = S (rstripL c l) := by
    show strSub (S l) 0 (PySem.stripHi (S [c]).cps.contains true (S l) 0) = _
    rw [hh]
    apply Str.ext'; apply Array.toList_inj.mp
    rw [StrLaws.strSub_toList, S_toList, S_toList, rstripL]; simp
  unfold Txt.rstripChars Txt.stripBy
  split
  · rename_i h
    simp only [PySem.stripSame, Bool.and_eq_true, beq_iff_eq] at h
    have h2 : PySem.stripHi (S [c]).cps.contains true (S l) 0 = (S l).length := h.2
    rw [hh, S_len] at h2
    rw [rstripL, h2, List.take_length]
  · exact hs

theorem rfind_nn (x y : Str) : 0 ≤ Txt.rfind x y + 1 := by
  unfold Txt.rfind; split <;> omega
def lsl (x : List Nat) : Nat := (Txt.rfind (S x) (S [47]) + 1).toNat
def headL (x : List Nat) : List Nat :=
  if x.take (lsl x) ≠ [] ∧ x.take (lsl x) ≠ List.replicate (x.take (lsl x)).length 47 then rstripL 47 (x.take (lsl x)) else x.take (lsl x)
def tailL (x : List Nat) : List Nat := x.drop (lsl x)

theorem starts_S (b : List Nat) (c : Nat) : Txt.startswith (S b) (S [c]) = decide (b.take 1 = [c]) := by
  unfold Txt.startswith
  rw [StrLaws.subAt_eq]
  rw [Bool.eq_iff_iff]
  cases b <;> simp [Str.length]
theorem ends_S (b : List Nat) (c : Nat) : Txt.endswith (S b) (S [c]) = decide (b.drop (b.length - 1) = [c]) := by
  unfold Txt.endswith
  rw [StrLaws.subAt_eq]
  cases b with
  | nil => simp [Str.length]
  | cons x r =>
    rw [Bool.eq_iff_iff]
    have e : List.take 1 (List.drop ((x :: r).length - 1) (x :: r)) = List.drop ((x :: r).length - 1) (x :: r) := by
      apply List.take_of_length_le; simp
    simp only [S_len, S_toList, Bool.and_eq_true, decide_eq_true_eq, beq_iff_eq]
    rw [show ([c] : List Nat).length = 1 from rfl, e]
    simp
/-! the specification's own small functions, on lists of signs -/
def liftL (d : Nat) (row : List Nat) : List Nat := if row.take 1 = [46] then List.replicate d 46 ++ row else row
end
/-! part X1 -/
local macro_rules | `(tactic| ktr_room) => `(tactic| (simp only [S_len, mul_one, of_dot, List.length_replicate, sizeLine_eq]; omega))
local macro_rules | `(tactic| walk_at "binaryOp Add str str") => `(tactic| (k_here; refine' SB.add ?_ ?hsz; (case hsz => ktr_room); intro t' k'; (try dsimp only)))

theorem head_dot {row : List Nat} : (Txt.slice (S row) none (some 1) == Str.ofString ".") = decide (row.take 1 = [46]) := by
  rw [show Txt.slice (S row) none (some 1) = S (row.take 1) from slice_to row 1, of_dot, S_beq]
theorem lifted_yes {row : List Nat} {d : Nat} (h : (Txt.slice (S row) none (some 1) == Str.ofString ".") = true) : Txt.mul (Str.ofString ".") (d : Int) ++ S row = S (liftL d row) := by
  rw [head_dot, decide_eq_true_eq] at h
  rw [of_dot, mul_one, S_cat, liftL, if_pos h]; rfl
theorem lifted_no {row : List Nat} {d : Nat} (h : (Txt.slice (S row) none (some 1) == Str.ofString ".") = false) : S row = S (liftL d row) := by
  rw [head_dot, decide_eq_false_iff_not] at h
  rw [liftL, if_neg h]
set_option maxHeartbeats 4000000 in
theorem lifted_spec (W : Wd) (row : List Nat) (d : Nat) (t t2 : Tok) (hd1 : d ≤ 100) (hr : row.length ≤ 100000) :
    PSpec W 207 [.str (S row) t, .int (d : Int) t2] 1 3 (fun _ => True) (fun v => ∃ t', v = .str (S (liftL d row)) t') := by
  refine' Spec.intro (binds := [(Str.ofString "row", .str (S row) t), (Str.ofString "d", .int (d : Int) t2)]) ?ho ?hcd ?hbind ?hloc (by omega) (by omega) ?hcell ?hco ?hgen ?hk ?hb
  tb_start
  intro dp un gd outer A₀ base L h₁ tk hid s Q B F X T hdp hun htk hal hpre hret
  have N : News s.heap L h₁ [] := news0
  k_steps
  all_goals first
    | exact hret _ _ _ (Fr.keep (by with_reducible assumption)) (str_at (lifted_yes (by assumption)))
    | exact hret _ _ _ (Fr.keep (by with_reducible assumption)) (str_at (lifted_no (by assumption)))
/-! part X6 -/
section
variable {prog : Program} {w : World} {A : Around} {E : Value → Shared → Prop} {s : Shared}
theorem kind_issub : builtinKind "issubclass" = none := by decide +kernel
theorem plain_issub : plainId "issubclass" = true := by decide +kernel
theorem args_issub (a b : Value) : argsOk "issubclass" ⟨[a, b], []⟩ := by unfold argsOk; kernel_rfl
theorem entry_issub : entryFor table "issubclass" = some Builtin.«issubclass» := entryFor_of_tree (by kernel_rfl)
theorem kind_issubn : builtinKind "issubclass.nested" = none := by decide +kernel
theorem plain_issubn : plainId "issubclass.nested" = true := by decide +kernel
theorem args_issubn (a b c : Value) : argsOk "issubclass.nested" ⟨[a, b, c], []⟩ := by unfold argsOk; kernel_rfl
theorem entry_issubn : entryFor table "issubclass.nested" = some Builtin.«issubclass.nested» := entryFor_of_tree (by kernel_rfl)

theorem issubn_str {k : Value} {dep : Int} {tk : Tok} {Q : Value → Shared → Prop} (hk : k = .int dep tk) (h : Q (.bool true) s) :
    wpAny (model prog w) A (call (.builtin "issubclass.nested") [.type "str", .type "str", k]) Q E s := by
  subst hk
  refine call_function_any kind_issubn plain_issubn entry_issubn (args_issubn _ _ _) ?_
  unfold Builtin.«issubclass.nested»
  refine wpAny_bind (m := typeOf (.type "str")) (wpAny_of_eq F.isi_meta_str ?_)
  show wpAny _ _ (if (Value.type "type" == Value.type "type") = true then _ else _) _ _ s
  rw [if_pos (by decide)]
  repeat (any_goals (first | assumption | wp_step))
  refine wpAny_of_eq F.sub_str_str ?_
  exact wpAny_pure h

theorem issub_str {D : Addr} {Q : Value → Shared → Prop} (hD : IsTup s.heap D #[.type "str", .type "bytes"]) (h : Q (.bool true) s) :
    wpAny (model prog w) A (call (.builtin "issubclass") [.type "str", .ref D]) Q E s := by
  refine call_function_any kind_issub plain_issub entry_issub (args_issub _ _) ?_
  refine wpAny_pure (a := Fin.again (.builtin "issubclass.nested" ⟨[.type "str", .ref D, rawInt 0], []⟩)) ⟨Code.quiet_builtin _ (by decide +kernel), codeAny_builtin entry_issubn ?_⟩
  rw [Around.under_plainId (id := "issubclass.nested") plain_issubn _]
  unfold Builtin.«issubclass.nested»
  refine wpAny_bind (m := typeOf (.ref D)) (wpAny_typeOf hD.typeIs ?_)
  show wpAny _ _ (if (Value.type "tuple" == Value.type "type") = true then _ else _) _ _ s
  rw [if_neg (by decide)]
  obtain ⟨o, ho, hc, n, hd⟩ := id hD
  refine wpAny_bind ?_
  unfold Builtin.Builtins.unionMembers
  refine wpAny_bind (m := typeOf (.ref D)) (wpAny_typeOf hD.typeIs ?_)
  rw [if_neg (by decide)]
  refine wpAny_pure ?_
  refine wpAny_bind (wpAny_isInstance hD.typeIs F.sub_tuple_tuple ?_)
  rw [if_pos rfl]
  dsimp only
  rw [if_neg (by decide)]
  refine wpAny_bind (wpAny_seqItems ho hd ?_)
  refine wpAny_bind ?_
  rw [Option.getD_some, ← Array.forIn_toList]
  refine wpAny_bind ?_
  show wpAny _ _ (call (.builtin "issubclass.nested") [.type "str", .type "str", rawInt 1] >>= _) _ _ _
  refine wpAny_bind (issubn_str rfl (wpAny_bind (wpAny_truthy_bool ?_)))
  exact wpAny_bind (wpAny_pure (wpAny_pure (wpAny_pure (wpAny_pure h))))
end

local macro_rules | `(tactic| walk_at "call builtin:issubclass") => `(tactic| (k_here; refine issub_str (News.isTup (by k_asm) (by k_mem)) ?_))

set_option maxHeartbeats 4000000 in
theorem fspath_spec (W : Wd) (x : Str) (t : Tok) : PSpec W 128 [.str x t] 1 3 (fun _ => True) (fun v => v = .str x t) := by
  refine' Spec.intro (binds := [(Str.ofString "path", .str x t)]) ?ho ?hcd ?hbind ?hloc (by omega) (by omega) ?hcell ?hco ?hgen ?hk ?hb
  tb_start
  intro dp un gd outer A₀ base L h₁ tk hid s Q B F X T hdp hun htk hal hpre hret
  have N : News s.heap L h₁ [] := news0
  k_steps
  all_goals exact hret _ _ _ (Fr.keep (by with_reducible assumption)) rfl
/-! part X7 -/
set_option maxHeartbeats 4000000 in
theorem getsep_spec (W : Wd) (x : Str) (t : Tok) : PSpec W 142 [.str x t] 1 3 (fun _ => True) (fun v => ∃ t', v = .str (S [47]) t') := by
  refine' Spec.intro (binds := [(Str.ofString "path", .str x t)]) ?ho ?hcd ?hbind ?hloc (by omega) (by omega) ?hcell ?hco ?hgen ?hk ?hb
  tb_start
  intro dp un gd outer A₀ base L h₁ tk hid s Q B F X T hdp hun htk hal hpre hret
  have N : News s.heap L h₁ [] := news0
  k_steps
  all_goals exact hret _ _ _ (Fr.keep (by with_reducible assumption)) (str_at (by decide +kernel))
/-! part B3 -/
section
open PySem.Builtin PySem.Builtin.Str
theorem rd_tup_news {g h : Heap} {L D : Addr} {hid : List Addr} {news : List (Addr × Obj)} {vs : List Value} {n : Nat} {ds : List PyData} (hal : ∀ a ∈ hid, (g.get? a).isSome = true) (N : News g L h news)
    (hm : (D, ({ cls := .type "tuple", data := .seq vs.toArray n } : Obj)) ∈ news) (x : RdAll (hideAll h hid) vs ds) : Rd (hideAll h hid) (.ref D) (.tuple ds) :=
  .tuple_of (hideAll_get _ (N.get hm) (nothid_news hal N hm)) rfl rfl x
theorem rd_list_news {g h : Heap} {L D : Addr} {hid : List Addr} {news : List (Addr × Obj)} {vs : List Value} {n : Nat} {ds : List PyData} (hal : ∀ a ∈ hid, (g.get? a).isSome = true) (N : News g L h news)
    (hm : (D, ({ cls := .type "list", data := .seq vs.toArray n } : Obj)) ∈ news) (x : RdAll (hideAll h hid) vs ds) : Rd (hideAll h hid) (.ref D) (.list ds) :=
  .list_of (hideAll_get _ (N.get hm) (nothid_news hal N hm)) rfl rfl x

theorem PSpec.use0 {W : Wd} {f : Addr} {args : List Value} {d u : Nat} {Post : Value → Prop} (S : PSpec W f args d u (fun _ => True) Post)
    {dp un : Nat} {gd : Option (List Code)} {cn : Str} {cs : Scope} {a : Addr} {ccd : Value} {cl : List (Str × Addr)} {outer : List Env} {A₀ : Around} {base g : Heap} {L : Addr} {m : Str → Option Value} {s : Shared} {news : List (Addr × Obj)}
    {Q E : Value → Shared → Prop} (B : Below A₀ base outer g) (F : Fr g L s.heap m) (X : (hd.heap_39 W.w.params).In g) (T : W.T g) (hk : cs.kind = .function) (hdp : dp + d < recursionLimit) (hun : un + u < cLine)
    (N : News g L s.heap news) (htk : 1 ≤ s.toks)
    (ret : ∀ r h' tk', Fr g L h' m → News g L h' news → s.heap.StaysIn h' → 1 ≤ tk' → Post r → Q r { s with heap := h', toks := tk' }) :
    wpAny W.M (ktrTop dp un gd cn cs L a ccd cl outer) (call (.ref f) args) Q E s :=
  PSpec.use S s.heap B F X T hk hdp hun N (fun _ _ e => e) htk (fun _ _ _ _ => trivial) trivial ret

section
variable {prog : Program} {w : World} {A : Around} {E : Value → Shared → Prop} {s : Shared} {x y : Str} {t u : Tok} {Q : Value → Shared → Prop}
theorem addT (h0 : 1 ≤ s.toks) (h : ∀ t' k, 1 ≤ k → Q (.str (x ++ y) t') { s with toks := k }) (hsz : x.length + y.length ≤ sizeLine) : wpAny (model prog w) A (binaryOp .Add (.str x t) (.str y u)) Q E s :=
  wpAny_toks h0 (SB.add (fun t' k hk => h t' k hk) hsz)
theorem iaddT (h0 : 1 ≤ s.toks) (h : ∀ t' k, 1 ≤ k → Q (.str (x ++ y) t') { s with toks := k }) (hsz : x.length + y.length ≤ sizeLine) : wpAny (model prog w) A (inplaceOp .Add (.str x t) (.str y u)) Q E s :=
  wpAny_toks h0 (SB.iadd (fun t' k hk => h t' k hk) hsz)
theorem sliceT {value slice : PySem.Expr} {sl : Value} (h0 : 1 ≤ s.toks) (h : wpAny (model prog w) A (subscriptTail value slice (.str x t) sl) (fun v s' => 1 ≤ s'.toks → Q v s') E s) :
    wpAny (model prog w) A (subscriptTail value slice (.str x t) sl) Q E s := wpAny_toks h0 h
end

section
variable {prog : Program} {w : World} {A : Around} {E : Value → Shared → Prop} {s : Shared} {t : Tok} {Q : Value → Shared → Prop} {h₀ : Heap} {L : Addr} {m : Str → Option Value} {news : List (Addr × Obj)}
  {value slice : PySem.Expr} {l r : List Nat}
theorem sl_to {j : Int} {uj : Tok} (hF : Fr h₀ L s.heap m) (hN : News h₀ L s.heap news) (h0 : 1 ≤ s.toks) (hsz : l.length ≤ sizeLine) (e : Txt.slice (S l) none (some j) = S r)
    (h : ∀ h' t' k, Fr h₀ L h' m → News h₀ L h' news → 1 ≤ k → Q (.str (S r) t') { s with heap := h', toks := k })
    (hs : subscripted slice false (.str (S l) t) (.ref s.heap.objs.size) = operate [.ref s.heap.objs.size, .str (S l) t] (getItem (.str (S l) t) (.ref s.heap.objs.size)) := by with_unfolding_all rfl)
    (ht : ∀ r, letTemporaryGo value (.str (S l) t) r = pure () := by intro _; with_unfolding_all rfl) :
    wpAny (model prog w) A (subscriptTail value slice (.str (S l) t) (.ref s.heap.objs.size)) Q E { s with heap := s.heap.push { cls := .type "slice", data := .fields #[.none, .int j uj, .none] } } :=
  wpAny_toks (n := 1) h0 (slice_strN_ns hF hN (fun h' t' k a b c => by rw [e]; exact h h' t' k a b c) hs ht (by rw [S_len]; exact hsz))
theorem sl_from {j : Int} {uj : Tok} (hF : Fr h₀ L s.heap m) (hN : News h₀ L s.heap news) (h0 : 1 ≤ s.toks) (hsz : l.length ≤ sizeLine) (e : Txt.slice (S l) (some j) none = S r)
    (h : ∀ h' t' k, Fr h₀ L h' m → News h₀ L h' news → 1 ≤ k → Q (.str (S r) t') { s with heap := h', toks := k })
    (hs : subscripted slice false (.str (S l) t) (.ref s.heap.objs.size) = operate [.ref s.heap.objs.size, .str (S l) t] (getItem (.str (S l) t) (.ref s.heap.objs.size)) := by with_unfolding_all rfl)
    (ht : ∀ r, letTemporaryGo value (.str (S l) t) r = pure () := by intro _; with_unfolding_all rfl) :
    wpAny (model prog w) A (subscriptTail value slice (.str (S l) t) (.ref s.heap.objs.size)) Q E { s with heap := s.heap.push { cls := .type "slice", data := .fields #[.int j uj, .none, .none] } } :=
  wpAny_toks (n := 1) h0 (slice_strN_sn hF hN (fun h' t' k a b c => by rw [e]; exact h h' t' k a b c) hs ht (by rw [S_len]; exact hsz))
theorem truthyS {Q : Bool → Shared → Prop} (hsz : l.length ≤ sizeLine) (h0 : 1 ≤ s.toks) (h : ∀ k, 1 ≤ k → Q (decide (l ≠ [])) { s with toks := k }) : wpAny (model prog w) A (truthy (.str (S l) t)) Q E s :=
  P.truthy_str (by rw [S_len]; rw [sizeLine_eq] at hsz; omega) (by
    have e : (((S l).length : Int) != 0) = decide (l ≠ []) := by rw [S_len]; cases l <;> simp; omega
    rw [e]; exact h _ (by omega))
theorem lenS (hsz : l.length ≤ sizeLine) (h : Q (.int (l.length : Int) (s.toks + 1)) { s with toks := s.toks + 1 + 1 }) : wpAny (model prog w) A (call (.builtin "len") [.str (S l) t]) Q E s :=
  P.len_str (by rw [S_len]; rw [sizeLine_eq] at hsz; omega) (by rw [S_len]; exact h)
theorem rstripS {u : Tok} {c : Nat} (h0 : 1 ≤ s.toks) (hsz : l.length ≤ sizeLine) (h : ∀ t' k, 1 ≤ k → Q (.str (S (rstripL c l)) t') { s with toks := k }) : wpAny (model prog w) A (call (.builtin "str.rstrip") [.str (S l) t, .str (S [c]) u]) Q E s :=
  wpAny_toks h0 (SC.rstripChars (fun t' k hk => by rw [rstrip_S]; exact h t' k hk) (by rw [S_len]; exact hsz))
theorem mulT {c : Nat} {n : Int} {u : Tok} (h0 : 1 ≤ s.toks) (h1 : n ≤ 1000000) (h : ∀ t' k, 1 ≤ k → Q (.str (S (List.replicate n.toNat c)) t') { s with toks := k }) (hn : 0 ≤ n) : wpAny (model prog w) A (binaryOp .Mult (.str (S [c]) t) (.int n u)) Q E s :=
  wpAny_toks h0 (SB.mul (by
    have e : tooLong ((S [c]).length * n.toNat) = false := by rw [S_len]; unfold tooLong; rw [sizeLine_eq]; simp; omega
    refine ⟨by simp; omega, fun h2 h3 h4 => ?_, fun _ _ => e⟩
    rw [S_len] at h4
    have : (1 : Int) ≤ (2 ^ 63 - 1) / n := by
      rw [Int.le_ediv_iff_mul_le (by omega)]; omega
    have h5 : (2 ^ 63 - 1 : Int) = 9223372036854775807 := by decide
    rw [h5] at this h4
    simp at h4; omega) (fun t' k hk => by rw [mul_one]; exact h t' k hk))
end
end
local macro_rules | `(tactic| ktr_units) => `(tactic| ((try dsimp only); first | assumption | exact Nat.le_add_left 1 _ | omega))
local macro_rules | `(tactic| ktr_room) => `(tactic| (simp only [S_len, S_cat, List.length_take, List.length_drop, List.length_dropLast, mul_one, of_dot, of_slash, of_crlf, of_lf, of_cr, of_end, of_end2, of_row, of_nil, of_dd, of_ss, List.length_replicate, List.length_append, List.length_cons, List.length_nil, sizeLine_eq]; omega))
local macro_rules | `(tactic| walk_at "execs cons") => `(tactic| (k_here; refine' execs_consT ?h0 ?_; (case h0 => ktr_units)))
local macro_rules | `(tactic| walk_at "binaryOp Add str str") => `(tactic| (k_here; refine' addT ?h0 ?_ ?hsz; (case h0 => ktr_units); (case hsz => ktr_room); intro t' k' hk'; (try dsimp only)))
local macro_rules | `(tactic| walk_at "inplaceOp Add str str") => `(tactic| (k_here; refine' iaddT ?h0 ?_ ?hsz; (case h0 => ktr_units); (case hsz => ktr_room); intro t' k' hk'; (try dsimp only)))
-- an equation of a cut
local macro_rules | `(tactic| tbn_conj) => `(tactic| first | exact slice_toI _ (rfind_nn _ _) | exact slice_fromI _ (rfind_nn _ _) | exact slice_toI _ (by omega) | exact slice_fromI _ (by omega) | exact slice_butlast _ | exact slice_last _)
local macro_rules | `(tactic| walk_at "subscriptTail Name Slice str ref") => `(tactic| (k_here; (with_reducible show wpAny _ _ (subscriptTail _ (Expr.Slice none (some _) none _) _ _) _ _ _); (with_reducible rename Fr _ _ _ _ => F'); (with_reducible rename News _ _ _ _ => N'); refine' sl_to (s := ⟨_, _, _, _, _⟩) F' N' ?h0 ?hsz ?e ?_; (case h0 => ktr_units); (case hsz => ktr_room); (case e => tbn_conj); intro h' t' k' F' N' hk'; (try dsimp only)))
local macro_rules | `(tactic| walk_at "subscriptTail Name Slice str ref") => `(tactic| (k_here; (with_reducible show wpAny _ _ (subscriptTail _ (Expr.Slice (some _) none none _) _ _) _ _ _); (with_reducible rename Fr _ _ _ _ => F'); (with_reducible rename News _ _ _ _ => N'); refine' sl_from (s := ⟨_, _, _, _, _⟩) F' N' ?h0 ?hsz ?e ?_; (case h0 => ktr_units); (case hsz => ktr_room); (case e => tbn_conj); intro h' t' k' F' N' hk'; (try dsimp only)))
local macro_rules | `(tactic| walk_at "truthy str") => `(tactic| (k_here; refine' truthyS ?hsz ?h0 ?_; (case hsz => ktr_room); (case h0 => ktr_units); intro k' hk'; (try dsimp only)))
local macro_rules | `(tactic| walk_at "binaryOp Mult str int") => `(tactic| (k_here; refine' mulT ?h0 ?h1 ?_ ?hn; (case h0 => ktr_units); (case h1 => ktr_room); (case hn => first | omega | exact Int.natCast_nonneg _); intro t' k' hk'; (try dsimp only)))
local macro_rules | `(tactic| walk_at "call builtin:len") => `(tactic| (k_here; (with_reducible show wpAny _ _ (call (Value.builtin "len") [Value.str _ _]) _ _ _); refine' lenS ?hsz ?_; (case hsz => ktr_room); (try dsimp only)))
local macro_rules | `(tactic| walk_at "call builtin:str.rstrip") => `(tactic| (k_here; refine' rstripS ?h0 ?hsz ?_; (case h0 => ktr_units); (case hsz => ktr_room); intro t' k' hk'; (try dsimp only)))
-- the premises of a use
local macro_rules | `(tactic| tb_rel) => `(tactic| ((case B => k_asm); (case F => k_asm); (case X => k_asm); (case T => assumption); (case hk => exact rfl); (case hd => first | with_reducible assumption | omega | (simp only [recursionLimit] at *; omega)); (case hu => first | with_reducible assumption | omega | ((have hcL9 := cLine_is); omega)); (case N => k_asm); (case ht => ktr_units)))
local macro_rules | `(tactic| walk_at "call ref") => `(tactic| (k_here; (with_reducible show wpAny _ _ (call (Value.ref 128) [Value.str _ _]) _ _ _); refine' PSpec.use0 (fspath_spec _ _ _) ?B ?F ?X ?T ?hk ?hd ?hu ?N ?ht ?_; tb_rel; (intro r' h' tk' F' N' st' ht' po'; subst po'; (try dsimp only))))
local macro_rules | `(tactic| walk_at "call ref") => `(tactic| (k_here; (with_reducible show wpAny _ _ (call (Value.ref 142) [Value.str _ _]) _ _ _); refine' PSpec.use0 (getsep_spec _ _ _) ?B ?F ?X ?T ?hk ?hd ?hu ?N ?ht ?_; tb_rel; (intro r' h' tk' F' N' st' ht' po'; obtain ⟨t9, po'⟩ := po'; subst po'; (try dsimp only))))
/-! part X5 -/
theorem headL1 {x : List Nat} (h1 : x.take (lsl x) ≠ []) (h2 : (S (x.take (lsl x)) != S (List.replicate ((x.take (lsl x)).length : Int).toNat 47)) = true) : headL x = rstripL 47 (x.take (lsl x)) := by
  rw [bne_iff_ne] at h2
  rw [headL, if_pos ⟨h1, fun e => h2 (by rw [Int.toNat_natCast, ← e])⟩]
theorem headL2 {x : List Nat} (h2 : (S (x.take (lsl x)) != S (List.replicate ((x.take (lsl x)).length : Int).toNat 47)) = false) : headL x = x.take (lsl x) := by
  rw [headL, if_neg]
  intro h
  have := bne_eq_false_iff_eq.mp h2
  exact h.2 (by have q := S_inj this; rwa [Int.toNat_natCast] at q)
theorem headL3 {x : List Nat} (h1 : ¬ x.take (lsl x) ≠ []) : headL x = x.take (lsl x) := by
  rw [headL, if_neg]
  exact fun h => h1 h.1
theorem pair_rd {h : Heap} {a b a' : List Nat} {t u : Tok} (e : a' = a) : RdAll h [.str (S a) t, .str (S b) u] [.str (S a'), .str (S b)] := by
  subst e; exact .cons .str (.cons .str .nil)
set_option maxHeartbeats 4000000 in
theorem split_spec (W : Wd) (x : List Nat) (t : Tok) (hx : x.length ≤ 100000) : Spec W 156 [.str (S x) t] 2 6 (fun _ => True) (fun V v => Rd V v (.tuple [.str (S (headL x)), .str (S (tailL x))])) := by
  refine' Spec.intro (binds := [(Str.ofString "p", .str (S x) t)]) ?ho ?hcd ?hbind ?hloc (by omega) (by omega) ?hcell ?hco ?hgen ?hk ?hb
  tb_start
  intro dp un gd outer A₀ base L h₁ tk hid s Q B F X T hdp hun htk hal hpre hret
  have N : News s.heap L h₁ [] := news0
  k_steps
  · refine hret _ _ _ (Fr.keep (by with_reducible assumption)) ?_
    refine rd_tup_news hal (by with_reducible assumption) (.head _) ?_
    refine pair_rd (headL1 (by assumption) (by assumption))
  · refine hret _ _ _ (Fr.keep (by with_reducible assumption)) ?_
    refine rd_tup_news hal (by with_reducible assumption) (.head _) ?_
    refine pair_rd (headL2 (by assumption))
  · refine hret _ _ _ (Fr.keep (by with_reducible assumption)) ?_
    refine rd_tup_news hal (by with_reducible assumption) (.head _) ?_
    refine pair_rd (headL3 (by assumption))
/-! part B4 -/
/-- a tree that looks at the known part and makes one object: the object stands at the heap's end -/
theorem makes_one {α : Type} {K : Frag} {M : Model} {A : Around} {E : Value → Shared → Prop} {Q : α → Shared → Prop} {s : Shared} {o : Obj} {r : Addr → α} (X : K.In s.heap)
    (q : Q (r s.heap.objs.size) { s with heap := s.heap.push o }) (t : Sem α) : ∀ g : Addr → Option α, peek1 K ⟨M.prog, M.w.params⟩ t = some (o, g) → (∀ D, g D = some (r D)) → wpAny M A t Q E s := by
  induction t with
  | rule _ k ih => exact fun g e hg Γ p hΓ => ih () g e hg Γ p hΓ
  | point _ k ih => exact fun g e hg Γ p hΓ => ih () g e hg Γ p hΓ
  | ask k ih => exact fun g e hg Γ p hΓ => ih _ g e hg Γ p hΓ
  | load a _ k ih =>
    intro g e hg
    cases hl : K.lookup a with
    | none => simp [peek1, hl] at e
    | some ob =>
      simp only [peek1, hl] at e
      exact fun Γ p hΓ => ⟨ob, X _ _ hl, ih ob g e hg Γ p hΓ⟩
  | alloc ob k _ =>
    intro g e hg
    simp only [peek1, Option.some.injEq, Prod.mk.injEq] at e
    obtain ⟨rfl, rfl⟩ := e
    have X' : K.In (s.heap.push ob) := X.keeps fun b x hb => Heap.get?_push_of_some _ hb
    show wpAny M A (PySem.alloc ob >>= k) Q E s
    exact wpAny_bind (wpAny_alloc ((Looks.of_peek (M := M) (h := s.heap.push ob) X' (hg s.heap.objs.size)).here (s := { s with heap := s.heap.push ob }) q))
  | _ => intro g e; simp [peek1] at e

theorem Spec.introR {W : Wd} {f : Addr} {args : List Value} {d u : Nat} {Pre : Heap → Prop} {Post : Heap → Value → Prop}
    {name qual : Str} {params : Arguments} {body : List Stmt} {scope : Scope} {dV kV doc pm cdv ct oc : Value} {an od : Option Addr} {osl : Array (Option Value)} {vs : List Value} {g₁ : Addr → Option (List (Str × Value))} {binds : Addr → List (Str × Value)}
    (ho : (hd.heap_39 W.w.params).lookup f = some ⟨oc, od, .func (fnOf name qual params body scope dV kV doc pm an cdv ct), osl⟩)
    (hcd : codeIn (hd.heap_39 W.w.params) cdv qual = true)
    (hp : peek1 (hd.heap_39 W.w.params) ⟨W.prog, W.w.params⟩ (bindArgs (fnOf name qual params body scope dV kV doc pm an cdv ct) ⟨args, []⟩) = some (({ cls := .type "tuple", data := .seq vs.toArray } : Obj), g₁))
    (hg : ∀ D, g₁ D = some (binds D)) (hloc : ∀ D, ∀ y ∈ binds D, scope.names.lookup y.1 = some .local)
    (hd1 : 1 ≤ d) (hu : 3 ≤ u)
    (hcell : ∀ x ∈ scope.names, x.2 ≠ .cell) (hco : scope.isCoroutine = false) (hgen : scope.isGenerator = false) (hk : scope.kind = .function)
    (hb : ∀ (dp un : Nat) (gd : Option (List Code)) (outer : List Env) (A₀ : Around) (base : Heap) (D L : Addr) (g h₁ : Heap) (tk : Nat) (hid : List Addr) (s : Shared) (Q : Value → Shared → Prop),
      Below A₀ base outer g → Fr g L h₁ (fun y => (binds D).reverse.lookup y) → (hd.heap_39 W.w.params).In g → W.T g → IsTup g D vs.toArray → s.heap.StaysIn g → dp + (d - 1) < recursionLimit → un + (u - 3) < cLine → 1 ≤ tk → (∀ a ∈ hid, (g.get? a).isSome = true) → Pre (hideAll s.heap hid) →
      (∀ r h' tk', g.StaysIn h' → Post (hideAll h' hid) r → Q r { s with heap := h', toks := tk' }) →
      wpAny W.M (ktrTop dp un gd qual scope L f cdv [] outer) (execs body (envX qual scope L f cdv []))
        (fun fl s' => Q (match fl with | .ret v => v | _ => .none) s') (fun _ _ => False) { s with heap := h₁, toks := tk }) :
    Spec W f args d u Pre Post := by
  intro dp un gd cn cs a ccd cl outer A₀ base h₀ L m hid s Q E B F X T hkc hdp hun htk hal hpre hret
  refine wpAny_call ?_
  have X' : (hd.heap_39 W.w.params).In s.heap := X.keeps F.keep
  refine codeAny_call_function (fd := fnOf name qual params body scope dV kV doc pm an cdv ct) (body := body) (by show dp < recursionLimit; omega) (X' _ _ ho) rfl hco hgen rfl (codeRec_of X' hcd) ?_
  refine makes_one (o := ({ cls := .type "tuple", data := .seq vs.toArray } : Obj)) X' (r := binds) ?_ _ g₁ hp hg
  -- the tuple stands; the frame
  have st : s.heap.StaysIn (s.heap.push { cls := .type "tuple", data := .seq vs.toArray }) := fun b o e => Heap.get?_push_of_some _ e
  generalize hh : s.heap.push { cls := .type "tuple", data := .seq vs.toArray } = h' at st
  have ND : h'.get? s.heap.objs.size = some { cls := .type "tuple", data := .seq vs.toArray } := by rw [← hh]; exact Heap.get?_push_size _ rfl
  have F' : Fr h₀ L h' m := F.keeps st
  have T' : W.T h' := T.keeps F'.keep
  have B' : Below (A₀.deeper (envX cn cs L a ccd cl)) base (envX cn cs L a ccd cl :: outer) h' := pushX B F' rfl hkc
  refine wpAny_newFunctionEnv hcell (hloc _) (fun h₁ hns hsb => ⟨T'.nolimit.fresh _ hsb, codeAny_func ?_⟩) hk
  have hk₁ : ∀ b o, h'.get? b = some o → h₁.get? b = some o := fun b o e => hsb.extBut b o (Nat.ne_of_lt (Heap.lt_size e)) (Heap.get?_push_of_some _ e)
  have F₁ : Fr h' h'.objs.size h₁ (fun y => (binds s.heap.objs.size).reverse.lookup y) := ⟨hns, hk₁, Nat.le_refl _⟩
  refine wpAny_toks (n := 1) (by show 1 ≤ s.toks + (binds s.heap.objs.size).length; omega) ?_
  refine wpAny_mono (hb (dp + 1) (un + 3) gd (envX cn cs L a ccd cl :: outer) _ base s.heap.objs.size h'.objs.size h' h₁ (s.toks + (binds s.heap.objs.size).length) hid s (fun v s' => 1 ≤ s'.toks → Q v s') B' F₁ (X.keeps F'.keep) T' ⟨_, ND, rfl, _, rfl⟩ st (by omega) (by omega) (by omega) (fun a ha => ?_) hpre fun r h'' tk' st' post ht => hret r h'' tk' (fun b o e => st' _ _ (st _ _ e)) ht post) (fun fl s' q => ?_) fun _ _ e => e.elim
  · obtain ⟨o, ho'⟩ := Option.isSome_iff_exists.mp (hal a ha)
    rw [st _ _ ho']; rfl
  · exact q
/-! part X8 -/
def joinL (a b : List Nat) : List Nat := if b.take 1 = [47] ∨ a = [] then b else if a.drop (a.length - 1) = [47] then a ++ b else a ++ [47] ++ b
theorem try_quiet {prog : Program} {w : World} {A : Around} {E : Value → Shared → Prop} {s : Shared} {env : Env} {body orelse : List Stmt} {h₀ : ExceptHandler} {hs : List ExceptHandler} {pos : Pos} {Q : Flow → Shared → Prop}
    (h : wpAny (model prog w) A (execs body env) (fun f s₁ => match f with | .next => wpAny (model prog w) A (execs orelse env) Q E s₁ | f => Q f s₁) (fun _ _ => False) s) :
    wpAny (model prog w) A (exec (.Try body (h₀ :: hs) orelse [] pos) env) Q E s :=
  wpAny_Try_except (wpAny_mono h (fun _ _ q => q) fun _ _ x => x.elim)
local macro_rules | `(tactic| walk_at "exec Try") => `(tactic| (k_here; refine try_quiet ?_))
theorem join1 {a b : List Nat} (h : Txt.startswith (S b) (S [47]) = true) : S b = S (joinL a b) := by
  rw [starts_S, decide_eq_true_eq] at h; rw [joinL, if_pos (.inl h)]
theorem join2 {a b : List Nat} (h : ¬ a ≠ []) : S b = S (joinL a b) := by
  rw [joinL, if_pos (.inr (Decidable.not_not.mp h))]
theorem join3 {a b : List Nat} (h : Txt.startswith (S b) (S [47]) = false) (h2 : a ≠ []) (h3 : Txt.endswith (S a) (S [47]) = true) : S a ++ S b = S (joinL a b) := by
  rw [starts_S, decide_eq_false_iff_not] at h
  rw [ends_S, decide_eq_true_eq] at h3
  rw [joinL, if_neg (fun q => q.elim h h2), if_pos h3, S_cat]
theorem join4 {a b : List Nat} (h : Txt.startswith (S b) (S [47]) = false) (h2 : a ≠ []) (h3 : Txt.endswith (S a) (S [47]) = false) : S a ++ (S [47] ++ S b) = S (joinL a b) := by
  rw [starts_S, decide_eq_false_iff_not] at h
  rw [ends_S, decide_eq_false_iff_not] at h3
  rw [joinL, if_neg (fun q => q.elim h h2), if_neg h3, S_cat, S_cat, List.append_assoc]
set_option maxHeartbeats 4000000 in
theorem join_spec (W : Wd) (a b : List Nat) (t u : Tok) (ha : a.length ≤ 100000) (hb : b.length ≤ 100000) : PSpec W 149 [.str (S a) t, .str (S b) u] 3 9 (fun _ => True) (fun v => ∃ t', v = .str (S (joinL a b)) t') := by
  refine' Spec.introR (vs := [.str (S b) u]) (binds := fun D => [(Str.ofString "a", .str (S a) t), (Str.ofString "p", .ref D)]) ?ho ?hcd ?hp ?hg ?hloc (by omega) (by omega) ?hcell ?hco ?hgen ?hk ?hb
  case ho => k_dflt k_is
  case hcd => k_dflt k_is
  case hp => exact rfl
  case hg => exact fun _ => rfl
  case hloc => exact fun _ => locs rfl
  case hcell => decide
  case hco => exact rfl
  case hgen => exact rfl
  case hk => exact rfl
  intro dp un gd outer A₀ base D L g h₁ tk hid s Q B F X T hD st0 hdp hun htk hal hpre hret
  have N : News g L h₁ [] := news0
  k_steps
  all_goals (refine hret _ _ _ (Fr.keep (by with_reducible assumption)) (str_at ?_))
  all_goals first
    | exact join1 (by assumption)
    | exact join2 (by assumption)
    | exact join3 (by assumption) (by assumption) (by assumption)
    | exact join4 (by assumption) (by assumption) (by assumption)
/-! part B5 -/
theorem hide_keep {h h' : Heap} {hid : List Addr} (st : h.StaysIn h') : (hideAll h hid).StaysIn (hideAll h' hid) :=
  stays_hide (fun a ha => hideAll_none _ ha) fun a o e => st _ _ (of_hideAll _ e)
theorem of_hide_stays {h : Heap} {hid : List Addr} : (hideAll h hid).StaysIn h := fun _ _ e => of_hideAll _ e

/-- a call from a frame; the answer is seen with what the caller hides -/
theorem Spec.use1 {W : Wd} {f : Addr} {args : List Value} {d u : Nat} {Pre : Heap → Prop} {Post : Heap → Value → Prop} (S : Spec W f args d u Pre Post) (hid : List Addr)
    {dp un : Nat} {gd : Option (List Code)} {cn : Str} {cs : Scope} {a : Addr} {ccd : Value} {cl : List (Str × Addr)} {outer : List Env} {A₀ : Around} {base g : Heap} {L : Addr} {m : Str → Option Value} {s : Shared} {news : List (Addr × Obj)}
    {Q E : Value → Shared → Prop} (B : Below A₀ base outer g) (F : Fr g L s.heap m) (X : (hd.heap_39 W.w.params).In g) (T : W.T g) (hk : cs.kind = .function) (hdp : dp + d < recursionLimit) (hun : un + u < cLine)
    (N : News g L s.heap news) (htk : 1 ≤ s.toks) (hal : ∀ a ∈ hid, (s.heap.get? a).isSome = true) (hpre : Pre (hideAll s.heap hid))
    (ret : ∀ r h' tk', Fr g L h' m → News g L h' news → s.heap.StaysIn h' → 1 ≤ tk' → Post (hideAll h' hid) r → Q r { s with heap := h', toks := tk' }) :
    wpAny W.M (ktrTop dp un gd cn cs L a ccd cl outer) (call (.ref f) args) Q E s :=
  S dp un gd cn cs a ccd cl outer A₀ base g L m hid s Q E B F X T hk hdp hun htk hal hpre fun r h' tk' st ht post =>
    ret r h' tk' (F.keeps st) (fun p hp => ⟨st _ _ (N p hp).1, (N p hp).2⟩) st ht post

theorem const_S {M : Model} {A : Around} {E : Value → Shared → Prop} {s : Shared} {x : String} {l : List Nat} {k : Nat} {pos : Pos} {env : Env} {Q : Value → Shared → Prop} (e : Str.ofString x = S l) (h : Q (.str (S l) s.toks) { s with toks := s.toks + 1 }) :
    wpAny M A (eval (.Constant (.str (Str.ofString x)) k pos) env) Q E s := Calls.Constant_str (by rw [e]; exact h)
local macro_rules | `(tactic| walk_at "eval Constant str") => `(tactic| (k_here; refine' const_S ?e ?_; (case e => first | exact of_dot | exact of_slash | exact of_crlf | exact of_lf | exact of_cr | exact of_end | exact of_end2 | exact of_row | exact of_nil | exact of_dd | exact of_ss)))
theorem Rd.inv_pair {h : Heap} {v : Value} {x y : Str} (r : Rd h v (.tuple [.str x, .str y])) : ∃ p t u, v = .ref p ∧ IsTup h p #[.str x t, .str y u] := by
  obtain ⟨p, vs, rfl, hT, hv⟩ := r.inv_tuple
  obtain ⟨v1, vs1, rfl, i1, hv1⟩ := hv.inv
  obtain ⟨v2, vs2, rfl, i2, hv2⟩ := hv1.inv
  obtain rfl := hv2.inv_nil
  obtain ⟨t, rfl⟩ := i1.inv_str
  obtain ⟨u, rfl⟩ := i2.inv_str
  exact ⟨p, t, u, rfl, hT⟩
-- a list of the frame's own or of what stood before
local macro_rules | `(tactic| krn_off) => `(tactic| first | exact News.isList (by k_asm) (by k_mem) | exact islist_mono (Fr.keep (by k_asm)) (by with_reducible assumption))
local macro_rules | `(tactic| walk_at "binaryOp Add ref ref") => `(tactic| (k_here; (with_reducible show wpAny _ _ (binaryOp _ (Value.ref _) (Value.ref _)) _ _ _); refine' add_arrays ?F ?N ?a ?b ?_ ?z; (case F => k_asm); (case N => k_asm); (case a => krn_off); (case b => krn_off); (case z => ktr_room); intro h' F' N'; (try dsimp only)))
local macro_rules | `(tactic| walk_at "call ref") => `(tactic| (k_here; (with_reducible show wpAny _ _ (call (Value.ref 149) [Value.str _ _, Value.str _ _]) _ _ _); refine' PSpec.use0 (join_spec _ _ _ _ _ ?la ?lb) ?B ?F ?X ?T ?hk ?hd ?hu ?N ?ht ?_; (case la => ktr_room); (case lb => ktr_room); tb_rel; (intro r' h' tk' F' N' st' ht' po'; obtain ⟨t9, po'⟩ := po'; subst po'; (try dsimp only))))
local macro_rules | `(tactic| walk_at "call ref") => `(tactic| (k_here; (with_reducible show wpAny _ _ (call (Value.ref 156) [Value.str _ _]) _ _ _); refine' Spec.use1 (split_spec _ _ _ ?la) [] ?B ?F ?X ?T ?hk ?hd ?hu ?N ?ht ?hal ?hpre ?_; (case la => ktr_room); tb_rel; (case hal => exact fun _ h9 => nomatch h9); (case hpre => exact True.intro); (intro r' h' tk' F' N' st' ht' po'; obtain ⟨a9, t9, u9, e9, T9⟩ := Rd.inv_pair po'; clear po'; subst e9; (try dsimp only))))
local macro_rules | `(tactic| walk_at "subscriptTail") => `(tactic| (k_here; (with_reducible show wpAny _ _ (subscriptTail _ _ (Value.ref _) (Value.int _ _)) _ _ _); refine' item_tupleT ?t ?a ?b ?c ?d ?_; (case t => assumption); (case a => decide); (case b => decide); (case c => rfl); (case d => rfl); k_whole; (try dsimp only)))
/-! part X9 -/
abbrev Rows := List (List Nat)
def pyRows (rs : Rows) : PyData := .list (rs.map fun l => .str (S l))
def pyRowsO : Option Rows → PyData
  | none => .none
  | some rs => pyRows rs
def pyEntry (e : List Nat × Option Rows) : PyData := .tuple [.str (S e.1), pyRowsO e.2]
structure St where
  place : List Nat
  depth : Nat
  rows : Option Rows
  found : List (List Nat × Option Rows)
def pyFound (f : List (List Nat × Option Rows)) : PyData := .list (f.map pyEntry)
def St.py (σ : St) : PyData := .tuple [.str (S σ.place), .int (σ.depth : Int), pyRowsO σ.rows, pyFound σ.found]
def plainOf (d : Nat) (row : List Nat) : List Nat := if row.take 1 = [46] then row.drop d else row
abbrev isEnd (d : Nat) (row : List Nat) : Prop := 0 < d ∧ row = List.replicate d 46
def endedOf (place : List Nat) : Option Rows → List (List Nat × Option Rows)
  | none => []
  | some rs => [(place, some rs)]
def stepL (σ : St) (row : List Nat) : St :=
  if isEnd σ.depth row then ⟨headL σ.place, σ.depth - 1, none, σ.found ++ endedOf σ.place σ.rows⟩
  else
    match σ.rows with
    | some rs => ⟨σ.place, σ.depth, some (rs ++ [plainOf σ.depth row]), σ.found⟩
    | none =>
      if (plainOf σ.depth row).drop ((plainOf σ.depth row).length - 1) = [47] then
        ⟨joinL σ.place (plainOf σ.depth row).dropLast, σ.depth + 1, none, σ.found ++ [(joinL σ.place (plainOf σ.depth row).dropLast, none)]⟩
      else ⟨joinL σ.place (plainOf σ.depth row), σ.depth + 1, some [], σ.found⟩
structure St.Small (σ : St) : Prop where
  place : σ.place.length ≤ 50000
  depth : σ.depth ≤ 100
  rows : ∀ rs, σ.rows = some rs → rs.length ≤ 50000
  found : σ.found.length ≤ 50000

section
variable {place row X : List Nat} {depth : Nat} {found : List (List Nat × Option Rows)}
theorem end_yes (h0 : 0 < (depth : Int)) (h1 : (S row == S (List.replicate (depth : Int).toNat 46)) = true) : isEnd depth row := by
  rw [S_beq, decide_eq_true_eq, Int.toNat_natCast] at h1; exact ⟨by omega, h1⟩
theorem end_no1 (h1 : (S row == S (List.replicate (depth : Int).toNat 46)) = false) : ¬ isEnd depth row := by
  rw [S_beq, decide_eq_false_iff_not, Int.toNat_natCast] at h1; exact fun h => h1 h.2
theorem end_no2 (h0 : ¬ 0 < (depth : Int)) : ¬ isEnd depth row := fun h => h0 (by have := h.1; omega)
theorem plain_yes (h : (S (List.take (Int.toNat 1) row) == S [46]) = true) : plainOf depth row = row.drop (depth : Int).toNat := by
  rw [S_beq, decide_eq_true_eq] at h; rw [plainOf, if_pos (show row.take 1 = [46] from h), Int.toNat_natCast]
theorem plain_no (h : (S (List.take (Int.toNat 1) row) == S [46]) = false) : plainOf depth row = row := by
  rw [S_beq, decide_eq_false_iff_not] at h; rw [plainOf, if_neg (show ¬ row.take 1 = [46] from h)]
theorem step_end {rows : Option Rows} (hE : isEnd depth row) : stepL ⟨place, depth, rows, found⟩ row = ⟨headL place, depth - 1, none, found ++ endedOf place rows⟩ := by
  rw [stepL, if_pos hE]
theorem step_dir (hE : ¬ isEnd depth row) (hP : plainOf depth row = X) (hL : (S (X.drop (X.length - 1)) == S [47]) = true) :
    stepL ⟨place, depth, none, found⟩ row = ⟨joinL place X.dropLast, depth + 1, none, found ++ [(joinL place X.dropLast, none)]⟩ := by
  rw [S_beq, decide_eq_true_eq] at hL; subst hP
  rw [stepL, if_neg hE]; simp only; rw [if_pos hL]
theorem step_file (hE : ¬ isEnd depth row) (hP : plainOf depth row = X) (hL : (S (X.drop (X.length - 1)) == S [47]) = false) :
    stepL ⟨place, depth, none, found⟩ row = ⟨joinL place X, depth + 1, some [], found⟩ := by
  rw [S_beq, decide_eq_false_iff_not] at hL; subst hP
  rw [stepL, if_neg hE]; simp only; rw [if_neg hL]
theorem rd_int {h : Heap} {i j : Int} {t : Tok} (e : i = j) : Rd h (.int i t) (.int j) := by subst e; exact .int
theorem rd_found {h : Heap} {v : Value} {a b : List (List Nat × Option Rows)} (x : Rd h v (.list (a.map pyEntry ++ b.map pyEntry))) : Rd h v (pyFound (a ++ b)) := by rw [pyFound, List.map_append]; exact x
theorem rd_rows {h : Heap} {v : Value} {a b : Rows} (x : Rd h v (.list (a.map (fun l => .str (S l)) ++ b.map (fun l => .str (S l))))) : Rd h v (pyRows (a ++ b)) := by rw [pyRows, List.map_append]; exact x
theorem step_row {rs : Rows} (hE : ¬ isEnd depth row) (hP : plainOf depth row = X) : stepL ⟨place, depth, some rs, found⟩ row = ⟨place, depth, some (rs ++ [X]), found⟩ := by
  subst hP; rw [stepL, if_neg hE]
end
set_option maxHeartbeats 4000000 in
theorem step_none (W : Wd) (σ : St) (row : List Nat) (v : Value) (t : Tok) (hσ : σ.Small) (hr : row.length ≤ 50000) (hn : σ.rows = none) :
    Spec W 226 [v, .str (S row) t] 4 12 (fun V => Rd V v σ.py) (fun V r => Rd V r (stepL σ row).py) := by
  refine' Spec.intro (binds := [(Str.ofString "state", v), (Str.ofString "row", .str (S row) t)]) ?ho ?hcd ?hbind ?hloc (by omega) (by omega) ?hcell ?hco ?hgen ?hk ?hb
  tb_start
  intro dp un gd outer A₀ base L h₁ tk hid s Q B F X T hdp hun htk hal hpre hret
  have hdp2 : dp + 2 < recursionLimit := by omega
  have hdp3 : dp + 3 < recursionLimit := by omega
  have hun6 : un + 6 < cLine := by omega
  have hun9 : un + 9 < cLine := by omega
  have N : News s.heap L h₁ [] := news0
  obtain ⟨place, depth, rows, found⟩ := σ
  obtain ⟨hz1, hz2, _, hz4⟩ := hσ
  simp only at hn hz1 hz2 hz4
  subst hn
  obtain ⟨st, vs, rfl, hst, hvs⟩ := hpre.inv_tuple
  obtain ⟨v1, vs, rfl, i1, hvs⟩ := hvs.inv
  obtain ⟨v2, vs, rfl, i2, hvs⟩ := hvs.inv
  obtain ⟨v3, vs, rfl, i3, hvs⟩ := hvs.inv
  obtain ⟨v4, vs, rfl, i4, hvs⟩ := hvs.inv
  obtain rfl := hvs.inv_nil
  obtain ⟨t1, rfl⟩ := i1.inv_str
  obtain ⟨t2, rfl⟩ := i2.inv_int
  obtain rfl := i3.inv_none
  obtain ⟨fl, fvs, rfl, hfl, hfv⟩ := i4.inv_list
  have hst' : IsTup s.heap st #[.str (S place) t1, .int (depth : Int) t2, .none, .ref fl] := hst.keeps of_hide_stays
  have hfl' : s.heap.IsList fl fvs.toArray := islist_mono of_hide_stays hfl
  have hlen : fvs.length ≤ 50000 := by rw [hfv.len]; simpa using hz4
  k_steps
  all_goals (refine hret _ _ _ (Fr.keep (by with_reducible assumption)) ?_)
  all_goals (rename Fr _ _ _ _ => F9; rename News _ _ _ _ => N9)
  all_goals have hfv' := hfv.mono (hide_keep (hid := hid) F9.keep)
  all_goals first
    | (rw [step_end (end_yes (by assumption) (by assumption))]; refine rd_tup_news hal N9 (by k_mem) ?_; refine .cons .str (.cons ?_ (.cons .none (.cons ?_ .nil))))
    | (rw [step_dir (by first | exact end_no2 (by assumption) | exact end_no1 (by assumption)) (by first | exact plain_yes (by assumption) | exact plain_no (by assumption)) (by assumption)]; refine rd_tup_news hal N9 (by k_mem) ?_; refine .cons .str (.cons ?_ (.cons .none (.cons ?_ .nil))))
    | (rw [step_file (by first | exact end_no2 (by assumption) | exact end_no1 (by assumption)) (by first | exact plain_yes (by assumption) | exact plain_no (by assumption)) (by assumption)]; refine rd_tup_news hal N9 (by k_mem) ?_; refine .cons .str (.cons ?_ (.cons ?_ (.cons ?_ .nil))))
  all_goals first
    | exact rd_int (by first | (show (depth : Int) + 1 = ((depth + 1 : Nat) : Int); omega) | (show (depth : Int) - 1 = ((depth - 1 : Nat) : Int); omega))
    | (refine rd_found (rd_list_news hal N9 (by k_mem) (hfv'.append ?_)); first | exact .nil | exact .cons (rd_tup_news hal N9 (by k_mem) (.cons .str (.cons .none .nil))) .nil)
    | exact rd_list_news hal N9 (by k_mem) .nil
    | exact i4.mono (hide_keep F9.keep)
set_option maxHeartbeats 4000000 in
theorem step_some (W : Wd) (σ : St) (row : List Nat) (v : Value) (t : Tok) (hσ : σ.Small) (hr : row.length ≤ 50000) (rs : Rows) (hn : σ.rows = some rs) :
    Spec W 226 [v, .str (S row) t] 4 12 (fun V => Rd V v σ.py) (fun V r => Rd V r (stepL σ row).py) := by
  refine' Spec.intro (binds := [(Str.ofString "state", v), (Str.ofString "row", .str (S row) t)]) ?ho ?hcd ?hbind ?hloc (by omega) (by omega) ?hcell ?hco ?hgen ?hk ?hb
  tb_start
  intro dp un gd outer A₀ base L h₁ tk hid s Q B F X T hdp hun htk hal hpre hret
  have hdp2 : dp + 2 < recursionLimit := by omega
  have hdp3 : dp + 3 < recursionLimit := by omega
  have hun6 : un + 6 < cLine := by omega
  have hun9 : un + 9 < cLine := by omega
  have N : News s.heap L h₁ [] := news0
  obtain ⟨place, depth, rows, found⟩ := σ
  obtain ⟨hz1, hz2, hz3, hz4⟩ := hσ
  simp only at hn hz1 hz2 hz3 hz4
  subst hn
  obtain ⟨st, vs, rfl, hst, hvs⟩ := hpre.inv_tuple
  obtain ⟨v1, vs, rfl, i1, hvs⟩ := hvs.inv
  obtain ⟨v2, vs, rfl, i2, hvs⟩ := hvs.inv
  obtain ⟨v3, vs, rfl, i3, hvs⟩ := hvs.inv
  obtain ⟨v4, vs, rfl, i4, hvs⟩ := hvs.inv
  obtain rfl := hvs.inv_nil
  obtain ⟨t1, rfl⟩ := i1.inv_str
  obtain ⟨t2, rfl⟩ := i2.inv_int
  obtain ⟨rl, rvs, rfl, hrl, hrv⟩ := i3.inv_list
  obtain ⟨fl, fvs, rfl, hfl, hfv⟩ := i4.inv_list
  have hst' : IsTup s.heap st #[.str (S place) t1, .int (depth : Int) t2, .ref rl, .ref fl] := hst.keeps of_hide_stays
  have hfl' : s.heap.IsList fl fvs.toArray := islist_mono of_hide_stays hfl
  have hrl' : s.heap.IsList rl rvs.toArray := islist_mono of_hide_stays hrl
  have hrlen : rvs.length ≤ 50000 := by rw [hrv.len]; simpa using hz3 rs rfl
  have hlen : fvs.length ≤ 50000 := by rw [hfv.len]; simpa using hz4
  k_steps
  all_goals (refine hret _ _ _ (Fr.keep (by with_reducible assumption)) ?_)
  all_goals (rename Fr _ _ _ _ => F9; rename News _ _ _ _ => N9)
  all_goals have hfv' := hfv.mono (hide_keep (hid := hid) F9.keep)
  all_goals have hrv' := hrv.mono (hide_keep (hid := hid) F9.keep)
  all_goals first
    | (rw [step_end (end_yes (by assumption) (by assumption))]; refine rd_tup_news hal N9 (by k_mem) ?_; refine .cons .str (.cons ?_ (.cons .none (.cons ?_ .nil))))
    | (rw [step_row (by first | exact end_no2 (by assumption) | exact end_no1 (by assumption)) (by first | exact plain_yes (by assumption) | exact plain_no (by assumption))]; refine rd_tup_news hal N9 (by k_mem) ?_; refine .cons .str (.cons ?_ (.cons ?_ (.cons ?_ .nil))))
  all_goals first
    | exact rd_int rfl
    | exact rd_int (by show (depth : Int) - 1 = ((depth - 1 : Nat) : Int); omega)
    | (refine rd_found (rd_list_news hal N9 (by k_mem) (hfv'.append ?_)); exact .cons (rd_tup_news hal N9 (by k_mem) (.cons .str (.cons (i3.mono (hide_keep F9.keep)) .nil))) .nil)
    | (refine rd_rows (rd_list_news hal N9 (by k_mem) (hrv'.append ?_)); exact .cons .str .nil)
    | exact i4.mono (hide_keep F9.keep)
theorem step_spec (W : Wd) (σ : St) (row : List Nat) (v : Value) (t : Tok) (hσ : σ.Small) (hr : row.length ≤ 50000) :
    Spec W 226 [v, .str (S row) t] 4 12 (fun V => Rd V v σ.py) (fun V r => Rd V r (stepL σ row).py) := by
  cases hn : σ.rows with
  | none => exact step_none W σ row v t hσ hr hn
  | some rs => exact step_some W σ row v t hσ hr rs hn
/-! part P2 -/
section
open PySem.Builtin PySem.Builtin.Str PySem.StrLaws
def consHd (c : Nat) : List (List Nat) → List (List Nat)
  | [] => [[c]]
  | p :: ps => (c :: p) :: ps
def splitG (y : List Nat) : Nat → List Nat → List (List Nat)
  | 0, x => [x]
  | _ + 1, [] => [[]]
  | n + 1, c :: r => if y <+: (c :: r) then [] :: splitG y n ((c :: r).drop y.length) else consHd c (splitG y n r)
def joinG (z : List Nat) : List (List Nat) → List Nat
  | [] => []
  | [p] => p
  | p :: q :: ps => p ++ z ++ joinG z (q :: ps)

theorem at_pref {x y : List Nat} {k : Nat} (hk : k ≤ x.length) : At (S x) (S y) x.length k ↔ y <+: x.drop k := by
  unfold At
  rw [subAt_eq, S_toList, S_toList, S_len, beq_iff_eq]
  constructor
  · rintro ⟨_, h⟩
    rw [← h]; exact List.take_prefix _ _
  · intro h
    have h1 := h.length_le
    simp at h1
    refine ⟨by omega, ?_⟩
    obtain ⟨t, ht⟩ := h
    rw [← ht]; simp

theorem sub_S (x : List Nat) (a b : Nat) : strSub (S x) a b = S ((x.drop a).take (b - a)) := by
  apply Str.ext'; apply Array.toList_inj.mp
  rw [strSub_toList, S_toList, S_toList]

theorem consHd_map (c : Nat) (p : List Nat) (ps : List (List Nat)) : (consHd c (p :: ps)).map S = S (c :: p) :: ps.map S := rfl

theorem splitG_ne (y : List Nat) : ∀ (n : Nat) (x : List Nat), ∃ p ps, splitG y n x = p :: ps := by
  intro n
  induction n with
  | zero => intro x; exact ⟨_, _, rfl⟩
  | succ n ih =>
    intro x
    cases x with
    | nil => exact ⟨_, _, rfl⟩
    | cons c r =>
      rw [splitG]
      split
      · exact ⟨_, _, rfl⟩
      · obtain ⟨p, ps, e⟩ := ih r
        rw [e]; exact ⟨_, _, rfl⟩

theorem chain_split {x y : List Nat} (hy : y ≠ []) : ∀ (n : Nat) (a : Nat) (cuts : List Nat) (f : Nat), a ≤ x.length → x.length - a < n → ChainG (S x) (S y) x.length a cuts f →
    (∀ k, f ≤ k → ¬ At (S x) (S y) x.length k) → partsFrom (S x) y.length a cuts = (splitG y n (x.drop a)).map S := by
  have hy1 : 1 ≤ y.length := by cases y with | nil => exact absurd rfl hy | cons _ _ => simp
  intro n
  induction n with
  | zero => intro a cuts f _ h; exact absurd h (Nat.not_lt_zero _)
  | succ n ih =>
    intro a cuts f ha hn hc ht
    by_cases hae : a = x.length
    · subst hae
      have hcu : cuts = [] := by
        cases cuts with
        | nil => rfl
        | cons c r => have := hc.2.1.1; have h2 := hc.1; rw [S_len] at this; omega
      subst hcu
      simp only [List.drop_length, splitG]
      show [strSub (S x) x.length (S x).length] = _
      rw [sub_S, S_len]; simp
    · have hlt : a < x.length := by omega
      have hd : x.drop a = x[a] :: x.drop (a + 1) := List.drop_eq_getElem_cons hlt
      rw [hd, splitG, ← hd]
      by_cases hp : y <+: x.drop a
      · rw [if_pos hp]
        have hat : At (S x) (S y) x.length a := (at_pref ha).mpr hp
        cases cuts with
        | nil =>
          have : f = a := hc
          exact absurd hat (ht a (by omega))
        | cons c r =>
          obtain ⟨h1, h2, h3, h4⟩ := hc
          have hca : c = a := by
            rcases Nat.lt_or_ge a c with q | q
            · exact absurd hat (h3 a (Nat.le_refl _) q)
            · omega
          subst hca
          rw [S_len] at h4
          have h5 := h2.1
          rw [S_len] at h5
          show strSub (S x) c c :: partsFrom (S x) y.length (c + y.length) r = _
          rw [ih (c + y.length) r f h5 (by omega) h4 ht, sub_S, List.drop_drop]
          simp
      · rw [if_neg hp]
        have hnat : ¬ At (S x) (S y) x.length a := fun q => hp ((at_pref ha).mp q)
        cases cuts with
        | nil =>
          have e : f = a := hc
          subst e
          have key := ih (f + 1) [] (f + 1) (by omega) (by omega) rfl (fun k hk => ht k (by omega))
          obtain ⟨p, ps, e⟩ := splitG_ne y n (x.drop (f + 1))
          rw [e] at key ⊢
          rw [consHd_map]
          simp only [List.map_cons, partsFrom, List.cons.injEq] at key ⊢
          obtain ⟨k1, k2⟩ := key
          refine ⟨?_, k2⟩
          rw [sub_S, S_len] at k1 ⊢
          have k1 := S_inj k1
          rw [hd, ← k1]
          have : x.length - f = (x.length - (f + 1)) + 1 := by omega
          rw [this, List.take_succ_cons]
        | cons c r =>
          obtain ⟨h1, h2, h3, h4⟩ := hc
          have hca : a ≠ c := fun q => hnat (q ▸ h2)
          have key := ih (a + 1) (c :: r) f (by omega) (by omega) ⟨by omega, h2, fun k hk hk2 => h3 k (by omega) hk2, h4⟩ ht
          obtain ⟨p, ps, e⟩ := splitG_ne y n (x.drop (a + 1))
          rw [e] at key ⊢
          rw [consHd_map]
          simp only [List.map_cons, partsFrom, List.cons.injEq] at key ⊢
          obtain ⟨k1, k2⟩ := key
          refine ⟨?_, k2⟩
          rw [sub_S] at k1 ⊢
          have k1 := S_inj k1
          rw [hd, ← k1]
          have : c - a = (c - (a + 1)) + 1 := by omega
          rw [this, List.take_succ_cons]

theorem parts_S {x y : List Nat} (hy : y ≠ []) : partsBetween (S x) (occurrences (S x) (S y) 0 (S x).length ((S x).length + 1)) (S y).length = (splitG y (x.length + 1) x).map S := by
  have hy1 : 1 ≤ (S y).length := by rw [S_len]; cases y with | nil => exact absurd rfl hy | cons _ _ => simp
  obtain ⟨f, h1, h2⟩ := occ_tight (S x) (S y) hy1
  rw [partsBetween_eq, S_len y]
  rw [S_len x] at h1 h2 ⊢
  have := chain_split (x := x) hy (x.length + 1) 0 _ f (Nat.zero_le _) (by omega) h1 h2
  rw [this, List.drop_zero]
theorem no_parts {x y : List Nat} (hy : y ≠ []) (h : ∀ k, ¬ At (S x) (S y) x.length k) : (splitG y (x.length + 1) x).map S = [S x] := by
  have := chain_split hy (x.length + 1) 0 [] 0 (Nat.zero_le _) (by omega) rfl (fun k _ => h k)
  rw [List.drop_zero] at this
  rw [← this]
  show [strSub (S x) 0 (S x).length] = _
  rw [sub_S, S_len]; simp
theorem split_S {x y : List Nat} (hy : y ≠ []) : Txt.split (S x) (S y) = (splitG y (x.length + 1) x).map S := by
  unfold Txt.split
  split
  · rename_i h
    rw [no_parts hy]
    intro k hk
    rw [Bool.or_eq_true, decide_eq_true_eq, decide_eq_true_eq] at h
    rcases h with h | h
    · have := hk.1; rw [S_len] at this h; rw [S_len] at h; omega
    · have := kind_le _ _ hk.2; omega
  · split
    · rename_i h
      have e := parts_S (x := x) hy
      rw [List.isEmpty_iff.mp h, partsBetween_eq] at e
      rw [← e]
      show _ = [strSub (S x) 0 (S x).length]
      rw [sub_S, S_len]; simp
    · exact parts_S hy

theorem join_S (z : List Nat) : ∀ ps : List (List Nat), Str.join (S z) (ps.map S) = S (joinG z ps)
  | [] => rfl
  | [p] => rfl
  | p :: q :: ps => by
    show S p ++ S z ++ Str.join (S z) ((q :: ps).map S) = _
    rw [join_S z (q :: ps), S_cat, S_cat]; rfl
theorem replace_S {x y z : List Nat} (hy : y ≠ []) : Txt.replace (S x) (S y) (S z) = S (joinG z (splitG y (x.length + 1) x)) := by
  have hy1 : ((S y).length == 0) = false := by rw [S_len]; cases y with | nil => exact absurd rfl hy | cons _ _ => simp
  unfold Txt.replace
  rw [hy1, Bool.false_and, Bool.or_false]
  split
  · rename_i h
    have e := parts_S (x := x) hy
    rw [List.isEmpty_iff.mp h, partsBetween_eq] at e
    rw [← join_S, ← e]
    show _ = strSub (S x) 0 (S x).length
    rw [sub_S, S_len]; simp
  · rw [glued_eq_join, parts_S hy, join_S]
end
/-! part P3 -/
theorem joinG_consHd (z : List Nat) (c : Nat) (p : List Nat) (ps : List (List Nat)) : joinG z (consHd c (p :: ps)) = c :: joinG z (p :: ps) := by
  cases ps <;> rfl
theorem joinG_nil_cons (z : List Nat) (p : List Nat) (ps : List (List Nat)) : joinG z ([] :: p :: ps) = z ++ joinG z (p :: ps) := rfl

theorem join_len {y z : List Nat} (hy : y ≠ []) (hz : z.length ≤ y.length) : ∀ (n : Nat) (x : List Nat), (joinG z (splitG y n x)).length ≤ x.length := by
  intro n
  induction n with
  | zero => intro x; exact Nat.le_refl _
  | succ n ih =>
    intro x
    cases x with
    | nil => simp [splitG, joinG]
    | cons c r =>
      rw [splitG]
      split
      · rename_i h
        have h1 := h.length_le
        have h2 := ih ((c :: r).drop y.length)
        obtain ⟨p, ps, e⟩ := splitG_ne y n ((c :: r).drop y.length)
        rw [e] at h2 ⊢
        rw [joinG_nil_cons, List.length_append]
        rw [List.length_drop] at h2
        omega
      · have h2 := ih r
        obtain ⟨p, ps, e⟩ := splitG_ne y n r
        rw [e] at h2 ⊢
        rw [joinG_consHd, List.length_cons, List.length_cons]
        omega

/-- '\r\n' to '\n', then '\r' to '\n', then the rows -/
def repl1 (x : List Nat) : List Nat := joinG [10] (splitG [13, 10] (x.length + 1) x)
def repl2 (x : List Nat) : List Nat := joinG [10] (splitG [13] (x.length + 1) x)
def rowsL (x : List Nat) : List (List Nat) := splitG [10] ((repl2 (repl1 x)).length + 1) (repl2 (repl1 x))
theorem repl1_len (x : List Nat) : (repl1 x).length ≤ x.length := join_len (by decide) (by decide) _ _
theorem repl2_len (x : List Nat) : (repl2 x).length ≤ x.length := join_len (by decide) (by decide) _ _
/-! part X2 -/
section
variable {prog : Program} {w : World} {A : Around} {E : Value → Shared → Prop} {s : Shared} {x y z : List Nat} {t u v : Tok} {Q : Value → Shared → Prop} {h₀ : Heap} {L : Addr} {m : Str → Option Value} {news : List (Addr × Obj)}
theorem replaceT (h0 : 1 ≤ s.toks) (hy : y ≠ []) (hu : @Ne Nat u 0) (hv : @Ne Nat v 0) (huv : @Ne Nat u v) (hyz : y ≠ z) (hx : x.length ≤ 1000000) (hz : z.length ≤ 14)
    (hq : ∀ t' k, 1 ≤ k → Q (.str (S (joinG z (splitG y (x.length + 1) x))) t') { s with toks := k }) : wpAny (model prog w) A (call (.builtin "str.replace") [.str (S x) t, .str (S y) u, .str (S z) v]) Q E s :=
  wpAny_toks h0 (SC.replaceW hu hv huv (by rw [S_beq]; exact decide_eq_false hyz) (by rw [S_len]; omega) (by rw [S_len]; exact hz) fun t' k hk => by rw [replace_S hy]; exact hq t' k hk)
theorem splitT (hF : Fr h₀ L s.heap m) (hN : News h₀ L s.heap news) (h0 : 1 ≤ s.toks) (hy : y ≠ []) (hx : x.length ≤ 1000000)
    (h : ∀ D l h' k, 1 ≤ k → (∀ V : Heap, RdAll V l ((splitG y (x.length + 1) x).map fun r => .str (S r))) → Fr h₀ L h' m → News h₀ L h' ((D, { cls := .type "list", data := .seq l.toArray }) :: news) → Q (.ref D) { s with heap := h', toks := k }) :
    wpAny (model prog w) A (call (.builtin "str.split") [.str (S x) t, .str (S y) u]) Q E s := by
  refine wpAny_toks h0 (splitN1 hF hN (by rw [S_len]; cases y with | nil => exact absurd rfl hy | cons _ _ => rfl) (fun l h' k e F' N' hk => ?_) (by rw [S_len, sizeLine_eq]; omega))
  rw [split_S hy] at e
  have key : ∀ (V : Heap) (l : List (Str × Tok)) (rs : List (List Nat)), l.map (·.1) = rs.map S → RdAll V (strValues l) (rs.map fun r => .str (S r)) := by
    intro V l
    induction l with
    | nil => intro rs e; cases rs with | nil => exact .nil | cons _ _ => simp at e
    | cons p l ih =>
      intro rs e
      cases rs with
      | nil => simp at e
      | cons r rs =>
        simp only [List.map_cons, List.cons.injEq] at e
        obtain ⟨p1, p2⟩ := p
        obtain ⟨e1, e2⟩ := e
        simp only at e1
        subst e1
        exact .cons .str (ih rs e2)
  exact h s.heap.objs.size (strValues l) h' k hk (fun V => key V l _ e) F' N'
end
local macro_rules | `(tactic| walk_at "call builtin:str.replace") => `(tactic| (k_here; refine' replaceT ?h0 ?hy ?hu ?hv ?huv ?hyz ?hx ?hz ?_; (case h0 => ktr_units); (case hy => decide); (case hu => omega); (case hv => omega); (case huv => omega); (case hyz => decide); (case hx => omega); (case hz => decide); intro t' k' hk'; (try dsimp only)))
local macro_rules | `(tactic| walk_at "call builtin:str.split") => `(tactic| (k_here; (with_reducible rename Fr _ _ _ _ => F'); (with_reducible rename News _ _ _ _ => N'); refine' splitT F' N' ?h0 ?hy ?hx ?_; (case h0 => ktr_units); (case hy => decide); (case hx => omega); intro D' l' h' k' hk' r' F' N'; (try dsimp only)))
set_option maxHeartbeats 4000000 in
theorem rows_spec (W : Wd) (x : List Nat) (t : Tok) (hx : x.length ≤ 100000) : Spec W 200 [.str (S x) t] 1 3 (fun _ => True) (fun V v => Rd V v (pyRows (rowsL x))) := by
  refine' Spec.intro (binds := [(Str.ofString "text", .str (S x) t)]) ?ho ?hcd ?hbind ?hloc (by omega) (by omega) ?hcell ?hco ?hgen ?hk ?hb
  tb_start
  intro dp un gd outer A₀ base L h₁ tk hid s Q B F X T hdp hun htk hal hpre hret
  have N : News s.heap L h₁ [] := news0
  have e1 := repl1_len x
  have e2 := repl2_len (repl1 x)
  simp only [repl1, repl2] at e1 e2
  k_steps
  all_goals refine hret _ _ _ (Fr.keep (by with_reducible assumption)) ?_
  all_goals (rename News _ _ _ _ => N9; rename (∀ V : Heap, RdAll V _ _) => R9)
  all_goals exact rd_list_news hal N9 (by k_mem) (R9 _)
/-! part R1 -/
section
open PySem PySem.Sre
def Goes (n : Nat) (m m' : M) : Prop := ∀ k, M.runFor (n + k) m = M.runFor k m'
theorem Goes.refl (m : M) : Goes 0 m m := fun k => by rw [Nat.zero_add]
theorem Goes.trans {a b : Nat} {m m' m'' : M} (h : Goes a m m') (g : Goes b m' m'') : Goes (a + b) m m'' := fun k => by
  rw [Nat.add_assoc, h, g]
theorem Goes.step {m m' : M} (h : m.outcome = none) (e : m.step = m') : Goes 1 m m' := fun k => by
  rw [Nat.add_comm, M.runFor, h, e]; rfl
theorem runFor_out {m : M} (h : m.outcome.isSome = true) : ∀ k, M.runFor k m = m
  | 0 => rfl
  | k + 1 => by rw [M.runFor, if_pos h]
theorem Goes.fin {n : Nat} {m m' : M} (g : Goes n m m') (h : m'.outcome.isSome = true) {k : Nat} (hk : n ≤ k) : M.runFor k m = m' := by
  have := g (k - n)
  rw [show n + (k - n) = k by omega, runFor_out h] at this
  exact this

def code1 : Array Nat := #[14, 4, 0, 1, 1, 6, 1, 16, 46, 1]
def code2 : Array Nat := #[14, 9, 4, 1, 2, 16, 10, 16, 13, 0, 7, 7, 16, 13, 16, 10, 15, 18, 5, 16, 10, 15, 13, 11, 16, 13, 5, 5, 0, 16, 10, 1, 15, 2, 0, 1]

/-- the machine at the head of an attempt at s -/
def at0 (code : Array Nat) (pc : Nat) (text : Array Nat) (s : Nat) (first must : Bool) (seen : Sre.Seen) : M :=
  { code, text, lim := text.size, start := s, lastStart := text.size, mustAdvance := must, pc, pos := s, handed := s, outermost := first, marks := #[],
    frames := [{ wait := .nextStart, pc, pos := s, outermost := first }], weight := 1, seen }

theorem search1_start {text : Array Nat} {s : Nat} (must : Bool) (h : s < text.size) : forSearch code1 text 0 s text.size must = at0 code1 5 text s true must (({} : Sre.Seen).add 14) := by
  have h1 : ¬ ((decide (s > text.size) || decide (text.size - s < 1)) = true) := by simp; omega
  unfold forSearch
  simp only [show header code1 = (1, 5) by decide]
  rw [if_neg h1]
  rfl
theorem search1_end {text : Array Nat} {s : Nat} (must : Bool) (h : ¬ s < text.size) : ∃ m', Goes 1 (forSearch code1 text 0 s text.size must) m' ∧ m'.outcome = some .failed := by
  have h1 : (decide (s > text.size) || decide (text.size - s < 1)) = true := by simp; omega
  unfold forSearch
  simp only [show header code1 = (1, 5) by decide]
  rw [if_pos h1]
  exact ⟨_, Goes.step rfl rfl, rfl⟩

abbrev no0 (code : Array Nat) (pc : Nat) (text : Array Nat) (s : Nat) (first must : Bool) (seen : Sre.Seen) : M := { at0 code pc text s first must seen with answer := some false }

/-- the place is no row's start -/
theorem at1_no {text : Array Nat} {s : Nat} {first must : Bool} {seen : Sre.Seen} (hs : ¬ (s = 0 ∨ text.getD (s - 1) 0 = 10)) :
    Goes 1 (at0 code1 5 text s first must seen) (no0 code1 5 text s first must ((seen.add 6).add 44)) := by
  refine Goes.step rfl ?_
  have e : ((at0 code1 5 text s first must (seen.add 6)).isAt 1) = .ok false := by
    show Except.ok (s == 0 || text.getD (s - 1) 0 == 10) = _
    congr 1
    rw [Bool.or_eq_false_iff, beq_eq_false_iff_ne, beq_eq_false_iff_ne]
    exact ⟨fun q => hs (.inl q), fun q => hs (.inr q)⟩
  show (match (at0 code1 5 text s first must (seen.add 6)).isAt 1 with
    | .error why => (at0 code1 5 text s first must (seen.add 6)).stick why
    | .ok yes => if yes then { at0 code1 5 text s first must ((seen.add 6).add 44) with pc := 7 } else no0 code1 5 text s first must ((seen.add 6).add 44)) = _
  rw [e]
  rfl
theorem at1_yes {text : Array Nat} {s : Nat} {first must : Bool} {seen : Sre.Seen} (hs : s = 0 ∨ text.getD (s - 1) 0 = 10) :
    Goes 1 (at0 code1 5 text s first must seen) { at0 code1 5 text s first must ((seen.add 6).add 44) with pc := 7 } := by
  refine Goes.step rfl ?_
  have e : ((at0 code1 5 text s first must (seen.add 6)).isAt 1) = .ok true := by
    show Except.ok (s == 0 || text.getD (s - 1) 0 == 10) = _
    congr 1
    rw [Bool.or_eq_true, beq_iff_eq, beq_iff_eq]; exact hs
  show (match (at0 code1 5 text s first must (seen.add 6)).isAt 1 with
    | .error why => (at0 code1 5 text s first must (seen.add 6)).stick why
    | .ok yes => if yes then { at0 code1 5 text s first must ((seen.add 6).add 44) with pc := 7 } else no0 code1 5 text s first must ((seen.add 6).add 44)) = _
  rw [e]
  rfl
/-- a literal -/
theorem lit1_no {text : Array Nat} {s : Nat} {first must : Bool} {seen : Sre.Seen} (hs : text.getD s 0 ≠ 46 ∨ ¬ s < text.size) :
    Goes 1 { at0 code1 5 text s first must seen with pc := 7 } { no0 code1 5 text s first must (seen.add 16) with pc := 7 } := by
  refine Goes.step rfl ?_
  show (if s ≥ text.size then { no0 code1 5 text s first must (seen.add 16) with pc := 7 } else
    match (Except.ok (text.getD s 0 == 46, seen.add 16) : Except String (Bool × Sre.Seen)) with
    | .error why => ({ at0 code1 5 text s first must (seen.add 16) with pc := 7 } : M).stick why
    | .ok (false, seen) => { no0 code1 5 text s first must seen with pc := 7 }
    | .ok (true, seen) => { at0 code1 5 text s first must seen with pc := 9, pos := s + 1 }) = _
  by_cases h : s ≥ text.size
  · rw [if_pos h]
  · rw [if_neg h]
    have e : (text.getD s 0 == 46) = false := by
      rw [beq_eq_false_iff_ne]; rcases hs with q | q
      · exact q
      · omega
    rw [e]
theorem lit1_yes {text : Array Nat} {s : Nat} {first must : Bool} {seen : Sre.Seen} (hs : text.getD s 0 = 46) (h : s < text.size) :
    Goes 1 { at0 code1 5 text s first must seen with pc := 7 } { at0 code1 5 text s first must (seen.add 16) with pc := 9, pos := s + 1 } := by
  refine Goes.step rfl ?_
  show (if s ≥ text.size then { no0 code1 5 text s first must (seen.add 16) with pc := 7 } else
    match (Except.ok (text.getD s 0 == 46, seen.add 16) : Except String (Bool × Sre.Seen)) with
    | .error why => ({ at0 code1 5 text s first must (seen.add 16) with pc := 7 } : M).stick why
    | .ok (false, seen) => { no0 code1 5 text s first must seen with pc := 7 }
    | .ok (true, seen) => { at0 code1 5 text s first must seen with pc := 9, pos := s + 1 }) = _
  rw [if_neg (by omega), hs]
  rfl

theorem succ_ne (s : Nat) : (s + 1 == s) = false := by rw [beq_eq_false_iff_ne]; omega
theorem hit1 {text : Array Nat} {s : Nat} {first must : Bool} {seen : Sre.Seen} :
    ∃ m', Goes 3 ({ at0 code1 5 text s first must seen with pc := 9, pos := s + 1 } : M) m' ∧ m'.outcome = some .matched ∧ m'.start = s ∧ m'.handed = s + 1 := by
  have h1 : ({ at0 code1 5 text s first must seen with pc := 9, pos := s + 1 } : M).step = { at0 code1 5 text s first must (seen.add 1) with pc := 9, pos := s + 1, handed := s + 1, answer := some true } := by
    show (if (first && (false && (s + 1 != text.size) || must && (s + 1 == s))) = true then ({ at0 code1 5 text s first must (seen.add 1) with pc := 9, pos := s + 1 } : M).say false
      else { at0 code1 5 text s first must (seen.add 1) with pc := 9, pos := s + 1, handed := s + 1, answer := some true }) = _
    rw [succ_ne]
    simp
  exact ⟨_, (Goes.step rfl h1).trans ((Goes.step rfl rfl).trans (Goes.step rfl rfl)), rfl, rfl, rfl⟩
theorem miss1 {text : Array Nat} {s p : Nat} {first must : Bool} {seen : Sre.Seen} (h : s < text.size) :
    Goes 1 ({ no0 code1 5 text s first must seen with pc := p } : M) (at0 code1 5 text (s + 1) false false seen) := by
  refine Goes.step rfl ?_
  show (if s < text.size then at0 code1 5 text (s + 1) false false seen else _) = _
  rw [if_pos h]
theorem over1 {text : Array Nat} {s p : Nat} {first must : Bool} {seen : Sre.Seen} (h : ¬ s < text.size) :
    ∃ m', Goes 2 ({ no0 code1 5 text s first must seen with pc := p } : M) m' ∧ m'.outcome = some .failed := by
  refine ⟨_, Goes.trans (a := 1) (b := 1) (m' := ({ code := code1, text, lim := text.size, start := s, lastStart := text.size, mustAdvance := must, pc := 5, pos := s, handed := s, outermost := first, marks := #[], frames := [], weight := 0, seen, answer := some false } : M)) (Goes.step rfl ?_) (Goes.step rfl rfl), rfl⟩
  show (if s < text.size then _ else _) = _
  rw [if_neg h]
  rfl

/-- a dot at a row's start -/
def P1 (text : Array Nat) (k : Nat) : Prop := (k = 0 ∨ text.getD (k - 1) 0 = 10) ∧ text.getD k 0 = 46
def Out1 (text : Array Nat) (s : Nat) (m : M) : Prop :=
  (∃ b, s ≤ b ∧ b < text.size ∧ P1 text b ∧ (∀ k, s ≤ k → k < b → ¬ P1 text k) ∧ m.outcome = some .matched ∧ m.start = b ∧ m.handed = b + 1) ∨
  ((∀ k, s ≤ k → k < text.size → ¬ P1 text k) ∧ m.outcome = some .failed)
theorem find1 {text : Array Nat} : ∀ (d s : Nat) (first must : Bool) (seen : Sre.Seen), d = text.size - s → s ≤ text.size → ∃ n m', n ≤ 5 * (d + 1) ∧ Goes n (at0 code1 5 text s first must seen) m' ∧ Out1 text s m' := by
  intro d
  induction d with
  | zero =>
    intro s first must seen hd hs
    have hn : ¬ s < text.size := by omega
    have key : ∃ n p seen', n ≤ 2 ∧ Goes n (at0 code1 5 text s first must seen) ({ no0 code1 5 text s first must seen' with pc := p } : M) := by
      by_cases h : s = 0 ∨ text.getD (s - 1) 0 = 10
      · exact ⟨_, _, _, Nat.le_refl _, (at1_yes h).trans (lit1_no (.inr hn))⟩
      · exact ⟨1, 5, _, by omega, at1_no h⟩
    obtain ⟨n, p, seen', hn2, g⟩ := key
    obtain ⟨m', g2, ho⟩ := over1 (p := p) (first := first) (must := must) (seen := seen') hn
    exact ⟨_, m', by omega, g.trans g2, .inr ⟨fun k h1 h2 => by omega, ho⟩⟩
  | succ d ih =>
    intro s first must seen hd hs
    have hlt : s < text.size := by omega
    by_cases hp : P1 text s
    · obtain ⟨m', g, ho, h1, h2⟩ := hit1 (text := text) (s := s) (first := first) (must := must) (seen := ((seen.add 6).add 44).add 16)
      exact ⟨_, m', by omega, (at1_yes hp.1).trans ((lit1_yes hp.2 hlt).trans g), .inl ⟨s, Nat.le_refl _, hlt, hp, fun k h3 h4 => by omega, ho, h1, h2⟩⟩
    · have key : ∃ n p seen', n ≤ 2 ∧ Goes n (at0 code1 5 text s first must seen) ({ no0 code1 5 text s first must seen' with pc := p } : M) := by
        by_cases h : s = 0 ∨ text.getD (s - 1) 0 = 10
        · exact ⟨_, _, _, Nat.le_refl _, (at1_yes h).trans (lit1_no (.inl fun q => hp ⟨h, q⟩))⟩
        · exact ⟨1, 5, _, by omega, at1_no h⟩
      obtain ⟨n, p, seen', hn2, g⟩ := key
      obtain ⟨n2, m', hn3, g2, ho⟩ := ih (s + 1) false false seen' (by omega) (by omega)
      refine ⟨_, m', ?_, g.trans ((miss1 hlt).trans g2), ?_⟩
      · omega
      · have ext : ∀ k, s ≤ k → (s + 1 ≤ k → ¬ P1 text k) → ¬ P1 text k := fun k h1 h2 => by
          by_cases e : k = s
          · rw [e]; exact hp
          · exact h2 (by omega)
        rcases ho with ⟨b, h1, h2, h3, h4, h5⟩ | ⟨h1, h2⟩
        · exact .inl ⟨b, by omega, h2, h3, fun k h6 h7 => ext k h6 fun h8 => h4 k h8 h7, h5⟩
        · exact .inr ⟨fun k h6 h7 => ext k h6 fun h8 => h1 k h8 h7, h2⟩
theorem search1 {text : Array Nat} (s : Nat) (must : Bool) (hs : s ≤ text.size) : ∃ n m', n ≤ 5 * (text.size + 1) ∧ Goes n (forSearch code1 text 0 s text.size must) m' ∧ Out1 text s m' := by
  by_cases h : s < text.size
  · rw [search1_start must h]
    obtain ⟨n, m', h1, h2, h3⟩ := find1 (text := text) _ s true must _ rfl hs
    exact ⟨n, m', by omega, h2, h3⟩
  · obtain ⟨m', g, ho⟩ := search1_end must h
    exact ⟨1, m', by omega, g, .inr ⟨fun k h1 h2 => by omega, ho⟩⟩
end
/-! part R2 -/
section
open PySem PySem.Sre
theorem getD_add0 (m : M) : m.word 0 = m.code.getD m.pc 0 := rfl
theorem step_lit (m : M) (ho : m.outcome = none) (ha : m.answer = none) (hpc : m.pc < m.code.size) (hop : m.code.getD m.pc 0 = 16) :
    m.step = if m.pos ≥ m.lim then { m with seen := m.seen.add 16, answer := some false }
      else if m.text.getD m.pos 0 = m.code.getD (m.pc + 1) 0 then { m with seen := m.seen.add 16, pc := m.pc + 2, pos := m.pos + 1 } else { m with seen := m.seen.add 16, answer := some false } := by
  have hw : itemWidth m.code m.pc = 2 := by unfold itemWidth; rw [hop]; rfl
  have hac : ∀ c seen, accepts m.code m.pc c seen = .ok (c == m.code.getD (m.pc + 1) 0, seen) := fun c seen => by unfold accepts; rw [hop]; rfl
  obtain ⟨code, text, lim, start, lastStart, wholeText, mustAdvance, pc, pos, handed, outermost, marks, lastmark, lastindex, loops, inner, frames, weight, answer, seen, outcome⟩ := m
  simp only at ho ha hpc hop hw hac
  subst ho ha
  unfold M.step
  simp only [Option.isSome_none, Bool.false_eq_true, if_false]
  rw [if_pos hpc]
  unfold M.exec
  simp only [getD_add0, hop]
  show (if pos ≥ lim then _ else match accepts code pc (text.getD pos 0) (seen.add 16) with
    | .error why => _
    | .ok (false, seen) => _
    | .ok (true, seen) => _) = _
  rw [hac, hw]
  by_cases h : pos ≥ lim
  · rw [if_pos h, if_pos h]; rfl
  · rw [if_neg h, if_neg h]
    by_cases e : text.getD pos 0 = code.getD (pc + 1) 0
    · rw [if_pos e, e]; simp
    · rw [if_neg e]
      have : (text.getD pos 0 == code.getD (pc + 1) 0) = false := beq_eq_false_iff_ne.mpr e
      rw [this]; rfl

/-- within the alternatives -/
abbrev br (text : Array Nat) (b alt pc pos : Nat) (seen : Sre.Seen) : M :=
  { code := code2, text, lim := text.size, start := b, lastStart := text.size, mustAdvance := false, pc, pos, handed := b, outermost := true, marks := #[],
    frames := [{ wait := .nextBranch, pc := alt, pos := b, outermost := true }, { wait := .nextStart, pc := 10, pos := b, outermost := true }], weight := 2, seen }
theorem enter2 {text : Array Nat} {b : Nat} {seen : Sre.Seen} : Goes 1 (at0 code2 10 text b true false seen) (br text b 11 12 b (seen.add 7)) := Goes.step rfl rfl
theorem alt2 {text : Array Nat} {b pc pos : Nat} {seen : Sre.Seen} : Goes 1 { br text b 11 pc pos seen with answer := some false } (br text b 18 19 b seen) := Goes.step rfl rfl
theorem alt3 {text : Array Nat} {b pc pos : Nat} {seen : Sre.Seen} : Goes 1 { br text b 18 pc pos seen with answer := some false } (br text b 23 24 b seen) := Goes.step rfl rfl
theorem br_lit {text : Array Nat} {b alt pc pos : Nat} {seen : Sre.Seen} (hpc : pc < 36) (hop : code2.getD pc 0 = 16) (h1 : pos < text.size) (h2 : text.getD pos 0 = code2.getD (pc + 1) 0) :
    Goes 1 (br text b alt pc pos seen) (br text b alt (pc + 2) (pos + 1) (seen.add 16)) := by
  refine Goes.step rfl ?_
  rw [step_lit _ rfl rfl hpc hop]
  show (if pos ≥ text.size then _ else if text.getD pos 0 = code2.getD (pc + 1) 0 then _ else _) = _
  rw [if_neg (by omega), if_pos h2]
theorem br_no {text : Array Nat} {b alt pc pos : Nat} {seen : Sre.Seen} (hpc : pc < 36) (hop : code2.getD pc 0 = 16) (h2 : pos ≥ text.size ∨ text.getD pos 0 ≠ code2.getD (pc + 1) 0) :
    Goes 1 (br text b alt pc pos seen) { br text b alt pc pos (seen.add 16) with answer := some false } := by
  refine Goes.step rfl ?_
  rw [step_lit _ rfl rfl hpc hop]
  show (if pos ≥ text.size then _ else if text.getD pos 0 = code2.getD (pc + 1) 0 then _ else _) = _
  by_cases h : pos ≥ text.size
  · rw [if_pos h]
  · rw [if_neg h, if_neg (h2.resolve_left h)]
theorem br_end {text : Array Nat} {b alt pos h : Nat} {seen : Sre.Seen} : ∃ m', Goes 4 ({ br text b alt 35 pos seen with handed := h } : M) m' ∧ m'.outcome = some .matched ∧ m'.start = b ∧ m'.handed = pos :=
  ⟨_, (Goes.step rfl rfl).trans ((Goes.step rfl rfl).trans ((Goes.step rfl rfl).trans (Goes.step rfl rfl))), rfl, rfl, rfl⟩
theorem jump1 {text : Array Nat} {b alt pos : Nat} {seen : Sre.Seen} : Goes 1 (br text b alt 16 pos seen) (br text b alt 35 pos (seen.add 15)) := Goes.step rfl rfl
theorem jump2 {text : Array Nat} {b alt pos : Nat} {seen : Sre.Seen} : Goes 1 (br text b alt 21 pos seen) (br text b alt 35 pos (seen.add 15)) := Goes.step rfl rfl
theorem jump3 {text : Array Nat} {b alt pos h : Nat} {seen : Sre.Seen} : Goes 1 ({ br text b alt 32 pos seen with handed := h } : M) ({ br text b alt 35 pos (seen.add 15) with handed := h } : M) := Goes.step rfl rfl
/-- no '\n' behind -/
theorem not_lf {text : Array Nat} {b pos : Nat} {seen : Sre.Seen} (h : pos ≥ text.size ∨ text.getD pos 0 ≠ 10) : ∃ seen', Goes 3 (br text b 23 26 pos seen) ({ br text b 23 32 pos seen' with handed := pos } : M) := by
  have g1 : Goes 1 (br text b 23 26 pos seen) { br text b 23 29 pos (seen.add 5) with handed := pos, outermost := false, weight := 3, frames := { wait := .lookNot, pc := 26, pos, outermost := true } :: (br text b 23 29 pos seen).frames } := Goes.step rfl rfl
  have g2 : Goes 1 ({ br text b 23 29 pos (seen.add 5) with handed := pos, outermost := false, weight := 3, frames := { wait := .lookNot, pc := 26, pos, outermost := true } :: (br text b 23 29 pos seen).frames } : M)
      { br text b 23 29 pos ((seen.add 5).add 16) with handed := pos, outermost := false, weight := 3, frames := { wait := .lookNot, pc := 26, pos, outermost := true } :: (br text b 23 29 pos seen).frames, answer := some false } := by
    refine Goes.step rfl ?_
    rw [step_lit _ rfl rfl (show (29 : Nat) < 36 by decide) (show code2.getD 29 0 = 16 by decide)]
    show (if pos ≥ text.size then _ else if text.getD pos 0 = 10 then _ else _) = _
    by_cases h' : pos ≥ text.size
    · rw [if_pos h']
    · rw [if_neg h', if_neg (h.resolve_left h')]
  exact ⟨_, g1.trans (g2.trans (Goes.step rfl rfl))⟩

/-- an end of a row -/
def P2 (text : Array Nat) (k : Nat) : Prop := text.getD k 0 = 10 ∨ text.getD k 0 = 13
/-- its width -/
def w2 (text : Array Nat) (k : Nat) : Nat := if text.getD k 0 = 13 ∧ k + 1 < text.size ∧ text.getD (k + 1) 0 = 10 then 2 else 1
theorem match2 {text : Array Nat} {b : Nat} {seen : Sre.Seen} (hb : b < text.size) (hp : P2 text b) :
    ∃ n m', n ≤ 20 ∧ Goes n (at0 code2 10 text b true false seen) m' ∧ m'.outcome = some .matched ∧ m'.start = b ∧ m'.handed = b + w2 text b := by
  by_cases h13 : text.getD b 0 = 13
  · by_cases h10 : b + 1 < text.size ∧ text.getD (b + 1) 0 = 10
    · have e : w2 text b = 2 := by rw [w2, if_pos ⟨h13, h10⟩]
      obtain ⟨m', g, h1, h2, h3⟩ := br_end (text := text) (b := b) (alt := 11) (pos := b + 2) (h := b) (seen := (((seen.add 7).add 16).add 16).add 15)
      exact ⟨_, m', by omega, enter2.trans ((br_lit (pc := 12) (by decide) (by decide) hb h13).trans ((br_lit (pc := 14) (by decide) (by decide) h10.1 h10.2).trans (jump1.trans g))), h1, h2, by rw [h3, e]⟩
    · have e : w2 text b = 1 := by rw [w2, if_neg (fun q => h10 q.2)]
      have h10' : b + 1 ≥ text.size ∨ text.getD (b + 1) 0 ≠ 10 := by
        by_cases q : b + 1 < text.size
        · exact .inr fun z => h10 ⟨q, z⟩
        · exact .inl (by omega)
      obtain ⟨seen', gl⟩ := not_lf (b := b) (seen := ((((((seen.add 7).add 16).add 16).add 16)).add 16)) h10'
      obtain ⟨m', g, h1, h2, h3⟩ := br_end (text := text) (b := b) (alt := 23) (pos := b + 1) (h := b + 1) (seen := seen'.add 15)
      refine ⟨_, m', ?_, enter2.trans ((br_lit (pc := 12) (by decide) (by decide) hb h13).trans ((br_no (pc := 14) (by decide) (by decide) h10').trans (alt2.trans ((br_no (pc := 19) (by decide) (by decide) (.inr (by rw [h13]; decide))).trans (alt3.trans ((br_lit (pc := 24) (by decide) (by decide) hb h13).trans (gl.trans (jump3.trans g)))))))), h1, h2, by rw [h3, e]⟩
      omega
  · have hlf : text.getD b 0 = 10 := hp.resolve_right h13
    have e : w2 text b = 1 := by rw [w2, if_neg (fun q => h13 q.1)]
    obtain ⟨m', g, h1, h2, h3⟩ := br_end (text := text) (b := b) (alt := 18) (pos := b + 1) (h := b) (seen := (((seen.add 7).add 16).add 16).add 15)
    exact ⟨_, m', by omega, enter2.trans ((br_no (pc := 12) (by decide) (by decide) (.inr h13)).trans (alt2.trans ((br_lit (pc := 19) (by decide) (by decide) hb hlf).trans (jump2.trans g)))), h1, h2, by rw [h3, e]⟩

theorem inSet2 (c : Nat) (seen : Sre.Seen) : ∃ seen', inSet code2 c code2.size 5 true seen = .ok (c == 10 || c == 13, seen') := by
  show ∃ seen', (if c == 10 then Except.ok (true, seen.add 16) else if c == 13 then Except.ok (true, (seen.add 16).add 16) else (Except.ok (false, ((seen.add 16).add 16).add 0) : Except String (Bool × Sre.Seen))) = _
  cases h1 : (c == 10)
  · cases h2 : (c == 13)
    · exact ⟨_, rfl⟩
    · exact ⟨_, rfl⟩
  · exact ⟨_, rfl⟩
theorem p2_iff {text : Array Nat} {s : Nat} : (text.getD s 0 == 10 || text.getD s 0 == 13) = true ↔ P2 text s := by
  rw [Bool.or_eq_true, beq_iff_eq, beq_iff_eq]; rfl
theorem admitted2 (m : M) (hc : m.code = code2) {text : Array Nat} (ht : m.text = text) (hl : m.lim = text.size) : ∀ (fuel s : Nat) (seen : Sre.Seen), text.size + 1 ≤ fuel + s →
    (∃ b seen', s ≤ b ∧ b < text.size ∧ P2 text b ∧ (∀ k, s ≤ k → k < b → ¬ P2 text k) ∧ M.admitted m fuel s seen = .ok (some b, seen')) ∨
    ((∀ k, s ≤ k → k < text.size → ¬ P2 text k) ∧ ∃ seen', M.admitted m fuel s seen = .ok (none, seen')) := by
  intro fuel
  induction fuel with
  | zero =>
    intro s seen h
    exact .inr ⟨fun k h1 h2 => by omega, _, rfl⟩
  | succ fuel ih =>
    intro s seen h
    rw [M.admitted]
    by_cases hs : s ≥ m.lim
    · rw [if_pos hs]
      rw [hl] at hs
      exact .inr ⟨fun k h1 h2 => by omega, _, rfl⟩
    · rw [if_neg hs, hc, ht]
      rw [hl] at hs
      obtain ⟨seen', e⟩ := inSet2 (text.getD s 0) seen
      rw [e]
      by_cases hp : P2 text s
      · rw [p2_iff.mpr hp]
        exact .inl ⟨s, seen', Nat.le_refl _, by omega, hp, fun k h1 h2 => by omega, rfl⟩
      · have e2 : (text.getD s 0 == 10 || text.getD s 0 == 13) = false := by
          rw [Bool.eq_false_iff]; exact fun q => hp (p2_iff.mp q)
        rw [e2]
        have ext : ∀ k, s ≤ k → (s + 1 ≤ k → ¬ P2 text k) → ¬ P2 text k := fun k h1 h2 => by
          by_cases e : k = s
          · rw [e]; exact hp
          · exact h2 (by omega)
        rcases ih (s + 1) seen' (by omega) with ⟨b, sn, h1, h2, h3, h4, h5⟩ | ⟨h1, sn, h2⟩
        · exact .inl ⟨b, sn, by omega, h2, h3, fun k h6 h7 => ext k h6 fun h8 => h4 k h8 h7, h5⟩
        · exact .inr ⟨fun k h6 h7 => ext k h6 fun h8 => h1 k h8 h7, sn, h2⟩

def Out2 (text : Array Nat) (s : Nat) (m : M) : Prop :=
  (∃ b, s ≤ b ∧ b < text.size ∧ P2 text b ∧ (∀ k, s ≤ k → k < b → ¬ P2 text k) ∧ m.outcome = some .matched ∧ m.start = b ∧ m.handed = b + w2 text b) ∨
  ((∀ k, s ≤ k → k < text.size → ¬ P2 text k) ∧ m.outcome = some .failed)
/-- the machine ere its first attempt -/
abbrev pre2 (text : Array Nat) (s : Nat) (must : Bool) : M :=
  { code := code2, text, lim := text.size, start := s, lastStart := text.size, mustAdvance := must, pc := 10, pos := s, handed := s, marks := #[], seen := ({} : Sre.Seen).add 14 }
theorem search2 {text : Array Nat} (s : Nat) (must : Bool) (hs : s ≤ text.size) : ∃ n m', n ≤ 20 ∧ Goes n (forSearch code2 text 0 s text.size must) m' ∧ Out2 text s m' := by
  by_cases h : s < text.size
  · have h1 : ¬ ((decide (s > text.size) || decide (text.size - s < 1)) = true) := by simp; omega
    have e : forSearch code2 text 0 s text.size must = match M.admitted (pre2 text s must) (text.size + 1 - s) s (({} : Sre.Seen).add 14) with
      | .ok (some b, seen) => at0 code2 10 text b true false seen
      | .ok (none, seen) => { pre2 text s must with seen, answer := some false }
      | .error why => (pre2 text s must).stick why := by
      unfold forSearch
      simp only [show header code2 = (1, 10) by decide]
      rw [if_neg h1]
      rfl
    rw [e]
    rcases admitted2 (pre2 text s must) rfl (text := text) rfl rfl (text.size + 1 - s) s (({} : Sre.Seen).add 14) (by omega) with ⟨b, sn, h1, h2, h3, h4, h5⟩ | ⟨h1, sn, h2⟩
    · rw [h5]
      obtain ⟨n, m', hn, g, ho, h6, h7⟩ := match2 (seen := sn) h2 h3
      exact ⟨n, m', hn, g, .inl ⟨b, h1, h2, h3, h4, ho, h6, h7⟩⟩
    · rw [h2]
      exact ⟨1, _, by omega, Goes.step rfl rfl, .inr ⟨h1, rfl⟩⟩
  · have h1 : (decide (s > text.size) || decide (text.size - s < 1)) = true := by simp; omega
    unfold forSearch
    simp only [show header code2 = (1, 10) by decide]
    rw [if_pos h1]
    exact ⟨1, _, by omega, Goes.step rfl rfl, .inr ⟨fun k h2 h3 => by omega, rfl⟩⟩
end
/-! part R3 -/
section
open PySem.Builtin PySem.Builtin.Re
theorem runFor_add : ∀ (a b : Nat) (m : Sre.M), Sre.M.runFor (a + b) m = Sre.M.runFor b (Sre.M.runFor a m)
  | 0, b, m => by rw [Nat.zero_add]; rfl
  | a + 1, b, m => by
    rw [Nat.add_right_comm, Sre.M.runFor, Sre.M.runFor]
    by_cases h : m.outcome.isSome = true
    · rw [if_pos h, if_pos h, runFor_out h]
    · rw [if_neg h, if_neg h, runFor_add a b]

section
variable {M : Model} {A : Around} {E : Value → Shared → Prop} {s : Shared}
theorem reDrive_wp {Q : Sre.M → Shared → Prop} {mf : Sre.M} (ho : mf.outcome.isSome = true) (hQ : Q mf s) : ∀ (turns : Nat) (m : Sre.M) (n : Nat), Goes n m mf → n + 1 ≤ 4 * turns → wpAny M A (reDrive turns m) Q E s := by
  intro turns
  induction turns with
  | zero => intro m n g h; omega
  | succ turns ih =>
    intro m n g hn
    rw [reDrive]
    show wpAny M A (if (Sre.M.runFor 4 m).outcome.isSome then pure (Sre.M.runFor 4 m) else do rule "sre.turn"; reDrive turns (Sre.M.runFor 4 m)) Q E s
    by_cases h : (Sre.M.runFor 4 m).outcome.isSome = true
    · rw [if_pos h]
      have e : Sre.M.runFor 4 m = mf := by
        by_cases hn4 : n ≤ 4
        · exact g.fin ho hn4
        · have e1 := g.fin ho (Nat.le_refl n)
          rw [show n = 4 + (n - 4) by omega, runFor_add, runFor_out h] at e1
          exact e1
      rw [e]; exact wpAny_pure hQ
    · rw [if_neg h]
      have hn4 : 4 < n := by
        apply Classical.byContradiction
        intro q
        exact h (by rw [g.fin ho (by omega)]; exact ho)
      refine wpAny_bind (wpAny_rule (ih _ (n - 4) (fun k => ?_) (by omega)))
      rw [← runFor_add, ← g k]
      congr 1
      omega
theorem reRun_wp {Q : Option Sre.M → Shared → Prop} {m mf : Sre.M} {n : Nat} (g : Goes n m mf) (hn : n + 1 ≤ 2 ^ 66)
    (hQ : (mf.outcome = some .matched ∧ Q (some mf) s) ∨ (mf.outcome = some .failed ∧ Q none s)) : wpAny M A (reRunToEnd m) Q E s := by
  have ho : mf.outcome.isSome = true := by rcases hQ with ⟨h, _⟩ | ⟨h, _⟩ <;> rw [h] <;> rfl
  unfold reRunToEnd
  refine wpAny_bind (reDrive_wp ho ?_ _ m n g (by omega))
  refine wpAny_bind (wpAny_forIn_list _ (fun _ _ s' => s' = s) (fun _ s' => wpAny M A _ Q E s') ?_ ?_ _ _ rfl)
  · rintro x rest b s' rfl
    show wpAny M A (if mf.seen.has x then (do rule (Sre.names.getD x ""); pure (ForInStep.yield PUnit.unit)) else pure (ForInStep.yield PUnit.unit)) _ _ _
    split
    · exact wpAny_bind (wpAny_rule (wpAny_pure rfl))
    · exact wpAny_pure rfl
  · rintro b s' rfl
    rcases hQ with ⟨h, q⟩ | ⟨h, q⟩
    · rw [h]; exact wpAny_pure q
    · rw [h]; exact wpAny_pure q
end
end
/-! part R4 -/
section
open PySem.Builtin PySem.Builtin.Re PySem.Builtin.Str
section
variable {prog : Program} {w : World} {A : Around} {E : Value → Shared → Prop} {s : Shared}
theorem entry_loop : entryFor table "re.Pattern.sub.loop" = some Builtin.«re.Pattern.sub.loop» := entryFor_of_tree (by kernel_rfl)
theorem plain_loop : plainId "re.Pattern.sub.loop" = true := by decide +kernel
theorem whole_wp {p c : Addr} {po co : Obj} {v0 v1 v3 v4 : Value} {items : Array Value} {n : Nat} {x : List Nat} {t : Tok} {Q : ReTarget → Shared → Prop}
    (hp : s.heap.get? p = some po) (hpd : po.data = .fields #[v0, v1, .int 0 0, v3, v4, .ref c, .int 0 0]) (hc : s.heap.get? c = some co) (hcd : co.data = .seq items n)
    (h : Q { pattern := .ref p, string := .str (S x) t, code := (items.map reRawOf).map (·.toNat), text := x.toArray, kind := 0, groups := 0, pos := 0, lim := x.toArray.size } s) :
    wpAny (model prog w) A (reWholeTarget (.ref p) (.str (S x) t)) Q E s := by
  unfold reWholeTarget
  refine wpAny_bind (wpAny_fieldsOf hp hpd ?_)
  refine wpAny_bind (m := reTextOf (.str (S x) t)) (wpAny_pure (a := (x.toArray, 0)) ?_)
  show wpAny _ _ (reNoCollectionInside (.str (S x) t) 0 >>= _) _ _ _
  refine wpAny_bind (wpAny_pure (a := ()) ?_)
  refine wpAny_bind ?_
  unfold reRawItems
  refine wpAny_bind (wpAny_seqItems hc hcd (wpAny_pure (wpAny_pure ?_)))
  exact h

theorem push_wp {D : Addr} {vs : List Value} {m : Nat} {v : Value} {Q : Unit → Shared → Prop} (hD : s.heap.get? D = some (PySem.W.listOf vs.toArray m)) (hz : vs.length ≤ 10000000)
    (h : ∀ h', Heap.SameBut D s.heap h' → h'.get? D = some (PySem.W.listOf (vs ++ [v]).toArray (m + 1)) → Q () { s with heap := h' }) : wpAny (model prog w) A (updateSeq D (·.push v)) Q E s := by
  refine wpAny_updateSeq hD rfl (h _ (Heap.SameBut.update ..) ?_) (by simp [sizeLine_eq]; omega) (by simp [sizeLine_eq]; omega)
  have e : Obj.mapSeq (·.push v) (PySem.W.listOf vs.toArray m) = PySem.W.listOf (vs ++ [v]).toArray (m + 1) := by
    simp [Obj.mapSeq, PySem.W.listOf]
  rw [Heap.get?_update_self _ hD (by rw [e]; rfl), e]
theorem slice_wp {x : List Nat} {b e : Nat} {Q : Value → Shared → Prop} (hx : x.length ≤ 1000000) (h : ∀ t' k', Q (.str (S ((x.drop b).take (e - b))) t') { s with toks := k' }) : wpAny (model prog w) A (reSlice x.toArray 0 b e) Q E s := by
  unfold reSlice
  rw [if_pos (by decide)]
  have e1 : (⟨x.toArray.extract b e⟩ : Str) = S ((x.drop b).take (e - b)) := by
    apply Str.ext'; apply Array.toList_inj.mp; simp
  rw [e1]
  exact wpAny_mkStr (h _ _) (by rw [S_len, sizeLine_eq]; simp; omega)

theorem join_nil : ∀ texts : List Str, Str.join (S []) texts = S ((texts.map (·.cps.toList)).flatten)
  | [] => rfl
  | [p] => by simp [Str.join]
  | p :: q :: ps => by
    show p ++ S [] ++ Str.join (S []) (q :: ps) = _
    rw [join_nil (q :: ps), S_eta p, S_cat, S_cat]; simp
theorem ends_wp {D : Addr} {l : List (Str × Tok)} {m : Nat} {x acc : List Nat} {n : Int} {Q : PySem.Fin → Shared → Prop} (hx : x.length ≤ 1000000) (hD : s.heap.get? D = some (PySem.W.listOf (strValues l).toArray m))
    (hacc : (l.map (·.1.cps.toList)).flatten = acc) (hlen : acc.length ≤ 16777216) (hR : ∀ t' k', Q (.done (.ret (.str (S acc) t'))) { s with toks := k' }) :
    wpAny (model prog w) A (do
      let joiner ← reSlice x.toArray 0 0 0
      let __do_lift ← seqItems? (Value.ref D)
      if (__do_lift.getD #[]).isEmpty = true then do
          let text ← pure joiner
          if false = true then do
              let __do_lift ← holding [text] do
                    let __do_lift ← mkInt n
                    newTuple [text, __do_lift]
              ret __do_lift
            else ret text
        else do
          let text ← call (Value.builtin (if (0 == 0) = true then "str.join" else "bytes.join")) [joiner, Value.ref D]
          if false = true then do
              let __do_lift ← holding [text] do
                    let __do_lift ← mkInt n
                    newTuple [text, __do_lift]
              ret __do_lift
            else ret text) Q E s := by
  refine wpAny_bind (slice_wp hx fun t' k' => ?_)
  refine wpAny_bind (wpAny_seqItems (s := { s with toks := k' }) hD rfl ?_)
  cases l with
  | nil =>
    rw [if_pos (by rfl)]
    refine wpAny_bind (wpAny_pure ?_)
    rw [if_neg Bool.false_ne_true]
    refine wpAny_pure ?_
    simp only [List.map_nil, List.flatten_nil] at hacc
    subst hacc
    have := hR t' k'
    simpa using this
  | cons q l =>
    rw [if_neg (by simp [strValues])]
    rw [if_pos (by decide)]
    have e0 : ((x.drop 0).take (0 - 0)) = [] := by simp
    rw [e0]
    refine wpAny_bind (SC.join (s := { s with toks := k' }) (texts := (q :: l).map (·.1)) ⟨_, hD, rfl, _, rfl⟩ rfl ?_ fun t2 k2 => ?_)
    · unfold JoinOk tooLong
      rw [StrLaws.joinTotal, S_len, Bool.not_eq_true', decide_eq_false_iff_not, sizeLine_eq]
      have e1 : (((q :: l).map (·.1)).map (·.length)).sum = acc.length := by
        rw [← hacc, List.length_flatten, List.map_map, List.map_map]
        congr 1
      rw [e1]; simp; try omega
    · rw [if_neg Bool.false_ne_true]
      refine wpAny_pure ?_
      have e2 : Txt.join (S []) ((q :: l).map (·.1)) = S acc := by
        show glued (S []) _ = _
        rw [StrLaws.glued_eq_join, join_nil, List.map_map, ← hacc]; rfl
      rw [e2]
      exact hR t2 k2

/-- what the search of a code finds, place by place -/
def Subs (code : Array Nat) (r x : List Nat) (rest : Nat → List Nat) : Prop := ∀ (k : Nat) (must : Bool), k ≤ x.length → ∃ n m', n ≤ 5 * (x.length + 4) ∧ Goes n (Sre.forSearch code x.toArray 0 k x.toArray.size must) m' ∧
  ((∃ b e, k ≤ b ∧ b < e ∧ e ≤ x.length ∧ m'.outcome = some .matched ∧ m'.start = b ∧ m'.handed = e ∧ rest k = (x.drop k).take (b - k) ++ r ++ rest e) ∨ (m'.outcome = some .failed ∧ rest k = x.drop k))

theorem loop_wp {p c D : Addr} {po co : Obj} {v0 v1 v3 v4 : Value} {items : Array Value} {nc : Nat} {x r : List Nat} {t u : Tok} {rest : Nat → List Nat} {code : Array Nat}
    (hpd : po.data = .fields #[v0, v1, .int 0 0, v3, v4, .ref c, .int 0 0]) (hcd : co.data = .seq items nc) (hcode : (items.map reRawOf).map (·.toNat) = code) (hS : Subs code r x rest) (hx : x.length ≤ 1000000) (hpD : p ≠ D) (hcD : c ≠ D) :
    ∀ (d k : Nat) (s : Shared) (n : Int) (must : Bool) (l : List (Str × Tok)) (m : Nat) (acc : List Nat) (R : Result → Shared → Prop), d = x.length - k → k ≤ x.length →
      s.heap.get? p = some po → s.heap.get? c = some co → s.heap.get? D = some (PySem.W.listOf (strValues l).toArray m) → l.length + 2 * d + 2 ≤ 10000000 → (l.map (·.1.cps.toList)).flatten = acc → (acc ++ rest k).length ≤ 16777216 →
      (∀ t' h' k', Heap.SameBut D s.heap h' → R (.ok (.ret (.str (S (acc ++ rest k)) t'))) { s with heap := h', toks := k' }) →
      codeAny (model prog w) A (.builtin "re.Pattern.sub.loop" ⟨[.ref p, .str (S x) t, .str (S r) u, .int 0 0, .int 0 0, .int n 0, .int (k : Int) 0, .int (k : Int) 0, .bool must, .ref D, .bool false], []⟩) R s := by
  intro d
  induction d using Nat.strongRecOn with
  | ind d ih =>
    intro k s n must l m acc R hd hk hp hc hD hl hacc hlen hR
    refine codeAny_builtin entry_loop ?_
    rw [Around.under_plainId (id := "re.Pattern.sub.loop") plain_loop _]
    unfold Builtin.«re.Pattern.sub.loop»
    refine wpAny_bind (whole_wp hp hpd hc hcd ?_)
    rw [hcode]
    refine wpAny_bind (wpAny_pure (a := ()) ?_)
    dsimp only
    rw [Int.toNat_natCast]
    refine wpAny_bind ?_
    rw [if_neg (by simp)]
    unfold reNextFound
    obtain ⟨nn, m', hn, g, ho⟩ := hS k must hk
    refine reRun_wp g (by omega) ?_
    rcases ho with ⟨b, e, h1, h2, h3, ho, hb, he, hrest⟩ | ⟨ho, hrest⟩
    · refine .inl ⟨ho, ?_⟩
      dsimp only
      rw [hb, he]
      -- behind the first push
      have tail : ∀ (s' : Shared) (l' : List (Str × Tok)) (m'' : Nat), (∃ h' k', s' = { s with heap := h', toks := k' } ∧ Heap.SameBut D s.heap h' ∧ h'.get? D = some (PySem.W.listOf (strValues l').toArray m'')) → l'.length ≤ l.length + 1 →
          (l'.map (·.1.cps.toList)).flatten = acc ++ (x.drop k).take (b - k) →
          wpAny (model prog w) A.in1 (do updateSeq D fun y => y.push (.str (S r) u); again (Code.builtin "re.Pattern.sub.loop" ⟨[.ref p, .str (S x) t, .str (S r) u, rawInt 0, rawInt 0, rawInt (n + 1), rawInt (e : Int), rawInt (e : Int), .bool (e == b), .ref D, .bool false], []⟩))
            (fun fin s' => match fin with | .done f => R (.ok f) s' | .again c' => c'.quiet = true ∧ codeAny (model prog w) A c' R s') (fun e s' => R (.error e) s') s' := by
        rintro s' l' m'' ⟨h', k', rfl, hsb, hD'⟩ hl' hacc'
        refine wpAny_bind (push_wp hD' (by rw [strValues, List.length_map]; omega) fun h2' hsb2 hD2 => ?_)
        refine wpAny_pure ⟨Code.quiet_builtin _ (by decide +kernel), ?_⟩
        have hsb3 : Heap.SameBut D s.heap h2' := hsb.trans hsb2
        refine ih (x.length - e) (by omega) e _ (n + 1) (e == b) (l' ++ [(S r, u)]) (m'' + 1) (acc ++ (x.drop k).take (b - k) ++ r) R rfl h3 ?_ ?_ ?_ ?_ ?_ ?_ ?_
        · exact (hsb3.2 p hpD).trans hp
        · exact (hsb3.2 c hcD).trans hc
        · show h2'.get? D = _
          rw [hD2]; simp [strValues]
        · simp only [List.length_append, List.length_cons, List.length_nil]; omega
        · rw [List.map_append, List.flatten_append, hacc']; simp
        · rw [hrest] at hlen
          simpa [List.append_assoc] using hlen
        · intro t' h4 k4 hsb4
          have := hR t' h4 k4 (hsb3.trans hsb4)
          rw [hrest] at this
          simpa [List.append_assoc] using this
      by_cases hkb : k < b
      · rw [if_pos hkb]
        refine wpAny_bind (slice_wp hx fun t' k' => ?_)
        refine wpAny_bind (push_wp (s := { s with toks := k' }) hD (by rw [strValues, List.length_map]; omega) fun h' hsb hD' => ?_)
        rw [if_pos (by decide)]
        refine wpAny_bind (wpAny_pure ?_)
        rw [if_pos (show (Value.str (S r) u != Value.none) = true from rfl)]
        exact tail _ (l ++ [(S ((x.drop k).take (b - k)), t')]) (m + 1) ⟨h', k', rfl, hsb, by rw [hD']; simp [strValues]⟩ (by simp) (by rw [List.map_append, List.flatten_append, hacc]; simp)
      · rw [if_neg hkb]
        rw [if_pos (by decide)]
        refine wpAny_bind (wpAny_pure ?_)
        rw [if_pos (show (Value.str (S r) u != Value.none) = true from rfl)]
        have : b - k = 0 := by omega
        exact tail s l m ⟨s.heap, s.toks, rfl, .refl .., hD⟩ (by omega) (by rw [hacc, this]; simp)
    · refine .inr ⟨ho, ?_⟩
      dsimp only
      have e1 : x.toArray.size = x.length := by simp
      rw [e1]
      by_cases hkl : k < x.length
      · rw [if_pos hkl]
        refine wpAny_bind (slice_wp hx fun t' k' => ?_)
        refine wpAny_bind (push_wp (s := { s with toks := k' }) hD (by rw [strValues, List.length_map]; omega) fun h' hsb hD' => ?_)
        refine ends_wp (s := { s with heap := h', toks := k' }) (l := l ++ [(S ((x.drop k).take (x.length - k)), t')]) (m := m + 1) (acc := acc ++ rest k) hx (by show h'.get? D = _; rw [hD']; simp [strValues]) ?_ hlen fun t2 k2 => hR t2 h' k2 hsb
        rw [List.map_append, List.flatten_append, hacc, hrest]
        have : (x.drop k).take (x.length - k) = x.drop k := List.take_of_length_le (by simp)
        rw [this]; simp
      · rw [if_neg hkl]
        have e2 : rest k = [] := by rw [hrest]; exact List.drop_of_length_le (by omega)
        rw [e2, List.append_nil] at hlen hR
        exact ends_wp (l := l) (m := m) (acc := acc) hx hD hacc hlen fun t2 k2 => hR t2 s.heap k2 (.refl ..)
end
end
/-! part R5 -/
section
open PySem.Builtin PySem.Builtin.Re PySem.Builtin.Str
theorem slot_sub : Slot "re.Pattern" "sub" "re.Pattern.sub" :=
  .of (owner := "re.Pattern") (n := "sub") (by rw [typeLookup_type, builtinLookup_eq_fast]; kernel_rfl) (by decide +kernel) (by decide +kernel) (by decide +kernel)
    (by first | exact .inl (by decide +kernel) | exact .inr (by decide +kernel)) (by rw [isSubtype_type]; kernel_rfl)
theorem entry_sub : entryFor table "re.Pattern.sub" = some Builtin.«re.Pattern.sub» := entryFor_of_tree (by kernel_rfl)
theorem args_sub (a b c : Value) : argsOk "re.Pattern.sub" ⟨[a, b, c], []⟩ := by unfold argsOk; kernel_rfl
theorem type_sub : typeOf (.builtin "re.Pattern.sub") = pure (.type "method_descriptor") := by show builtinType _ = _; rw [builtinType_eq_fast]; kernel_rfl
theorem plain_pat : PlainAttrs "re.Pattern" := ⟨⟨"object.__getattribute__", by rw [typeLookup_type, builtinLookup_eq_fast]; kernel_rfl, by decide +kernel⟩, by rw [typeLookup_type, builtinLookup_eq_fast]; kernel_rfl⟩
theorem nocall_str : typeLookup (.type "str") "__call__" = pure none := by rw [typeLookup_type, builtinLookup_eq_fast]; kernel_rfl
section
variable {prog : Program} {w : World} {A : Around} {E : Value → Shared → Prop} {s : Shared}
theorem named_sub (a b : Value) : reNamed "re.Pattern.sub" "sub" ["repl", "string", "count"] 2 [a, b] [] = pure [some a, some b, none] := by rfl
theorem sub_wp {p c : Addr} {po co : Obj} {v0 v1 v3 v4 : Value} {items : Array Value} {nc : Nat} {x r : List Nat} {t u : Tok} {rest : Nat → List Nat} {code : Array Nat} {Q : Value → Shared → Prop}
    (hp : s.heap.get? p = some po) (hpc : po.cls = .type "re.Pattern") (hc : s.heap.get? c = some co)
    (hpd : po.data = .fields #[v0, v1, .int 0 0, v3, v4, .ref c, .int 0 0]) (hcd : co.data = .seq items nc) (hcode : (items.map reRawOf).map (·.toNat) = code) (hS : Subs code r x rest) (hx : x.length ≤ 1000000)
    (hr : r.contains 92 = false) (hlen : (rest 0).length ≤ 16777216)
    (h : ∀ t' h' k', s.heap.StaysIn h' → Q (.str (S (rest 0)) t') { s with heap := h', toks := k' }) :
    wpAny (model prog w) A (call (.builtin "re.Pattern.sub") [.ref p, .str (S r) u, .str (S x) t]) Q E s := by
  have hT : s.TypeIs (.ref p) "re.Pattern" := ⟨po, hp, hpc⟩
  refine wpAny_call (codeAny_call_builtin slot_sub.plain entry_sub (slot_sub.check _ _ _ _ _ _ _ _ hT (args_sub _ _ _) ?_))
  unfold Builtin.«re.Pattern.sub» reSubstitute
  dsimp only
  rw [named_sub]
  refine wpAny_bind (wpAny_pure ?_)
  dsimp only
  refine wpAny_bind (wpAny_pure ?_)
  refine wpAny_bind (wpAny_specialOf (typeIs_str _ _ _) nocall_str ?_)
  rw [if_neg (by decide)]
  refine wpAny_bind (m := asStr? (.str (S r) u)) (wpAny_pure (a := some (S r)) ?_)
  dsimp only
  have e92 : (!(S r).cps.contains 92) = true := by
    have : (S r).cps.contains 92 = r.contains 92 := by simp
    rw [this, hr]; rfl
  rw [e92]
  refine wpAny_bind (wpAny_pure ?_)
  rw [if_neg (by decide), if_pos rfl]
  refine wpAny_bind (wpAny_pure ?_)
  refine wpAny_bind (wpAny_holding (whole_wp hp hpd hc hcd ?_))
  rw [if_neg (show ¬ (((0 : Int) == 1) = true) by decide)]
  have hpl := Heap.lt_size hp
  have hcl := Heap.lt_size hc
  refine wpAny_bind ?_
  unfold newList
  refine wpAny_newObj_type ?_ (by show ([] : List Value).toArray.size ≤ sizeLine; simp)
  refine wpAny_pure ⟨Code.quiet_builtin _ (by decide +kernel), ?_⟩
  refine loop_wp (D := s.heap.objs.size) (l := []) (m := 0) (acc := []) hpd hcd hcode hS hx (Nat.ne_of_lt hpl) (Nat.ne_of_lt hcl) _ 0 _ 0 false _ rfl (Nat.zero_le _) (Heap.get?_push_of_some _ hp) (Heap.get?_push_of_some _ hc) (Heap.get?_push_size _ rfl) ?_ rfl ?_ ?_
  · simp; omega
  · simpa using hlen
  · intro t' h' k' hsb
    refine h t' h' k' fun b o e => ?_
    rw [hsb.2 b (Nat.ne_of_lt (Heap.lt_size e))]
    exact Heap.get?_push_of_some _ e
end
end
/-! part R6 -/
def crlf : List Nat → List Nat
  | [] => []
  | [c] => if c = 10 ∨ c = 13 then [13, 10] else [c]
  | c :: d :: r => if c = 13 ∧ d = 10 then 13 :: 10 :: crlf r else if c = 10 ∨ c = 13 then 13 :: 10 :: crlf (d :: r) else c :: crlf (d :: r)
def dots : Bool → List Nat → List Nat
  | _, [] => []
  | b, c :: r => (if b = true ∧ c = 46 then [46, 46] else [c]) ++ dots (c == 10) r

theorem crlf_cons {c : Nat} {r : List Nat} (h : ¬ (c = 10 ∨ c = 13)) : crlf (c :: r) = c :: crlf r := by
  cases r with
  | nil => simp [crlf, h]
  | cons d r => rw [crlf, if_neg (fun q => h (.inr q.1)), if_neg h]
theorem crlf_end {c : Nat} {r : List Nat} (h : c = 10 ∨ c = 13) (h2 : ¬ (c = 13 ∧ r.head? = some 10)) : crlf (c :: r) = 13 :: 10 :: crlf r := by
  cases r with
  | nil => simp [crlf, h]
  | cons d r => rw [crlf, if_neg (fun q => h2 ⟨q.1, by rw [q.2]; rfl⟩), if_pos h]
theorem crlf_pair {r : List Nat} : crlf (13 :: 10 :: r) = 13 :: 10 :: crlf r := by rw [crlf, if_pos ⟨rfl, rfl⟩]

theorem getD_drop {x : List Nat} {k : Nat} (h : k < x.length) : x.drop k = x.toArray.getD k 0 :: x.drop (k + 1) := by
  rw [List.drop_eq_getElem_cons h]
  congr 1
  simp [Array.getD, h]

theorem crlf_at {x : List Nat} {b : Nat} (hb : b < x.length) (hp : P2 x.toArray b) : crlf (x.drop b) = [13, 10] ++ crlf (x.drop (b + w2 x.toArray b)) := by
  rw [getD_drop hb]
  by_cases h : x.toArray.getD b 0 = 13 ∧ b + 1 < x.toArray.size ∧ x.toArray.getD (b + 1) 0 = 10
  · have e : w2 x.toArray b = 2 := by rw [w2, if_pos h]
    have h1 : b + 1 < x.length := by simpa using h.2.1
    rw [e, h.1, getD_drop h1, h.2.2, crlf_pair]; rfl
  · have e : w2 x.toArray b = 1 := by rw [w2, if_neg h]
    rw [e, crlf_end hp]
    · rfl
    · rintro ⟨h1, h2⟩
      apply h
      by_cases h3 : b + 1 < x.length
      · rw [getD_drop h3] at h2
        exact ⟨h1, by simpa using h3, by simpa using h2⟩
      · rw [List.drop_of_length_le (by omega)] at h2
        cases h2
theorem crlf_to {x : List Nat} : ∀ (d k b : Nat), d = b - k → k ≤ b → b ≤ x.length → (∀ j, k ≤ j → j < b → ¬ P2 x.toArray j) → crlf (x.drop k) = (x.drop k).take (b - k) ++ crlf (x.drop b) := by
  intro d
  induction d with
  | zero =>
    intro k b hd hk hb hn
    have : k = b := by omega
    subst this; simp
  | succ d ih =>
    intro k b hd hk hb hn
    have hlt : k < x.length := by omega
    rw [getD_drop hlt, crlf_cons (hn k (Nat.le_refl _) (by omega)), show b - k = (b - (k + 1)) + 1 by omega, List.take_succ_cons, List.cons_append,
      ← ih (k + 1) b (by omega) (by omega) hb fun j h1 h2 => hn j (by omega) h2]

theorem subs2 (x : List Nat) : Subs code2 [13, 10] x fun k => crlf (x.drop k) := by
  intro k must hk
  obtain ⟨n, m', hn, g, ho⟩ := search2 (text := x.toArray) k must (by simpa using hk)
  refine ⟨n, m', by omega, g, ?_⟩
  rcases ho with ⟨b, h1, h2, h3, h4, h5, h6, h7⟩ | ⟨h1, h2⟩
  · have hb : b < x.length := by simpa using h2
    have hw : 1 ≤ w2 x.toArray b := by
      unfold w2
      by_cases q : x.toArray.getD b 0 = 13 ∧ b + 1 < x.toArray.size ∧ x.toArray.getD (b + 1) 0 = 10
      · rw [if_pos q]; decide
      · rw [if_neg q]; decide
    have hw2 : b + w2 x.toArray b ≤ x.length := by
      unfold w2
      by_cases q : x.toArray.getD b 0 = 13 ∧ b + 1 < x.toArray.size ∧ x.toArray.getD (b + 1) 0 = 10
      · rw [if_pos q]; have := q.2.1; simp at this; omega
      · rw [if_neg q]; omega
    exact .inl ⟨b, b + w2 x.toArray b, h1, by omega, hw2, h5, h6, h7, by show crlf (x.drop k) = _ ++ crlf (x.drop (b + w2 x.toArray b)); rw [crlf_to _ k b rfl h1 (by omega) h4, crlf_at hb h3, List.append_assoc]⟩
  · refine .inr ⟨h2, ?_⟩
    show crlf (x.drop k) = _
    have := crlf_to (x := x) _ k x.length rfl hk (Nat.le_refl _) fun j h3 h4 => h1 j h3 (by simpa using h4)
    rw [this, List.drop_length]
    have e : (x.drop k).take (x.length - k) = x.drop k := List.take_of_length_le (by simp)
    rw [e]; simp [crlf]

/-- a row begins here -/
def bol (x : List Nat) (k : Nat) : Bool := k == 0 || x.toArray.getD (k - 1) 0 == 10
theorem bol_succ {x : List Nat} {k : Nat} : bol x (k + 1) = (x.toArray.getD k 0 == 10) := by
  unfold bol
  rw [show (k + 1 == 0) = false from by rw [beq_eq_false_iff_ne]; omega, Bool.false_or]; rfl
theorem bol_iff {x : List Nat} {k : Nat} : bol x k = true ↔ (k = 0 ∨ x.toArray.getD (k - 1) 0 = 10) := by
  unfold bol; rw [Bool.or_eq_true, beq_iff_eq, beq_iff_eq]
theorem dots_to {x : List Nat} : ∀ (d k b : Nat), d = b - k → k ≤ b → b ≤ x.length → (∀ j, k ≤ j → j < b → ¬ P1 x.toArray j) → dots (bol x k) (x.drop k) = (x.drop k).take (b - k) ++ dots (bol x b) (x.drop b) := by
  intro d
  induction d with
  | zero =>
    intro k b hd hk hb hn
    have : k = b := by omega
    subst this; simp
  | succ d ih =>
    intro k b hd hk hb hn
    have hlt : k < x.length := by omega
    have hk' : ¬ (bol x k = true ∧ x.toArray.getD k 0 = 46) := fun q => hn k (Nat.le_refl _) (by omega) ⟨bol_iff.mp q.1, q.2⟩
    rw [getD_drop hlt, dots, if_neg hk', show b - k = (b - (k + 1)) + 1 by omega, List.take_succ_cons, ← bol_succ, List.cons_append, List.cons_append,
      ← ih (k + 1) b (by omega) (by omega) hb fun j h1 h2 => hn j (by omega) h2]; rfl
theorem subs1 (x : List Nat) : Subs code1 [46, 46] x fun k => dots (bol x k) (x.drop k) := by
  intro k must hk
  obtain ⟨n, m', hn, g, ho⟩ := search1 (text := x.toArray) k must (by simpa using hk)
  have hz : x.toArray.size = x.length := by simp
  refine ⟨n, m', by rw [hz] at hn; omega, g, ?_⟩
  rcases ho with ⟨b, h1, h2, h3, h4, h5, h6, h7⟩ | ⟨h1, h2⟩
  · have hb : b < x.length := by simpa using h2
    refine .inl ⟨b, b + 1, h1, by omega, by omega, h5, h6, h7, ?_⟩
    show dots (bol x k) (x.drop k) = _ ++ dots (bol x (b + 1)) (x.drop (b + 1))
    rw [dots_to _ k b rfl h1 (by omega) h4, List.append_assoc]
    congr 1
    rw [getD_drop hb, dots, if_pos ⟨bol_iff.mpr h3.1, h3.2⟩, ← bol_succ]
  · refine .inr ⟨h2, ?_⟩
    show dots (bol x k) (x.drop k) = _
    have := dots_to (x := x) _ k x.length rfl hk (Nat.le_refl _) fun j h3 h4 => h1 j h3 (by simpa using h4)
    rw [this, List.drop_length]
    have e : (x.drop k).take (x.length - k) = x.drop k := List.take_of_length_le (by simp)
    rw [e]; simp [dots]

theorem crlf_len (x : List Nat) : (crlf x).length ≤ 2 * x.length := by
  induction x using crlf.induct with
  | case1 => simp [crlf]
  | case2 c h => simp [crlf, h]
  | case3 c h => simp [crlf, h]
  | case4 c d r h ih => rw [crlf, if_pos h]; simp only [List.length_cons]; omega
  | case5 c d r h h2 ih => rw [crlf, if_neg h, if_pos h2]; simp only [List.length_cons] at ih ⊢; omega
  | case6 c d r h h2 ih => rw [crlf, if_neg h, if_neg h2]; simp only [List.length_cons] at ih ⊢; omega
theorem dots_len (x : List Nat) : ∀ b, (dots b x).length ≤ 2 * x.length := by
  induction x with
  | nil => intro b; simp [dots]
  | cons c r ih =>
    intro b
    have := ih (c == 10)
    rw [dots]
    split <;> simp only [List.length_append, List.length_cons, List.length_nil] <;> omega
/-- quotedata -/
def qdL (x : List Nat) : List Nat := dots true (crlf x)
/-! part P4 -/
/-- a tree of folders and files: what lies in one folder, in order -/
inductive T where
  | nil
  | file (nm bd : List Nat) (r : T)
  | dir (nm : List Nat) (i r : T)
def T.es : T → List PyData
  | .nil => []
  | .file nm bd r => .tuple [.str (S nm), .str (S bd)] :: r.es
  | .dir nm i r => .tuple [.str (S nm), .list i.es] :: r.es
def T.py (t : T) : PyData := .list t.es
def sentL : T → List Nat
  | .nil => []
  | .file nm bd r => nm ++ [13, 10] ++ qdL bd ++ [13, 10, 46, 13, 10] ++ sentL r
  | .dir nm i r => nm ++ [47, 13, 10] ++ qdL (sentL i) ++ [46, 13, 10] ++ sentL r
def toldL : T → Nat → Rows
  | .nil, _ => []
  | .file nm bd r, d => liftL d nm :: ((rowsL bd).map (liftL (d + 1)) ++ (List.replicate (d + 1) 46 :: toldL r d))
  | .dir nm i r, d => liftL d (nm ++ [47]) :: (toldL i (d + 1) ++ (List.replicate (d + 1) 46 :: toldL r d))
def listingL : T → List Nat → List (List Nat × Option Rows)
  | .nil, _ => []
  | .file nm bd r, f => (f ++ nm, some (rowsL bd)) :: listingL r f
  | .dir nm i r, f => (f ++ nm, none) :: (listingL i (f ++ nm ++ [47]) ++ listingL r f)
def T.nodes : T → Nat
  | .nil => 0
  | .file _ _ r => 1 + r.nodes
  | .dir _ i r => 1 + i.nodes + r.nodes
def T.hgt : T → Nat
  | .nil => 0
  | .file _ _ r => r.hgt
  | .dir _ i r => max (i.hgt + 1) r.hgt
def NameOk (l : List Nat) : Prop := l ≠ [] ∧ l.length ≤ 3 ∧ ∀ c ∈ l, c ≠ 10 ∧ c ≠ 13 ∧ c ≠ 47 ∧ c < 1114112
def BodyOk (b : List Nat) : Prop := b.length ≤ 6 ∧ ∀ c ∈ b, c = 46 ∨ c = 10 ∨ c = 97 ∨ c = 13 ∨ c = 47
def T.Good : T → Prop
  | .nil => True
  | .file nm bd r => NameOk nm ∧ BodyOk bd ∧ r.Good
  | .dir nm i r => NameOk nm ∧ i.Good ∧ r.Good
theorem T.hgt_le : ∀ t : T, t.hgt ≤ t.nodes
  | .nil => Nat.le_refl _
  | .file _ _ r => by have := hgt_le r; simp only [hgt, nodes]; omega
  | .dir _ i r => by have := hgt_le i; have := hgt_le r; simp only [hgt, nodes]; omega
/-! part X3 -/
theorem of_tab : Str.ofString ".\n.a\r/" = S [46, 10, 46, 97, 13, 47] := by decide +kernel
local macro_rules | `(tactic| walk_at "eval Constant str") => `(tactic| (k_here; refine' const_S of_tab ?_))
theorem Fr.eqm {g h : Heap} {L : Addr} {m m' : Str → Option Value} (F : Fr g L h m) (e : ∀ y, m y = m' y) : Fr g L h m' := (funext e) ▸ F
def Turn (I : Nat → Shared → Prop) (n : Nat) (s : Shared) : Prop := ∃ m, m < n ∧ I m s
theorem while_inv {prog : Program} {w : World} {A : Around} {E : Value → Shared → Prop} {s : Shared} {test : PySem.Expr} {body orelse : List Stmt} {env : Env} {pos : Pos} {Q : Flow → Shared → Prop} (I : Nat → Shared → Prop)
    (turn : ∀ n s, I n s →
      wpAny (model prog w) A (isTrue test env (eval test env)) (fun b s₂ =>
        if b then wpAny (model prog w) A (execs body env) (fun f s₃ => match f with
            | .next | .cont => Turn I n s₃
            | .brk => Q .next s₃
            | .ret v => Q (.ret v) s₃) (fun _ _ => False) s₂
        else wpAny (model prog w) A (execs orelse env) Q (fun _ _ => False) s₂)
        (fun _ _ => False) s)
    (n : Nat) (h : I n s) : wpAny (model prog w) A (exec (.While test body orelse pos) env) Q E s := by
  refine wpAny_While (codeAny_whileLoop I (fun n s hI => wpAny_mono (turn n s hI) (fun b s₂ q => ?_) fun _ _ x => x.elim) n h)
  cases b with
  | true => exact wpAny_mono q (fun f s₃ z => by cases f <;> exact z) fun _ _ x => x.elim
  | false => exact wpAny_mono q (fun f s₃ z => z) fun _ _ x => x.elim
theorem Fr.two {g h : Heap} {L : Addr} {m : Str → Option Value} {A B : Str} {v1 v2 v3 v4 : Option Value} (F : Fr g L h (fun y => if y = A then v1 else if y = B then v2 else if y = A then v3 else if y = B then v4 else m y)) :
    Fr g L h (fun y => if y = A then v1 else if y = B then v2 else m y) := by
  refine Fr.eqm F fun y => ?_
  by_cases h1 : y = A
  · simp only [if_pos h1]
  · by_cases h2 : y = B
    · simp only [if_neg h1, if_pos h2]
    · simp only [if_neg h1, if_neg h2]
/-- the walk halts here -/
def Stop (P : Prop) : Prop := P
theorem stop {P : Prop} (h : Stop P) : P := h
theorem Stop.go {P : Prop} (h : P) : Stop P := h
local macro_rules | `(tactic| walk_at "exec While") => `(tactic| (k_here; refine stop ?_))
theorem tab_item {left : Int} : ∃ c, Txt.item (S [46, 10, 46, 97, 13, 47]) (left.fmod 6) = S [c] ∧ (c = 46 ∨ c = 10 ∨ c = 97 ∨ c = 13 ∨ c = 47) := by
  have h1 : 0 ≤ left.fmod 6 := by rw [Int.fmod_eq_emod_of_nonneg _ (by omega)]; exact Int.emod_nonneg _ (by omega)
  have h2 := Int.fmod_lt_of_pos left (show (0 : Int) < 6 by omega)
  have h3 : left.fmod 6 = 0 ∨ left.fmod 6 = 1 ∨ left.fmod 6 = 2 ∨ left.fmod 6 = 3 ∨ left.fmod 6 = 4 ∨ left.fmod 6 = 5 := by omega
  rcases h3 with e | e | e | e | e | e <;> rw [e]
  · exact ⟨46, by decide +kernel, by omega⟩
  · exact ⟨10, by decide +kernel, by omega⟩
  · exact ⟨46, by decide +kernel, by omega⟩
  · exact ⟨97, by decide +kernel, by omega⟩
  · exact ⟨13, by decide +kernel, by omega⟩
  · exact ⟨47, by decide +kernel, by omega⟩
set_option maxHeartbeats 4000000 in
theorem body_spec (W : Wd) (n : Int) (t : Tok) : PSpec W 179 [.int n t] 1 3 (fun _ => True) (fun v => ∃ b t', BodyOk b ∧ v = .str (S b) t') := by
  refine' Spec.intro (binds := [(Str.ofString "n", .int n t)]) ?ho ?hcd ?hbind ?hloc (by omega) (by omega) ?hcell ?hco ?hgen ?hk ?hb
  tb_start
  intro dp un gd outer A₀ base L h₁ tk hid s Q B F X T hdp hun htk hal hpre hret
  have N : News s.heap L h₁ [] := news0
  k_steps
  rename Fr _ _ _ _ => F9
  refine Stop.go ?_
  refine while_inv (fun k s' => ∃ (b : List Nat) (left : Int) (tb tl : Tok) (h : Heap) (tk' : Nat), k = 6 - b.length ∧ BodyOk b ∧ 1 ≤ tk' ∧
    Fr s.heap L h (fun y => if y = Str.ofString "left" then some (.int left tl) else if y = Str.ofString "body" then some (.str (S b) tb) else List.lookup y [(Str.ofString "n", Value.int n t)].reverse) ∧
    s' = { s with heap := h, toks := tk' }) ?_ 6 ⟨[], _, _, _, _, _, rfl, ⟨by decide, fun c h => nomatch h⟩, by assumption, F9, rfl⟩
  clear F9
  rintro k s' ⟨b, left, tb, tl, h, tk', hk, hb, ht', F', rfl⟩
  have N' : News s.heap L h [] := news0
  have hb1 := hb.1
  k_steps
  · rename Fr _ _ _ _ => F9
    obtain ⟨c, ec, hc⟩ := tab_item (left := left)
    rw [ec, S_cat] at F9
    refine ⟨6 - (b ++ [c]).length, ?_, b ++ [c], left.fdiv 6, _, _, _, _, rfl, ⟨?_, ?_⟩, by assumption, Fr.two F9, rfl⟩
    · simp; omega
    · simp; omega
    · intro x hx
      rcases List.mem_append.mp hx with hx | hx
      · exact hb.2 x hx
      · rw [List.mem_singleton.mp hx]; exact hc
  all_goals exact hret _ _ _ (Fr.keep (by with_reducible assumption)) ⟨b, _, hb, rfl⟩
/-! part X4 -/
section
variable {prog : Program} {w : World} {A : Around} {E : Value → Shared → Prop} {s : Shared} {K : Frag} {h₀ : Heap} {L : Addr} {m : Str → Option Value} {news : List (Addr × Obj)}
theorem getsub_wp {p : Addr} {po : Obj} {pl : Sem Bool} {Q : Value × List Value → Shared → Prop} (F : Fr h₀ L s.heap m) (X : K.In h₀) (hp : K.lookup p = some po) (hc : po.cls = .type "re.Pattern") (hd : po.dict = none)
    (h : Q (.builtin "re.Pattern.sub", [.ref p]) s) : wpAny (model prog w) A (getMethod (.ref p) "sub" pl) Q E s := by
  have hpo := F.keep _ _ (X _ _ hp)
  exact getMethod_builtin ⟨po, hpo, hc⟩ plain_pat slot_sub type_sub (fun a e => by cases e; exact ⟨po, hpo, hd⟩) h
theorem sub2_wp {x : List Nat} {t u : Tok} {Q : Value → Shared → Prop} {W : Wd} (F : Fr h₀ L s.heap m) (N : News h₀ L s.heap news) (X : (hd.heap_39 W.w.params).In h₀) (h0 : 1 ≤ s.toks) (hx : x.length ≤ 1000000)
    (h : ∀ t' h' k', Fr h₀ L h' m → News h₀ L h' news → 1 ≤ k' → Q (.str (S (crlf x)) t') { s with heap := h', toks := k' }) :
    wpAny (model prog w) A (call (.builtin "re.Pattern.sub") [.ref 48, .str (S [13, 10]) u, .str (S x) t]) Q E s := by
  have h1 : ∃ po, (hd.heap_39 W.w.params).lookup 48 = some po ∧ po.cls = .type "re.Pattern" ∧ ∃ v0 v1 v3 v4, po.data = .fields #[v0, v1, .int 0 0, v3, v4, .ref 47, .int 0 0] := ⟨_, rfl, rfl, _, _, _, _, rfl⟩
  have h2 : ∃ co items n, (hd.heap_39 W.w.params).lookup 47 = some co ∧ co.data = .seq items n ∧ (items.map Builtin.Re.reRawOf).map (·.toNat) = code2 := ⟨_, _, _, rfl, rfl, by decide +kernel⟩
  obtain ⟨po, hp, hpc, v0, v1, v3, v4, hpd⟩ := h1
  obtain ⟨co, items, n, hc, hcd, hcode⟩ := h2
  have hl := crlf_len x
  exact wpAny_toks h0 (sub_wp (rest := fun k => crlf (x.drop k)) (F.keep _ _ (X _ _ hp)) hpc (F.keep _ _ (X _ _ hc)) hpd hcd hcode (subs2 x) hx rfl (by rw [List.drop_zero]; omega)
    fun t' h' k' st hk => by rw [List.drop_zero]; exact h t' h' k' (F.keeps st) (fun p hp => ⟨st _ _ (N p hp).1, (N p hp).2⟩) hk)
theorem sub1_wp {x : List Nat} {t u : Tok} {Q : Value → Shared → Prop} {W : Wd} (F : Fr h₀ L s.heap m) (N : News h₀ L s.heap news) (X : (hd.heap_39 W.w.params).In h₀) (h0 : 1 ≤ s.toks) (hx : x.length ≤ 1000000)
    (h : ∀ t' h' k', Fr h₀ L h' m → News h₀ L h' news → 1 ≤ k' → Q (.str (S (dots true x)) t') { s with heap := h', toks := k' }) :
    wpAny (model prog w) A (call (.builtin "re.Pattern.sub") [.ref 43, .str (S [46, 46]) u, .str (S x) t]) Q E s := by
  have h1 : ∃ po, (hd.heap_39 W.w.params).lookup 43 = some po ∧ po.cls = .type "re.Pattern" ∧ ∃ v0 v1 v3 v4, po.data = .fields #[v0, v1, .int 0 0, v3, v4, .ref 42, .int 0 0] := ⟨_, rfl, rfl, _, _, _, _, rfl⟩
  have h2 : ∃ co items n, (hd.heap_39 W.w.params).lookup 42 = some co ∧ co.data = .seq items n ∧ (items.map Builtin.Re.reRawOf).map (·.toNat) = code1 := ⟨_, _, _, rfl, rfl, by decide +kernel⟩
  obtain ⟨po, hp, hpc, v0, v1, v3, v4, hpd⟩ := h1
  obtain ⟨co, items, n, hc, hcd, hcode⟩ := h2
  have hl := dots_len x true
  have e0 : bol x 0 = true := rfl
  exact wpAny_toks h0 (sub_wp (rest := fun k => dots (bol x k) (x.drop k)) (F.keep _ _ (X _ _ hp)) hpc (F.keep _ _ (X _ _ hc)) hpd hcd hcode (subs1 x) hx rfl (by rw [List.drop_zero, e0]; omega)
    fun t' h' k' st hk => by rw [List.drop_zero, e0]; exact h t' h' k' (F.keeps st) (fun p hp => ⟨st _ _ (N p hp).1, (N p hp).2⟩) hk)
end
local macro_rules | `(tactic| walk_at "getMethod ref") => `(tactic| (k_here; (with_reducible show wpAny _ _ (getMethod (Value.ref _) (Str.ofString "sub") _) _ _ _); refine' getsub_wp ?F ?X ?p ?c ?d ?_; (case F => k_asm); (case X => k_asm); (case p => exact rfl); (case c => rfl); (case d => rfl)))
local macro_rules | `(tactic| walk_at "call builtin:re.Pattern.sub") => `(tactic| (k_here; refine' sub2_wp ?F ?N ?X ?h0 ?hx ?_; (case F => k_asm); (case N => k_asm); (case X => k_asm); (case h0 => ktr_units); (case hx => ktr_room); intro t' h' k' F' N' hk'; (try dsimp only)))
local macro_rules | `(tactic| walk_at "call builtin:re.Pattern.sub") => `(tactic| (k_here; refine' sub1_wp ?F ?N ?X ?h0 ?hx ?_; (case F => k_asm); (case N => k_asm); (case X => k_asm); (case h0 => ktr_units); (case hx => ktr_room); intro t' h' k' F' N' hk'; (try dsimp only)))
set_option maxHeartbeats 4000000 in
theorem qd_spec (W : Wd) (x : List Nat) (t : Tok) (hx : x.length ≤ 100000) : PSpec W 55 [.str (S x) t] 1 3 (fun _ => True) (fun v => ∃ t', v = .str (S (qdL x)) t') := by
  refine' Spec.intro (binds := [(Str.ofString "data", .str (S x) t)]) ?ho ?hcd ?hbind ?hloc (by omega) (by omega) ?hcell ?hco ?hgen ?hk ?hb
  tb_start
  intro dp un gd outer A₀ base L h₁ tk hid s Q B F X T hdp hun htk hal hpre hret
  have N : News s.heap L h₁ [] := news0
  have hl := crlf_len x
  k_steps
  all_goals exact hret _ _ _ (Fr.keep (by with_reducible assumption)) ⟨_, rfl⟩
/-! part B6 -/
section
variable {prog : Program} {w : World} {A : Around} {E : Value → Shared → Prop} {s : Shared} {env : Env} {target iter : PySem.Expr} {body : List Stmt} {pos : Pos} {Q : Flow → Shared → Prop} {g : Heap}
def ForAt (prog : Program) (w : World) (A : Around) (E : Value → Shared → Prop) (target : PySem.Expr) (body : List Stmt) (env : Env) (Q : Flow → Shared → Prop) (xv : Value) (s₁ : Shared) : Prop :=
  wpAny (model prog w) A (pyIter xv) (fun it s₂ => codeAny (model prog w) A (.forLoop target it body [] env) (fun r s' => match r with | .ok f => Q f s' | .error e => cameBackBy (model prog w) A env E e s') s₂) E s₁
theorem for_in (h : wpAny (model prog w) A (eval iter env) (fun xv s₁ => ForAt prog w A E target body env Q xv s₁) E s)
    (hs : ∀ x, foldedSetIterable iter env x = pure x) :
    wpAny (model prog w) A (exec (.For target iter body [] pos) env) Q E s := wpAny_For h hs
/-- one turn is done: what is left, and what stands -/
def ForTurn (g : Heap) (L : Addr) (s : Shared) (I : Addr) (iobj : Obj) (J : List Value → (Str → Option Value) → List (Addr × Obj) → Prop) (rest : List Value) (s₃ : Shared) : Prop :=
  ∃ h₃ tk₃ m₃ news₃, s₃ = { s with heap := h₃, toks := tk₃ } ∧ Fr g L h₃ m₃ ∧ News g L h₃ ((I, iobj) :: news₃) ∧ (∀ p ∈ news₃, p.1 ≠ I) ∧ 1 ≤ tk₃ ∧ J rest m₃ news₃
theorem for_core {l L I : Addr} (hL : env.locals = L) {items : List Value} {m : Str → Option Value} {news : List (Addr × Obj)} (hh : A.handled = none) (hl : g.IsList l items.toArray)
    (J : List Value → (Str → Option Value) → List (Addr × Obj) → Prop) (F : Fr g L s.heap m) (N : News g L s.heap news) (htk : 1 ≤ s.toks) (h0 : J items m news) (hI : s.heap.IsListIter I l 0) (hgI : g.get? I = none) (hLI : L ≠ I) (hnI : ∀ p ∈ news, p.1 ≠ I)
    (turn : ∀ v rest m₁ news₁ h₁ tk₁ I iobj, (∃ d, items = d ++ v :: rest) → iobj.cls = .type "list_iterator" → J (v :: rest) m₁ news₁ → Fr g L h₁ m₁ → News g L h₁ ((I, iobj) :: news₁) → (∀ p ∈ news₁, p.1 ≠ I) → 1 ≤ tk₁ →
      wpAny (model prog w) A (assign target env v) (fun _ s₂ => wpAny (model prog w) A (execs body env) (fun f s₃ => match f with
          | .next | .cont => ForTurn g L s I iobj J rest s₃
          | .brk => Q .next s₃
          | .ret v => Q (.ret v) s₃) (fun _ _ => False) s₂) (fun _ _ => False) { s with heap := h₁, toks := tk₁ })
    (done : ∀ h' tk' m' news', J [] m' news' → Fr g L h' m' → News g L h' news' → 1 ≤ tk' → Q .next { s with heap := h', toks := tk' }) :
    codeAny (model prog w) A (.forLoop target (.ref I) body [] env) (fun r s' => match r with | .ok f => Q f s' | .error e => cameBackBy (model prog w) A env E e s') s := by
  subst hL
  refine codeAny_forLoop_any (fun k s' => ∃ h' tk m' news' i rest, s' = { s with heap := h', toks := tk } ∧ h'.IsListIter I l i ∧ items.drop i = rest ∧ Fr g env.locals h' m' ∧ News g env.locals h' news' ∧ (∀ p ∈ news', p.1 ≠ I) ∧ 1 ≤ tk ∧ J rest m' news' ∧ i ≤ items.length ∧ k = items.length + 1 - i) ?_ (items.length + 1)
    ⟨_, s.toks, m, news, 0, items, rfl, hI, rfl, F, N, hnI, htk, h0, Nat.zero_le _, rfl⟩
  rintro k s' ⟨h', tk, m', news', i, rest, rfl, hit, hr, F', N', hN', htk', hJ, hi, rfl⟩
  have next : ∀ h₁ : Heap, (∀ b o, b ≠ I → h'.get? b = some o → h₁.get? b = some o) → Fr g env.locals h₁ m' ∧ News g env.locals h₁ news' := fun h₁ hk₁ =>
    ⟨⟨F'.ns.at' fun o e => hk₁ _ o hLI e, fun b o e => hk₁ b o (fun q => by rw [q, hgI] at e; cases e) (F'.keep b o e), F'.above⟩, fun p hp => ⟨hk₁ _ _ (hN' p hp) (N' p hp).1, (N' p hp).2⟩⟩
  have hl' : h'.IsList l items.toArray := islist_mono F'.keep hl
  cases rest with
  | nil =>
    have hx : items.toArray[i]? = none := by
      have := congrArg List.length hr
      simp at this
      simp; omega
    refine wpAny_pyNext_list_end hh hit hl' hx fun h₁ hb => wpAny_execs_nil ?_
    obtain ⟨F₁, N₁⟩ := next h₁ fun b o hb' e => hb b o hb' e
    exact done h₁ tk m' news' hJ F₁ N₁ htk'
  | cons v rest =>
    have hx : items.toArray[i]? = some v := by
      have : (items.drop i)[0]? = some v := by rw [hr]; rfl
      simpa using this
    have hr1 : items.drop (i + 1) = rest := by
      have : (items.drop i).drop 1 = rest := by rw [hr]; rfl
      simpa [Nat.add_comm] using this
    have hilt : i < items.length := by
      have := congrArg List.length hr
      simp at this
      omega
    refine wpAny_pyNext_list_item hit hl' hx fun h₁ hit₁ hs₁ => ?_
    obtain ⟨F₁, N₁⟩ := next h₁ fun b o hb' e => hs₁.extBut b o hb' e
    obtain ⟨io, hio, hic, hid⟩ := id hit₁
    refine letGo_listiter hit₁ ?_
    have NI : News g env.locals h₁ ((I, io) :: news') := fun p hp => by
      rcases List.mem_cons.mp hp with rfl | hp
      · exact ⟨hio, ⟨fun e => hLI e.symm, hgI⟩⟩
      · exact N₁ p hp
    refine wpAny_mono (turn v rest m' news' h₁ tk I io ⟨items.take i, by rw [← hr, List.take_append_drop]⟩ hic hJ F₁ NI hN' htk') (fun _ s₂ q => wpAny_mono q (fun f s₃ z => ?_) fun _ _ x => x.elim) fun _ _ x => x.elim
    have fin : ForTurn g env.locals s I io J rest s₃ → ∃ m, m < items.length + 1 - i ∧ ∃ h' tk m' news' i' rest', s₃ = { s with heap := h', toks := tk } ∧ h'.IsListIter I l i' ∧ items.drop i' = rest' ∧ Fr g env.locals h' m' ∧ News g env.locals h' news' ∧ (∀ p ∈ news', p.1 ≠ I) ∧ 1 ≤ tk ∧ J rest' m' news' ∧ i' ≤ items.length ∧ m = items.length + 1 - i' := by
      rintro ⟨h₃, tk₃, m₃, news₃, rfl, F₃, N₃, hN₃, ht₃, hJ₃⟩
      exact ⟨items.length + 1 - (i + 1), by omega, h₃, tk₃, m₃, news₃, i + 1, rest, rfl, ⟨io, (N₃ _ (.head _)).1, hic, hid⟩, hr1, F₃, fun p hp => N₃ p (.tail _ hp), hN₃, ht₃, hJ₃, hilt, rfl⟩
    cases f with
    | next => exact fin z
    | cont => exact fin z
    | brk => exact z
    | ret v => exact z
theorem for_list {l L : Addr} (hL : env.locals = L) {items : List Value} {m : Str → Option Value} {news : List (Addr × Obj)} (hh : A.handled = none) (hl : g.IsList l items.toArray)
    (J : List Value → (Str → Option Value) → List (Addr × Obj) → Prop) (F : Fr g L s.heap m) (N : News g L s.heap news) (htk : 1 ≤ s.toks) (h0 : J items m news)
    (turn : ∀ v rest m₁ news₁ h₁ tk₁ I iobj, (∃ d, items = d ++ v :: rest) → iobj.cls = .type "list_iterator" → J (v :: rest) m₁ news₁ → Fr g L h₁ m₁ → News g L h₁ ((I, iobj) :: news₁) → (∀ p ∈ news₁, p.1 ≠ I) → 1 ≤ tk₁ →
      wpAny (model prog w) A (assign target env v) (fun _ s₂ => wpAny (model prog w) A (execs body env) (fun f s₃ => match f with
          | .next | .cont => ForTurn g L s I iobj J rest s₃
          | .brk => Q .next s₃
          | .ret v => Q (.ret v) s₃) (fun _ _ => False) s₂) (fun _ _ => False) { s with heap := h₁, toks := tk₁ })
    (done : ∀ h' tk' m' news', J [] m' news' → Fr g L h' m' → News g L h' news' → 1 ≤ tk' → Q .next { s with heap := h', toks := tk' }) :
    ForAt prog w A E target body env Q (.ref l) s := by
  have hls : s.heap.IsList l items.toArray := islist_mono F.keep hl
  have hgI : g.get? s.heap.objs.size = none := by
    cases hq : g.get? s.heap.objs.size with
    | none => rfl
    | some o => exact absurd (Heap.lt_size (F.keep _ _ hq)) (Nat.lt_irrefl _)
  have hLI : L ≠ s.heap.objs.size := Nat.ne_of_lt F.ns.lt
  refine wpAny_pyIter_list hls ?_
  exact for_core (s := { s with heap := s.heap.push { cls := .type "list_iterator", data := .fields #[.ref l, .int 0 0] } }) hL hh hl J (F.push _) (fun p hp => ⟨Heap.get?_push_of_some _ (N p hp).1, (N p hp).2⟩) htk h0 ⟨_, Heap.get?_push_size _ rfl, rfl, rfl⟩ hgI hLI (fun p hp => Nat.ne_of_lt (Heap.lt_size (N p hp).1)) turn done
theorem for_iter {l L I : Addr} (hL : env.locals = L) {items : List Value} {m : Str → Option Value} {news : List (Addr × Obj)} {io : Obj} (hh : A.handled = none) (hl : g.IsList l items.toArray)
    (J : List Value → (Str → Option Value) → List (Addr × Obj) → Prop) (F : Fr g L s.heap m) (N : News g L s.heap ((I, io) :: news)) (hio : io.cls = .type "list_iterator" ∧ io.data = .fields #[.ref l, .int 0 0]) (hnI : ∀ p ∈ news, p.1 ≠ I) (htk : 1 ≤ s.toks) (h0 : J items m news)
    (turn : ∀ v rest m₁ news₁ h₁ tk₁ I iobj, (∃ d, items = d ++ v :: rest) → iobj.cls = .type "list_iterator" → J (v :: rest) m₁ news₁ → Fr g L h₁ m₁ → News g L h₁ ((I, iobj) :: news₁) → (∀ p ∈ news₁, p.1 ≠ I) → 1 ≤ tk₁ →
      wpAny (model prog w) A (assign target env v) (fun _ s₂ => wpAny (model prog w) A (execs body env) (fun f s₃ => match f with
          | .next | .cont => ForTurn g L s I iobj J rest s₃
          | .brk => Q .next s₃
          | .ret v => Q (.ret v) s₃) (fun _ _ => False) s₂) (fun _ _ => False) { s with heap := h₁, toks := tk₁ })
    (done : ∀ h' tk' m' news', J [] m' news' → Fr g L h' m' → News g L h' news' → 1 ≤ tk' → Q .next { s with heap := h', toks := tk' }) :
    ForAt prog w A E target body env Q (.ref I) s := by
  have hit : s.heap.IsListIter I l 0 := ⟨io, (N _ (.head _)).1, hio.1, hio.2⟩
  refine wpAny_pyIter_listiter hit ?_
  exact for_core hL hh hl J F (fun p hp => N p (.tail _ hp)) htk h0 hit (N _ (.head _)).2.2 (fun e => (N _ (.head _)).2.1 e.symm) hnI turn done
end
local macro_rules | `(tactic| walk_at "exec For") => `(tactic| (k_here; refine for_in ?_ (fun _ => rfl)))
/-! part X10 -/
theorem Fr.three {g h : Heap} {L : Addr} {m : Str → Option Value} {A B C : Str} {v1 v2 v3 v4 v5 v6 : Option Value} (F : Fr g L h (fun y => if y = A then v1 else if y = B then v2 else if y = C then v3 else if y = A then v4 else if y = B then v5 else if y = C then v6 else m y)) :
    Fr g L h (fun y => if y = A then v1 else if y = B then v2 else if y = C then v3 else m y) := by
  refine Fr.eqm F fun y => ?_
  by_cases h1 : y = A
  · simp only [if_pos h1]
  · by_cases h2 : y = B
    · simp only [if_neg h1, if_pos h2]
    · by_cases h3 : y = C
      · simp only [if_neg h1, if_neg h2, if_pos h3]
      · simp only [if_neg h1, if_neg h2, if_neg h3]
/-- what a walk may take for granted of the sizes -/
def T.Fit : T → Prop
  | .nil => True
  | .file nm bd r => nm.length ≤ 3 ∧ bd.length ≤ 6 ∧ r.Fit
  | .dir nm i r => nm.length ≤ 3 ∧ (sentL i).length ≤ 20000 ∧ i.Fit ∧ r.Fit
theorem qd_len (x : List Nat) : (qdL x).length ≤ 4 * x.length := by
  have h1 := crlf_len x
  have h2 := dots_len (crlf x) true
  unfold qdL; omega
/-- one entry of a folder, read -/
theorem rd_entry {V : Heap} {v : Value} {vs : List Value} {t : T} (x : RdAll V (v :: vs) t.es) :
    (∃ nm bd r p t1 t2, t = .file nm bd r ∧ v = .ref p ∧ IsTup V p #[.str (S nm) t1, .str (S bd) t2] ∧ RdAll V vs r.es) ∨
    (∃ nm i r p t1 a, t = .dir nm i r ∧ v = .ref p ∧ IsTup V p #[.str (S nm) t1, .ref a] ∧ Rd V (.ref a) i.py ∧ RdAll V vs r.es) := by
  cases t with
  | nil => exact nomatch x.len
  | file nm bd r =>
    obtain ⟨v', vs', e, i1, i2⟩ := x.inv
    cases e
    obtain ⟨p, ws, rfl, hT, hw⟩ := i1.inv_tuple
    obtain ⟨w1, ws, rfl, j1, hw⟩ := hw.inv
    obtain ⟨w2, ws, rfl, j2, hw⟩ := hw.inv
    obtain rfl := hw.inv_nil
    obtain ⟨t1, rfl⟩ := j1.inv_str
    obtain ⟨t2, rfl⟩ := j2.inv_str
    exact .inl ⟨nm, bd, r, p, t1, t2, rfl, rfl, hT, i2⟩
  | dir nm i r =>
    obtain ⟨v', vs', e, i1, i2⟩ := x.inv
    cases e
    obtain ⟨p, ws, rfl, hT, hw⟩ := i1.inv_tuple
    obtain ⟨w1, ws, rfl, j1, hw⟩ := hw.inv
    obtain ⟨w2, ws, rfl, j2, hw⟩ := hw.inv
    obtain rfl := hw.inv_nil
    obtain ⟨t1, rfl⟩ := j1.inv_str
    obtain ⟨a, _, rfl, _⟩ := j2.inv_list
    exact .inr ⟨nm, i, r, p, t1, a, rfl, rfl, hT, j2, i2⟩
theorem hgt_file {nm bd : List Nat} {r : T} : (T.file nm bd r).hgt = r.hgt := rfl
theorem hgt_dir {nm : List Nat} {i r : T} : (T.dir nm i r).hgt = max (i.hgt + 1) r.hgt := rfl
theorem rd_nil {V : Heap} {t : T} (x : RdAll V [] t.es) : t = .nil := by
  cases t with
  | nil => rfl
  | _ => exact nomatch x.len
theorem isi_list {prog : Program} {w : World} {A : Around} {E : Value → Shared → Prop} {s : Shared} {g : Heap} {L a : Addr} {m : Str → Option Value} {Q : Value → Shared → Prop} {ds : List PyData} (F : Fr g L s.heap m) (r : Rd g (.ref a) (.list ds))
    (h : Q (.bool false) { s with toks := s.toks + 1 }) : wpAny (model prog w) A (call (.builtin "isinstance") [.ref a, .type "str"]) Q E s := by
  obtain ⟨a', vs, e, hl, _⟩ := r.inv_list
  cases e
  obtain ⟨o, ho, hc, _⟩ := hl
  exact IsiPair.list_str (F.keep _ _ ho) hc h
theorem PSpec.useR {W : Wd} {f : Addr} {args : List Value} {d u : Nat} {x : Value} {D : PyData} {Post : Value → Prop} (S : PSpec W f args d u (fun V => Rd V x D) Post)
    {dp un : Nat} {gd : Option (List Code)} {cn : Str} {cs : Scope} {a : Addr} {ccd : Value} {cl : List (Str × Addr)} {outer : List Env} {A₀ : Around} {base g : Heap} {L : Addr} {m : Str → Option Value} {s : Shared} {news : List (Addr × Obj)}
    {Q E : Value → Shared → Prop} (B : Below A₀ base outer g) (F : Fr g L s.heap m) (X : (hd.heap_39 W.w.params).In g) (T : W.T g) (hk : cs.kind = .function) (hdp : dp + d < recursionLimit) (hun : un + u < cLine)
    (N : News g L s.heap news) (htk : 1 ≤ s.toks) (hpre : Rd g x D)
    (ret : ∀ r h' tk', Fr g L h' m → News g L h' news → s.heap.StaysIn h' → 1 ≤ tk' → Post r → Q r { s with heap := h', toks := tk' }) :
    wpAny W.M (ktrTop dp un gd cn cs L a ccd cl outer) (call (.ref f) args) Q E s :=
  PSpec.use S g B F X T hk hdp hun N F.keep htk rd_mono hpre ret
/-! part X11 -/
local macro_rules | `(tactic| walk_at "call builtin:isinstance") => `(tactic| (k_here; (with_reducible show wpAny _ _ (call _ [Value.ref _, Value.type "str"]) _ _ _); refine isi_list (by k_asm) (by with_reducible assumption) ?_; (try dsimp only)))
local macro_rules | `(tactic| walk_at "call ref") => `(tactic| (k_here; (with_reducible show wpAny _ _ (call (Value.ref 55) [Value.str _ _]) _ _ _); refine' PSpec.use0 (qd_spec _ _ _ ?la) ?B ?F ?X ?T ?hk ?hd ?hu ?N ?ht ?_; (case la => omega); tb_rel; (intro r' h' tk' F' N' st' ht' po'; obtain ⟨t9, po'⟩ := po'; subst po'; (try dsimp only))))
local macro_rules | `(tactic| walk_at "call ref") => `(tactic| (k_here; (with_reducible show wpAny _ _ (call (Value.ref 193) [Value.ref _]) _ _ _); (with_reducible rename PSpec _ _ _ _ _ _ _ => hS'); refine' PSpec.useR hS' ?B ?F ?X ?T ?hk ?hd ?hu ?N ?ht ?hpre ?_; (case hpre => with_reducible assumption); tb_rel; (intro r' h' tk' F' N' st' ht' po'; obtain ⟨t9, po'⟩ := po'; subst po'; (try dsimp only))))
theorem three0 {m : Str → Option Value} {A B C : Str} {a : Option Value} : (fun y => if y = A then a else m y) = fun y => if y = A then a else if y = B then m B else if y = C then m C else m y := by
  funext y
  by_cases h1 : y = A
  · simp only [if_pos h1]
  · by_cases h2 : y = B
    · simp only [if_neg h1, if_pos h2]; rw [h2]
    · by_cases h3 : y = C
      · simp only [if_neg h1, if_neg h2, if_pos h3]; rw [h3]
      · simp only [if_neg h1, if_neg h2, if_neg h3]
def SentJ (g : Heap) (t0 : T) (n : Nat) (v : Value) (rest : List Value) (m : Str → Option Value) (_ : List (Addr × Obj)) : Prop :=
  ∃ (r : T) (acc : List Nat) (ta : Tok) (v1 v2 : Option Value), RdAll g rest r.es ∧ r.Fit ∧ r.hgt ≤ n ∧ acc ++ sentL r = sentL t0 ∧
    m = fun y => if y = Str.ofString "written" then some (.str (S acc) ta) else if y = Str.ofString "inside" then v1 else if y = Str.ofString "name" then v2 else List.lookup y [(Str.ofString "entries", v)].reverse
set_option maxHeartbeats 4000000 in
theorem sent_step (W : Wd) (n : Nat) (ih : ∀ (i : T) (v : Value), i.hgt + 1 ≤ n → i.Fit → (sentL i).length ≤ 20000 → PSpec W 193 [v] (i.hgt + 2) (3 * i.hgt + 6) (fun V => Rd V v i.py) (fun r => ∃ t', r = .str (S (sentL i)) t'))
    (t0 : T) (v : Value) (hn : t0.hgt ≤ n) (hf : t0.Fit) (hl : (sentL t0).length ≤ 20000) : PSpec W 193 [v] (n + 2) (3 * n + 6) (fun V => Rd V v t0.py) (fun r => ∃ t', r = .str (S (sentL t0)) t') := by
  refine' Spec.intro (binds := [(Str.ofString "entries", v)]) ?ho ?hcd ?hbind ?hloc (by omega) (by omega) ?hcell ?hco ?hgen ?hk ?hb
  tb_start
  intro dp un gd outer A₀ base L h₁ tk hid s Q B F X T hdp hun htk hal hpre hret
  have hdp1 : dp + 1 < recursionLimit := by omega
  have hun1 : un + 3 < cLine := by omega
  have N : News s.heap L h₁ [] := news0
  obtain ⟨ea, items, rfl, hea, hit⟩ := hpre.inv_list
  have hea' : s.heap.IsList ea items.toArray := islist_mono of_hide_stays hea
  k_steps
  rename Fr _ _ _ _ => F9
  rename 1 ≤ _ => k9
  have hit' : RdAll s.heap items t0.es := hit.mono of_hide_stays
  refine for_list rfl rfl hea' (SentJ s.heap t0 n (.ref ea)) F9 (by with_reducible assumption) k9 ⟨t0, [], _, _, _, hit', hf, hn, rfl, three0⟩ ?_ ?_
  · clear F9 k9
    rintro v rest m₁ news₁ h₁ tk₁ I iobj _ _ ⟨r, acc, ta, v1, v2, hr, hfr, hhr, hacc, rfl⟩ F9 N9 hI k9
    have hlen := congrArg List.length hacc
    rw [List.length_append] at hlen
    rcases rd_entry hr with ⟨nm, bd, r, p, t1, t2, rfl, rfl, hT, hr⟩ | ⟨nm, i, r, p, t1, a, rfl, rfl, hT, hi, hr⟩
    · obtain ⟨f1, f2, f3⟩ := hfr
      have e1 := qd_len bd
      rw [hgt_file] at hhr
      k_steps
      rename Fr _ _ _ _ => F8
      have F7 := Fr.three F8
      simp only [S_cat] at F7
      refine ⟨_, _, _, news₁, rfl, F7, by with_reducible assumption, hI, by first | assumption | (dsimp only; omega), r, _, _, _, _, hr, f3, hhr, ?_, rfl⟩
      · rw [← hacc]; simp only [sentL, List.append_assoc]
    · obtain ⟨f1, f2, f3, f4⟩ := hfr
      rw [hgt_dir] at hhr
      have e1 := qd_len (sentL i)
      have hi' : Rd s.heap (.ref a) (.list i.es) := hi
      have hS := ih i (.ref a) (by omega) f3 f2
      k_steps
      rename Fr _ _ _ _ => F8
      have F7 := Fr.three F8
      simp only [S_cat] at F7
      refine ⟨_, _, _, news₁, rfl, F7, by with_reducible assumption, hI, by first | assumption | (dsimp only; omega), r, _, _, _, _, hr, f4, by omega, ?_, rfl⟩
      · rw [← hacc]; simp only [sentL, List.append_assoc]
  · clear F9 k9
    rintro h₁ tk₁ m₁ news₁ ⟨r, acc, ta, v1, v2, hr, hfr, hhr, hacc, rfl⟩ F9 N9 k9
    obtain rfl := rd_nil hr
    simp only [sentL, List.append_nil] at hacc
    subst hacc
    k_steps
    all_goals exact hret _ _ _ (Fr.keep (by with_reducible assumption)) ⟨_, rfl⟩
theorem sent_all (W : Wd) (n : Nat) : ∀ (t : T) (v : Value), t.hgt ≤ n → t.Fit → (sentL t).length ≤ 20000 → PSpec W 193 [v] (t.hgt + 2) (3 * t.hgt + 6) (fun V => Rd V v t.py) (fun r => ∃ t', r = .str (S (sentL t)) t') := by
  induction n with
  | zero => exact fun t v h f l => sent_step W t.hgt (fun i v h' => absurd h' (by omega)) t v (Nat.le_refl _) f l
  | succ n ih => exact fun t v h f l => sent_step W t.hgt (fun i v h' f' l' => ih i v (by omega) f' l') t v (Nat.le_refl _) f l
theorem sent_spec (W : Wd) (t : T) (v : Value) (f : t.Fit) (l : (sentL t).length ≤ 20000) : PSpec W 193 [v] (t.hgt + 2) (3 * t.hgt + 6) (fun V => Rd V v t.py) (fun r => ∃ t', r = .str (S (sentL t)) t') := sent_all W t.hgt t v (Nat.le_refl _) f l
/-! part B7 -/
/-- a def with one cell -/
theorem Spec.introC {W : Wd} {f : Addr} {args : List Value} {d u : Nat} {Pre : Heap → Prop} {Post : Heap → Value → Prop}
    {name qual : Str} {params : Arguments} {body : List Stmt} {scope : Scope} {dV kV doc pm cdv ct oc : Value} {an od : Option Addr} {osl : Array (Option Value)} {binds : List (Str × Value)} {x : Str} {xv : Value} {m0 : Str → Option Value}
    (ho : (hd.heap_39 W.w.params).lookup f = some ⟨oc, od, .func (fnOf name qual params body scope dV kV doc pm an cdv ct), osl⟩)
    (hcd : codeIn (hd.heap_39 W.w.params) cdv qual = true)
    (hbind : ∀ s : Shared, (hd.heap_39 W.w.params).In s.heap → BindsTo s (fnOf name qual params body scope dV kV doc pm an cdv ct) ⟨args, []⟩ binds)
    (hkind : (binds.all fun y => scope.names.lookup y.1 == some .local || scope.names.lookup y.1 == some .cell) = true)
    (hcl : ∀ n, cellsFrom n scope.names [] = [(x, n)])
    (hm0 : ∀ L, bindL (envX qual scope L f cdv (cellsFrom (L + 1) scope.names [])).kindOf binds (fun _ => none) = m0)
    (hxv : ∀ L, bindC (envX qual scope L f cdv (cellsFrom (L + 1) scope.names [])).kindOf binds (fun _ => none) x = some xv)
    (hd1 : 1 ≤ d) (hu : 3 ≤ u)
    (hco : scope.isCoroutine = false) (hgen : scope.isGenerator = false) (hk : scope.kind = .function)
    (hb : ∀ (dp un : Nat) (gd : Option (List Code)) (outer : List Env) (A₀ : Around) (base : Heap) (L C : Addr) (co : Obj) (h₁ : Heap) (tk : Nat) (hid : List Addr) (s : Shared) (Q : Value → Shared → Prop),
      Below A₀ base outer s.heap → Fr s.heap L h₁ m0 → News s.heap L h₁ [(C, co)] → co.data = .cell (some xv) → (hd.heap_39 W.w.params).In s.heap → W.T s.heap → dp + (d - 1) < recursionLimit → un + (u - 3) < cLine → 1 ≤ tk → (∀ a ∈ hid, (s.heap.get? a).isSome = true) → Pre (hideAll s.heap hid) →
      (∀ r h' tk', s.heap.StaysIn h' → Post (hideAll h' hid) r → Q r { s with heap := h', toks := tk' }) →
      wpAny W.M (ktrTop dp un gd qual scope L f cdv [(x, C)] outer) (execs body (envX qual scope L f cdv [(x, C)]))
        (fun fl s' => Q (match fl with | .ret v => v | _ => .none) s') (fun _ _ => False) { s with heap := h₁, toks := tk }) :
    Spec W f args d u Pre Post := by
  intro dp un gd cn cs a ccd cl outer A₀ base h₀ L m hid s Q E B F X T hkc hdp hun htk hal hpre hret
  refine wpAny_call ?_
  have X' : (hd.heap_39 W.w.params).In s.heap := X.keeps F.keep
  have T' : W.T s.heap := T.keeps F.keep
  have B' : Below (A₀.deeper (envX cn cs L a ccd cl)) base (envX cn cs L a ccd cl :: outer) s.heap := pushX B F rfl hkc
  refine codeAny_call_function (fd := fnOf name qual params body scope dV kV doc pm an cdv ct) (body := body) (by show dp < recursionLimit; omega) (X' _ _ ho) rfl hco hgen rfl (codeRec_of X' hcd) ?_
  refine hbind s X' _ _ _ _ ?_
  refine wpAny_toks (n := 1) htk ?_
  refine wpAny_newFunctionEnv_cells hk (kindsX hkind _) fun env' he s' z ht => ?_
  subst he
  refine ⟨T'.nolimit.keeps z.toInCall.keep, codeAny_func ?_⟩
  obtain ⟨h₁, tk, rfl⟩ := z.toInCall.same
  have hL : s.heap.objs.size ≤ s.heap.objs.size := Nat.le_refl _
  have z1 := hm0 s.heap.objs.size
  have z2 := hxv s.heap.objs.size
  have F' : Fr s.heap s.heap.objs.size h₁ m0 := ⟨by rw [← z1]; exact z.toInCall.ns, z.toInCall.keep, Nat.le_refl _⟩
  obtain ⟨co, hco', hcd'⟩ := z.cell x (s.heap.objs.size + 1) (by show (cellsFrom (s.heap.objs.size + 1) scope.names []).lookup x = _; rw [hcl, List.lookup_cons, beq_self_eq_true])
  have N' : News s.heap s.heap.objs.size h₁ [(s.heap.objs.size + 1, co)] := fun p hp => by
    rw [List.mem_singleton.mp hp]
    exact ⟨hco', Nat.succ_ne_self _, Heap.get?_none_of_le (Nat.le_succ _)⟩
  have key := hb (dp + 1) (un + 3) gd (envX cn cs L a ccd cl :: outer) _ base s.heap.objs.size (s.heap.objs.size + 1) co h₁ tk hid s (fun v s' => 1 ≤ s'.toks → Q v s') B' F' N' (by rw [hcd']; exact congrArg _ z2) X' T' (by omega) (by omega) ht hal hpre fun r h' tk' st post ht => hret r h' tk' st ht post
  rw [← hcl (s.heap.objs.size + 1)] at key
  exact wpAny_toks (n := 1) ht (wpAny_mono key (fun fl s' q ht' => q ht') fun _ _ e => e.elim)
/-! part B8 -/
def StrTo (f : List Nat → List Nat) (v y : Value) : Prop := ∃ row t t', v = .str (S row) t ∧ y = .str (S (f row)) t'
def CompAt (f : List Nat → List Nat) (prog : Program) (w : World) (A : Around) (E : Value → Shared → Prop) (env : Env) (scope : Scope) (cl : List (Str × Addr)) (x : Str) (elt : PySem.Expr) (Q : Value → Shared → Prop) (xv : Value) (s₁ : Shared) : Prop :=
  wpAny (model prog w) A (pyIter xv) (fun it s₂ => ∃ I fp wr n P St, it = .ref I ∧ Walks prog w A I fp wr n P St ∧ n ≤ sizeLine ∧ St 0 s₂.heap ∧ (∀ b ∈ fp, b < s₂.heap.objs.size) ∧
      QuietOnC prog w A env scope cl x [] elt wr P (fun _ => true) (StrTo f) s₂ ∧
      (∀ D h' tk ys (vs : List Value), s₂.heap.get? D = none → h'.IsList D ys → h'.PlainList D ys → vs.length = n → (∀ j v, vs[j]? = some v → P j v) → Paired (StrTo f) vs ys.toList →
        (∀ b o, b ∉ wr → s₂.heap.get? b = some o → h'.get? b = some o) → 1 ≤ tk → Q (.ref D) { s₂ with heap := h', toks := tk })) E s₁
theorem filter_true {α : Type} (l : List α) : l.filter (fun _ => true) = l := by simp
section
variable {prog : Program} {w : World} {A : Around} {E : Value → Shared → Prop} {env : Env}
theorem comp_in (f : List Nat → List Nat) {s : Shared} {elt iter : PySem.Expr} {x : Str} {px : Pos} {scope : Scope} {cl : List (Str × Addr)} {pos : Pos} {Q : Value → Shared → Prop} (h0 : 1 ≤ s.toks)
    (hclos : closureFor scope env = pure cl) (hcell : ∀ y ∈ scope.names, y.2 ≠ .cell) (hkind : scope.kind = .function)
    (hnames : ∀ y ∈ scope.names, y.2 = .local → scope.names.lookup y.1 = some .local) (hx : scope.names.lookup x = some .local)
    (hs : ∀ x, foldedSetIterable iter env x = pure x)
    (h : wpAny (model prog w) A (eval iter env) (fun xv s₁ => CompAt f prog w A E env scope cl x elt Q xv s₁) E s) :
    wpAny (model prog w) A (eval (.ListComp elt [⟨.Name x px, iter, [], 0⟩] scope pos) env) Q E s := by
  refine wpAny_toks (n := 1) h0 ?_
  refine wpAny_ListComp_free (cl := cl) (fun _ => true) (StrTo f) hclos hcell hkind hnames hx (wpAny_mono h (fun xv s₁ q => wpAny_mono q (fun it s₂ z => ?_) fun _ _ e => e) fun _ _ e => e) hs
  obtain ⟨I, fp, wr, n, P, St, a, b, c, d, e, f', g⟩ := z
  exact ⟨I, fp, wr, n, P, St, a, b, c, d, e, f', fun D h' tk ys vs h1 h2 h3 h4 h5 h6 h7 h8 => g D h' tk ys vs h1 h2 h3 h4 h5 (filter_true vs ▸ h6) h7 h8⟩

theorem strs_of {h : Heap} : ∀ {vs : List Value} {rows : Rows}, RdAll h vs (rows.map fun l => .str (S l)) → ∀ {i : Nat} {v : Value}, vs[i]? = some v → ∃ row t, row ∈ rows ∧ v = .str (S row) t
  | [], _, _, _, _, e => by simp at e
  | v :: vs, [], x, _, _, _ => nomatch x.len
  | v :: vs, r :: rows, x, i, v', e => by
    obtain ⟨_, _, e1, i1, i2⟩ := x.inv
    cases e1
    cases i with
    | zero =>
      simp at e; subst e
      obtain ⟨t, rfl⟩ := i1.inv_str
      exact ⟨r, t, .head _, rfl⟩
    | succ i =>
      obtain ⟨row, t, hm, e'⟩ := strs_of i2 (i := i) (v := v') (by simpa using e)
      exact ⟨row, t, .tail _ hm, e'⟩
theorem strs_any {h : Heap} : ∀ {vs : List Value} {rows : Rows}, RdAll h vs (rows.map fun l => .str (S l)) → ∀ V : Heap, RdAll V vs (rows.map fun l => .str (S l))
  | [], [], _, _ => .nil
  | [], _ :: _, x, _ => nomatch x.len
  | _ :: _, [], x, _ => nomatch x.len
  | v :: vs, r :: rows, x, V => by
    obtain ⟨_, _, e1, i1, i2⟩ := x.inv
    cases e1
    obtain ⟨t, rfl⟩ := i1.inv_str
    exact .cons .str (strs_any i2 V)
theorem paired_strs {h : Heap} {f : List Nat → List Nat} : ∀ {vs ys : List Value} {rows : Rows}, RdAll h vs (rows.map fun l => .str (S l)) → Paired (StrTo f) vs ys → ∀ V : Heap, RdAll V ys ((rows.map f).map fun l => .str (S l))
  | [], _, [], _, .nil, _ => .nil
  | _ :: _, _, r :: rows, x, .cons a b, V => by
    obtain ⟨_, _, e1, i1, i2⟩ := x.inv
    cases e1
    obtain ⟨t, e2⟩ := i1.inv_str
    obtain ⟨row, t1, t2, e3, rfl⟩ := a
    rw [e2] at e3
    have e4 : S r = S row := by injection e3
    rw [S_inj e4]
    exact .cons .str (paired_strs i2 b V)
  | [], _, _ :: _, x, _, _ => nomatch x.len
  | _ :: _, _, [], x, _, _ => nomatch x.len
def EltOk (f : List Nat → List Nat) (row : List Nat) (s₃ : Shared) (y : Value) (s₄ : Shared) : Prop := (∃ t', y = .str (S (f row)) t') ∧ Keeps s₃ s₄
theorem comp_rows {f : List Nat → List Nat} {s : Shared} {scope : Scope} {cl : List (Str × Addr)} {x : Str} {elt : PySem.Expr} {Q : Value → Shared → Prop} {g : Heap} {L l : Addr} {m : Str → Option Value} {news : List (Addr × Obj)} {items : List Value} {rows : Rows}
    (hh : A.handled = none) (F : Fr g L s.heap m) (N : News g L s.heap news) (ht : 1 ≤ s.toks) (hl : s.heap.IsList l items.toArray) (hr : RdAll s.heap items (rows.map fun l => .str (S l))) (hsz : rows.length ≤ sizeLine)
    (helt : ∀ C s₃ m₃ row t E', row ∈ rows → Fr g L s₃.heap m → News g L s₃.heap news → 1 ≤ s₃.toks → s₃.heap.Ns C m₃ → m₃ x = some (.str (S row) t) →
      wpAny (model prog w) A (eval elt (compEnvC scope cl C env)) (fun y s₄ => EltOk f row s₃ y s₄) E' s₃)
    (hq : ∀ D ys k h' tk, Fr g L h' m → News g L h' ((D, listOf ys k) :: news) → (∀ V : Heap, RdAll V ys.toList ((rows.map f).map fun l => .str (S l))) → (∀ p ∈ news, p.1 ≠ D) → 1 ≤ tk → Q (.ref D) { s with heap := h', toks := tk }) :
    CompAt f prog w A E env scope cl x elt Q (.ref l) s := by
  have hlt : l < s.heap.objs.size := by obtain ⟨_, e, _⟩ := hl; exact Heap.lt_size e
  have gl : g.objs.size < s.heap.objs.size := Nat.lt_of_le_of_lt F.above F.ns.lt
  refine wpAny_pyIter_list hl ?_
  have gN : ∀ a, s.heap.objs.size ≤ a → g.get? a = none := fun a ha => Heap.get?_none_of_le (Nat.le_trans (Nat.le_of_lt gl) ha)
  have old : ∀ b o, s.heap.get? b = some o → b ≠ s.heap.objs.size := fun b o e => Nat.ne_of_lt (Heap.lt_size e)
  have next : ∀ h₁ : Heap, (∀ b o, b ∉ [s.heap.objs.size] → (s.heap.push { cls := .type "list_iterator", data := .fields #[.ref l, .int 0 0] }).get? b = some o → h₁.get? b = some o) → Fr g L h₁ m ∧ News g L h₁ news := fun h₁ hk₁ => by
    have k : s.heap.StaysIn h₁ := fun b o e => hk₁ b o (fun q => old b o e (List.mem_singleton.mp q)) (Heap.get?_push_of_some _ e)
    exact ⟨F.keeps k, fun p hp => ⟨k _ _ (N p hp).1, (N p hp).2⟩⟩
  have hlen : items.length = rows.length := by rw [hr.len, List.length_map]
  refine ⟨s.heap.objs.size, [s.heap.objs.size, l], [s.heap.objs.size], items.toArray.size, _, _, rfl, Walks.list hh _ l (Nat.ne_of_lt hlt) items.toArray, by rw [List.size_toArray, hlen]; exact hsz,
    ⟨⟨_, Heap.get?_push_size _ rfl, rfl, rfl⟩, hl.at fun o e => Heap.get?_push_of_some _ e⟩, ?_, ⟨?_, ?_⟩, ?_⟩
  · intro b hb
    rw [Heap.size_push]
    rcases List.mem_cons.mp hb with rfl | hb
    · exact Nat.lt_succ_self _
    · rw [List.mem_singleton.mp hb]; exact Nat.lt_succ_of_lt hlt
  · intro C i v s₃ m₃ E' _ _ _ _ _ _
    rw [List.forIn_nil]
    exact wpAny_pure ⟨rfl, _, _, rfl, fun _ _ e => e⟩
  · intro C i v s₃ m₃ E' hC hP _ hn hm hk htk
    obtain ⟨row, t, hrow, rfl⟩ := strs_of hr (i := i) (v := v) (by simpa using hP)
    obtain ⟨F₁, N₁⟩ := next s₃.heap hk
    exact wpAny_mono (helt C s₃ m₃ row t E' hrow F₁ N₁ (Nat.le_trans ht htk) hn hm) (fun y s₄ q => ⟨let ⟨t', e⟩ := q.1; ⟨row, t, t', rfl, e⟩, q.2⟩) fun _ _ e => e
  · intro D h' tk ys vs hD hL hpl hlen' hP hp hk ht'
    obtain ⟨F₁, N₁⟩ := next h' hk
    have hvs : vs = items := by
      apply List.ext_getElem?
      intro j
      by_cases hj : j < vs.length
      · have e1 : vs[j]? = some vs[j] := List.getElem?_eq_getElem hj
        have e2 := hP j _ e1
        rw [e1]; simpa using e2.symm
      · have : items.length ≤ j := by rw [List.size_toArray] at hlen'; omega
        rw [List.getElem?_eq_none (by omega), List.getElem?_eq_none this]
    subst hvs
    have hDs : s.heap.get? D = none := by
      cases q : s.heap.get? D with
      | none => rfl
      | some o => rw [Heap.get?_push_of_some _ q] at hD; cases hD
    obtain ⟨k, hk'⟩ := hpl
    refine hq D ys k h' tk F₁ (fun p hp' => ?_) (paired_strs hr hp) (fun p hp' e => ?_) ht'
    · rcases List.mem_cons.mp hp' with rfl | hp'
      · refine ⟨hk', ⟨fun e => ?_, ?_⟩⟩
        · obtain ⟨o, _, _, ho, _⟩ := F.ns
          rw [← (show D = L from e), hDs] at ho; cases ho
        · cases q : g.get? D with
          | none => rfl
          | some o => have := F.keep _ _ q; rw [hDs] at this; cases this
      · exact N₁ p hp'
    · have := (N p hp').1
      rw [e, hDs] at this; cases this
end
section
variable {M : Model} {A : Around} {E : Value → Shared → Prop} {s : Shared} {scope : Scope} {cl : List (Str × Addr)} {C c : Addr} {env : Env} {x : Str} {pos : Pos} {v : Value} {Q : Value → Shared → Prop} {m : Str → Option Value}
theorem nameC_L (hn : s.heap.Ns C m) (hv : m x = some v) (hk : scope.kind = .function) (hx : (compEnvC scope cl C env).kindOf x = some .local) (hd : (x == ("__debug__" : Str)) = false) (h : Q v s) : wpAny M A (eval (.Name x pos) (compEnvC scope cl C env)) Q E s :=
  wpAny_Name (wpAny_loadName_local (env := compEnvC scope cl C env) hk hx hn hv h) hd
theorem nameC_C {g : Heap} {L : Addr} {o : Obj} {news : List (Addr × Obj)} (N : News g L s.heap news) (hc : cl.lookup x = some c) (hm : (c, o) ∈ news) (hd : o.data = .cell (some v)) (hk : scope.kind = .function) (hx : (compEnvC scope cl C env).kindOf x = some .cell) (hb : (x == ("__debug__" : Str)) = false) (h : Q v s) :
    wpAny M A (eval (.Name x pos) (compEnvC scope cl C env)) Q E s := wpAny_Name (wpAny_loadName_cell (env := compEnvC scope cl C env) hk hx hc ⟨o, N.get hm, hd⟩ h) hb
end
local macro_rules | `(tactic| walk_at "eval ListComp") => `(tactic| (k_here; refine stop ?_))
/-! part B9 -/
theorem ext_meets (l : Addr) (items : Array Value) (n : Nat) (b : Addr) (items2 : Array Value) (n2 : Nat) (dct : Option Addr) (sl : Array (Option Value)) (hc0 : ¬(!items.isEmpty && Builtin.List.listTooLong (items.size + items2.size)) = true) (hc1 : items.size ≤ sizeLine) (hs2 : items.size + items2.size ≤ sizeLine + 1) :
    Meets (Builtin.«list.extend» ⟨[.ref l, .ref b], []⟩) (fun _ R s => s.heap.get? l = some { cls := .type "list", dict := none, data := .seq items n, slots := #[] } ∧ s.heap.get? b = some { cls := .type "list", dict := dct, data := .seq items2 n2, slots := sl } ∧ R (.ok (.ret Value.none)) { s with heap := s.heap.update l (Obj.mapSeq fun x => x ++ items2), toks := s.toks }) :=
  .of_wp fun prog w A R s h => by
    obtain ⟨hp, g, d, tk, os⟩ := s; obtain ⟨hl, hb, h⟩ := h; have f1 := PySem.AutoSeq1.idx_int; have f2 := PySem.AutoSeq1.sub_tuple_tuple; have f3 := PySem.AutoSeq1.sub_list_list; have f4 := PySem.AutoSeq1.sub_tuple_list; have f5 := PySem.AutoSeq1.sub_list_tuple;
    have hz' : (items ++ items2).size ≤ sizeLine + 1 := by rw [Array.size_append]; exact hs2
    wp_walk using (wpAny_updateSeq hl rfl (hz := hc1) (_hz' := hz')), PySem.AutoSeq1.wpAny_loadPart' hl, PySem.AutoSeq1.wpAny_loadPart' hb; exact ⟨_, rfl, h⟩
section
variable {prog : Program} {w : World} {A : Around} {E : Value → Shared → Prop} {s : Shared} {g : Heap} {L D b : Addr} {m : Str → Option Value} {news : List (Addr × Obj)} {gg : Obj → List (Addr × Obj)} {its its2 : List Value} {n : Nat}
theorem short_ok {a b : Nat} (h : a + b ≤ 100000) : Builtin.List.listTooLong (a + b) = false := by
  unfold Builtin.List.listTooLong; rw [decide_eq_false_iff_not]; simp only [sizeLine_eq]; omega
theorem extend_L {Q : Value → Shared → Prop} (F : Fr g L s.heap m) (N : News g L s.heap news) (U : UpdF D (listOf its.toArray n) news gg) (hb : s.heap.IsList b its2.toArray) (hz : its.length + its2.length ≤ 100000)
    (h : ∀ h' k, Fr g L h' m → News g L h' (gg (listOf (its ++ its2).toArray k)) → Q .none { s with heap := h' }) : wpAny (model prog w) A (call (.builtin "list.extend") [.ref D, .ref b]) Q E s := by
  obtain ⟨pre, post, rfl, hg, a, c⟩ := U.split
  have z := N (D, listOf its.toArray n) (List.mem_append.mpr (.inr (.head _)))
  obtain ⟨⟨oc, od, odt, osl⟩, ho, hcl, n2, hd⟩ := hb
  simp only at hcl hd
  subst hcl hd
  have up := PySem.IsL.update z.1 (fun x => x ++ its2.toArray)
  refine call_meets PySem.F.slot_list_extend ⟨_, z.1, rfl⟩ PySem.F.entry_list_extend (PySem.F.args_list_extend_2 _ _) (ext_meets D its.toArray n b its2.toArray n2 od osl ?_ ?_ ?_) ⟨z.1, ho, h _ (if (its.toArray ++ its2.toArray).size == its.toArray.size then n else n + 1) (F.change (Heap.SameBut.update ..) z.2.1 z.2.2) ?_⟩
  · rw [List.size_toArray, List.size_toArray, short_ok hz, Bool.and_false]; decide
  · rw [List.size_toArray, sizeLine_eq]; omega
  · rw [List.size_toArray, List.size_toArray, sizeLine_eq]; omega
  · rw [hg]
    refine news_set N a c (Heap.SameBut.update ..) ?_
    rw [List.append_toArray] at up
    simpa using up
theorem append_L {Q : Value → Shared → Prop} {x : Value} (F : Fr g L s.heap m) (N : News g L s.heap news) (U : UpdF D (listOf its.toArray n) news gg) (hz : its.length ≤ 100000)
    (h : ∀ h' k, Fr g L h' m → News g L h' (gg (listOf (its ++ [x]).toArray k)) → Q .none { s with heap := h' }) : wpAny (model prog w) A (call (.builtin "list.append") [.ref D, x]) Q E s := by
  obtain ⟨pre, post, rfl, hg, a, c⟩ := U.split
  have z := N (D, listOf its.toArray n) (List.mem_append.mpr (.inr (.head _)))
  refine append_at z.1 (fun h' hs ho => h h' (n + 1) (F.change hs z.2.1 z.2.2) ?_) (by rw [List.size_toArray, sizeLine_eq]; omega)
  rw [hg]
  exact news_set N a c hs (by rw [ho, List.push_toArray])
end
local macro_rules | `(tactic| walk_at "call builtin:list.append") => `(tactic| (k_here; refine' append_L ?F ?N ?U ?z ?_; (case F => k_asm); (case N => k_asm); (case U => k_updF); (case z => ((try simp only [List.length_append, List.length_cons, List.length_nil]); omega)); intro h' k' F' N'; (try dsimp only at N')))
local macro_rules | `(tactic| walk_at "call builtin:list.extend") => `(tactic| (k_here; refine' extend_L ?F ?N ?U ?b ?z ?_; (case F => k_asm); (case N => k_asm); (case U => k_updF); (case b => krn_off); (case z => ((try simp only [List.length_append, List.length_cons, List.length_nil]); omega)); intro h' k' F' N'; (try dsimp only at N')))
/-! part P5 -/
theorem splitG_size {y : List Nat} (hy : y ≠ []) : ∀ (n : Nat) (x : List Nat), (splitG y n x).length ≤ x.length + 1 ∧ ∀ p ∈ splitG y n x, p.length ≤ x.length := by
  intro n
  induction n with
  | zero => intro x; exact ⟨by simp [splitG], fun p hp => by rw [List.mem_singleton.mp hp]; exact Nat.le_refl _⟩
  | succ n ih =>
    intro x
    cases x with
    | nil => exact ⟨by simp [splitG], fun p hp => by rw [List.mem_singleton.mp hp]; exact Nat.le_refl _⟩
    | cons c r =>
      rw [splitG]
      split
      · obtain ⟨h1, h2⟩ := ih ((c :: r).drop y.length)
        have hy' : 0 < y.length := List.length_pos_iff.mpr hy
        rw [List.length_drop] at h1 h2
        simp only [List.length_cons] at h1 h2 ⊢
        refine ⟨by omega, fun p hp => ?_⟩
        rcases List.mem_cons.mp hp with rfl | hp
        · exact Nat.zero_le _
        · have := h2 p hp; omega
      · obtain ⟨h1, h2⟩ := ih r
        obtain ⟨p, ps, e⟩ := splitG_ne y n r
        rw [e] at h1 h2 ⊢
        simp only [consHd, List.length_cons] at h1 h2 ⊢
        refine ⟨by omega, fun q hq => ?_⟩
        rcases List.mem_cons.mp hq with rfl | hq
        · have := h2 p (.head _); simp; exact this
        · have := h2 q (.tail _ hq); omega
theorem rowsL_size (x : List Nat) : (rowsL x).length ≤ x.length + 1 ∧ ∀ p ∈ rowsL x, p.length ≤ x.length := by
  obtain ⟨h1, h2⟩ := splitG_size (y := [10]) (by decide) ((repl2 (repl1 x)).length + 1) (repl2 (repl1 x))
  have e1 := repl1_len x
  have e2 := repl2_len (repl1 x)
  exact ⟨Nat.le_trans h1 (by omega), fun p hp => Nat.le_trans (h2 p hp) (by omega)⟩
/-! part X12 -/
theorem lifted_specI (W : Wd) {x : Str} {row : List Nat} (e : x = S row) (i : Int) (t t2 : Tok) (h0 : 0 ≤ i) (h1 : i ≤ 100) (hr : row.length ≤ 100000) :
    PSpec W 207 [.str x t, .int i t2] 1 3 (fun _ => True) (fun v => ∃ t', v = .str (S (liftL i.toNat row)) t') := by
  subst e
  obtain ⟨d, rfl⟩ := Int.eq_ofNat_of_zero_le h0
  exact lifted_spec W row d t t2 (by omega) hr
local macro_rules | `(tactic| walk_at "call ref") => `(tactic| (k_here; (with_reducible show wpAny _ _ (call (Value.ref 207) [Value.str _ _, Value.int _ _]) _ _ _); refine' PSpec.use0 (lifted_specI _ ?e _ _ _ ?l0 ?l1 ?la) ?B ?F ?X ?T ?hk ?hd ?hu ?N ?ht ?_; (case e => first | exact S_cat _ _ | exact rfl); (case l0 => omega); (case l1 => omega); (case la => ktr_room); tb_rel; (intro r' h' tk' F' N' st' ht' po'; obtain ⟨t9, po'⟩ := po'; subst po'; (try dsimp only))))
local macro_rules | `(tactic| walk_at "call ref") => `(tactic| (k_here; (with_reducible show wpAny _ _ (call (Value.ref 200) [Value.str _ _]) _ _ _); refine' Spec.use1 (rows_spec _ _ _ ?la) [] ?B ?F ?X ?T ?hk ?hd ?hu ?N ?ht ?hal ?hpre ?_; (case la => ktr_room); tb_rel; (case hal => exact fun _ h9 => nomatch h9); (case hpre => exact True.intro); (intro r' h' tk' F' N' st' ht' po'; obtain ⟨a9, v9, e9, T9, R9⟩ := Rd.inv_list po'; clear po'; subst e9; (try dsimp only))))
theorem rd_in {g h : Heap} {L : Addr} {m : Str → Option Value} {v : Value} {d : PyData} (F : Fr g L h m) (r : Rd g v d) : Rd (hideAll h []) v d :=
  r.mono fun _ _ e => hideAll_get _ (F.keep _ _ e) (fun q => nomatch q)
local macro_rules | `(tactic| walk_at "call ref") => `(tactic| (k_here; (with_reducible show wpAny _ _ (call (Value.ref 212) [Value.ref _, Value.int _ _]) _ _ _); (with_reducible rename (∀ _ : Tok, Spec _ _ _ _ _ _ _) => hS'); refine' Spec.use1 (hS' _) [] ?B ?F ?X ?T ?hk ?hd ?hu ?N ?ht ?hal ?hpre ?_; tb_rel; (case hal => exact fun _ h9 => nomatch h9); (case hpre => exact rd_in (by k_asm) (by with_reducible assumption)); (intro r' h' tk' F' N' st' ht' po'; obtain ⟨a9, v9, e9, T9, R9⟩ := Rd.inv_list po'; clear po'; subst e9; have L9 := RdAll.len R9; simp only [List.length_map] at L9; (try dsimp only))))
local macro_rules | `(tactic| krn_off) => `(tactic| exact islist_mono of_hide_stays (by with_reducible assumption))
theorem two0 {m : Str → Option Value} {A B : Str} : m = fun y => if y = A then m A else if y = B then m B else m y := by
  funext y
  by_cases h1 : y = A
  · rw [if_pos h1, h1]
  · by_cases h2 : y = B
    · rw [if_neg h1, if_pos h2, h2]
    · rw [if_neg h1, if_neg h2]
def ToldJ (g : Heap) (t0 : T) (d n : Nat) (C : Addr) (co : Obj) (Tl : Addr) (m0 : Str → Option Value) (rest : List Value) (m : Str → Option Value) (news : List (Addr × Obj)) : Prop :=
  ∃ (r : T) (acc : Rows) (vs : List Value) (k : Nat) (v1 v2 : Option Value), RdAll g rest r.es ∧ r.Fit ∧ r.hgt ≤ n ∧ acc ++ toldL r d = toldL t0 d ∧ (∀ V : Heap, RdAll V vs (acc.map fun l => .str (S l))) ∧
    (m = fun y => if y = Str.ofString "inside" then v1 else if y = Str.ofString "name" then v2 else m0 y) ∧ news = [(Tl, listOf vs.toArray k), (C, co)]
set_option maxHeartbeats 4000000 in
theorem told_step (W : Wd) (n : Nat) (ih : ∀ (i : T) (v : Value) (j : Int) (d : Nat) (t2 : Tok), j = (d : Int) → i.hgt + 1 ≤ n → i.Fit → (toldL i d).length ≤ 20000 → d + i.hgt ≤ 60 → Spec W 212 [v, .int j t2] (i.hgt + 2) (3 * i.hgt + 6) (fun V => Rd V v i.py) (fun V r => Rd V r (pyRows (toldL i d))))
    (t0 : T) (v : Value) (j : Int) (d : Nat) (t2 : Tok) (hj : j = (d : Int)) (hn : t0.hgt ≤ n) (hf : t0.Fit) (hl : (toldL t0 d).length ≤ 20000) (hd6 : d + n ≤ 60) : Spec W 212 [v, .int j t2] (n + 2) (3 * n + 6) (fun V => Rd V v t0.py) (fun V r => Rd V r (pyRows (toldL t0 d))) := by
  refine' Spec.introC (binds := [(Str.ofString "entries", v), (Str.ofString "d", .int j t2)]) (x := Str.ofString "d") (xv := .int j t2) (m0 := fun y => if y = Str.ofString "entries" then some v else none) ?ho ?hcd ?hbind ?hkind ?hcl ?hm0 ?hxv (by omega) (by omega) ?hco ?hgen ?hk ?hb
  case ho => k_dflt k_is
  case hcd => k_dflt k_is
  case hbind => (intro s X; exact BindsTo.of_eq rfl)
  case hkind => exact rfl
  case hcl => exact fun _ => rfl
  case hm0 => exact fun _ => rfl
  case hxv => exact fun _ => rfl
  case hco => exact rfl
  case hgen => exact rfl
  case hk => exact rfl
  intro dp un gd outer A₀ base L C co h₁ tk hid s Q B F N hco X T hdp hun htk hal hpre hret
  have hdp1 : dp + 1 < recursionLimit := by omega
  have hun1 : un + 3 < cLine := by omega
  obtain ⟨ea, items, rfl, hea, hit⟩ := hpre.inv_list
  have hea' : s.heap.IsList ea items.toArray := islist_mono of_hide_stays hea
  k_steps
  rename Fr _ _ _ _ => F9
  rename News _ _ _ _ => N9
  rename C < _ => q9
  have hit' : RdAll s.heap items t0.es := hit.mono of_hide_stays
  refine for_list rfl rfl hea' (ToldJ s.heap t0 d n C co _ _) F9 N9 (by first | assumption | exact Nat.le_add_left 1 _ | (dsimp only; omega)) ⟨t0, [], [], 0, _, _, hit', hf, hn, rfl, fun _ => .nil, two0, rfl⟩ ?_ ?_
  · clear F9 N9
    rintro v rest m₁ news₁ h₁ tk₁ I iobj _ _ ⟨r, acc, vs, k, v1, v2, hr, hfr, hhr, hacc, hvs, rfl, rfl⟩ F9 N9 hI k9
    have q8 : @Ne Nat _ I := hI _ (.head _)
    have q7 : @Ne Nat C I := hI _ (.tail _ (.head _))
    have hlen := congrArg List.length hacc
    rw [List.length_append] at hlen
    have hvl := (hvs s.heap).len
    rw [List.length_map] at hvl
    rcases rd_entry hr with ⟨nm, bd, r, p, t1, t3, rfl, rfl, hT, hr⟩ | ⟨nm, i, r, p, t1, a, rfl, rfl, hT, hi, hr⟩
    · obtain ⟨f1, f2, f3⟩ := hfr
      rw [hgt_file] at hhr
      obtain ⟨z1, z2⟩ := rowsL_size bd
      k_steps
      refine Stop.go (comp_in (liftL (d + 1)) (cl := [(Str.ofString "d", C)]) ?_ ?_ ?_ ?_ ?_ ?_ ?_ ?_)
      · first | assumption | (dsimp only; omega)
      · rfl
      · decide
      · rfl
      · decide
      · rfl
      · exact fun _ => rfl
      k_steps
      rename Fr _ _ _ _ => F9
      rename News _ _ _ _ => N9
      rename RdAll _ _ _ => R9
      rename Heap.IsList _ _ _ => T9
      refine comp_rows rfl F9 N9 (by first | assumption | exact Nat.le_add_left 1 _ | (dsimp only; omega)) (islist_mono of_hide_stays T9) (R9.mono of_hide_stays) (by rw [sizeLine_eq]; omega) ?_ ?_
      · clear F9 N9
        intro C' s₃ m₃ row t' E' hrow F9 N9 k9 hns hm3
        have hrl := z2 row hrow
        obtain ⟨h₃, gs₃, dr₃, tk₃, os₃⟩ := s₃
        dsimp only at F9 N9 k9 hns
        k_steps
        rename Heap.StaysIn _ _ => S9
        exact ⟨⟨_, by rw [show (j + 1).toNat = d + 1 by omega]⟩, _, _, rfl, S9⟩
      · clear F9 N9
        intro D ys k2 h' tk' F9 N9 R8 hD k8
        obtain ⟨ys, rfl⟩ : ∃ l : List Value, ys = l.toArray := ⟨ys.toList, rfl⟩
        have q6 : @Ne Nat _ D := hD _ (.tail _ (.head _))
        have hyl := (R8 s.heap).len
        simp only [List.length_map] at hyl
        k_steps
        rename Fr _ _ _ _ => F8
        rename News _ _ _ _ => N8
        refine ⟨_, _, _, _, rfl, Fr.two F8, fun p hp => N8 p (.tail _ hp), ?_, by first | assumption | (dsimp only; omega), r, acc ++ [liftL d nm] ++ (rowsL bd).map (liftL (d + 1)) ++ [List.replicate (d + 1) 46], _, _, _, _, hr, f3, hhr, ?_, ?_, rfl, rfl⟩
        · exact List.forall_mem_cons.mpr ⟨q8, List.forall_mem_cons.mpr ⟨q7, fun _ h => nomatch h⟩⟩
        · rw [← hacc]; simp only [toldL, List.append_assoc, List.cons_append, List.nil_append]
        · intro V
          rw [show (j + 1).toNat = d + 1 by omega, show j.toNat = d by omega, List.map_append, List.map_append, List.map_append]
          exact (((hvs V).append (.cons .str .nil)).append (R8 V)).append (.cons .str .nil)
    · obtain ⟨f1, f2, f3, f4⟩ := hfr
      rw [hgt_dir] at hhr
      have hi' : Rd s.heap (.ref a) (.list i.es) := hi
      have hlt : (toldL (Mine.T.dir nm i r) d).length = (toldL i (d + 1)).length + (toldL r d).length + 2 := by simp only [toldL, List.length_cons, List.length_append]; omega
      have hS := fun t9 => ih i (.ref a) (j + 1) (d + 1) t9 (by omega) (by omega) f3 (by omega) (by omega)
      k_steps
      rename Fr _ _ _ _ => F8
      rename News _ _ _ _ => N8
      rename RdAll _ _ _ => R8
      refine ⟨_, _, _, _, rfl, Fr.two F8, N8, ?_, by first | assumption | (dsimp only; omega), r, acc ++ [liftL d (nm ++ [47])] ++ toldL i (d + 1) ++ [List.replicate (d + 1) 46], _, _, _, _, hr, f4, by omega, ?_, ?_, rfl, rfl⟩
      · exact List.forall_mem_cons.mpr ⟨q8, List.forall_mem_cons.mpr ⟨q7, fun _ h => nomatch h⟩⟩
      · rw [← hacc]; simp only [toldL, List.append_assoc, List.cons_append, List.nil_append]
      · intro V
        rw [show (j + 1).toNat = d + 1 by omega, show j.toNat = d by omega, List.map_append, List.map_append, List.map_append]
        exact (((hvs V).append (.cons .str .nil)).append (strs_any R8 V)).append (.cons .str .nil)
  · clear F9 N9
    rintro h₁ tk₁ m₁ news₁ ⟨r, acc, vs, k, v1, v2, hr, hfr, hhr, hacc, hvs, rfl, rfl⟩ F9 N9 k9
    obtain rfl := rd_nil hr
    simp only [toldL, List.append_nil] at hacc
    subst hacc
    k_steps
    all_goals (refine hret _ _ _ (Fr.keep (by with_reducible assumption)) ?_)
    all_goals exact rd_list_news hal N9 (by k_mem) (hvs _)
theorem told_all (W : Wd) (n : Nat) : ∀ (t : T) (v : Value) (j : Int) (d : Nat) (t2 : Tok), j = (d : Int) → t.hgt ≤ n → t.Fit → (toldL t d).length ≤ 20000 → d + t.hgt ≤ 60 → Spec W 212 [v, .int j t2] (t.hgt + 2) (3 * t.hgt + 6) (fun V => Rd V v t.py) (fun V r => Rd V r (pyRows (toldL t d))) := by
  induction n with
  | zero => exact fun t v j d t2 hj h f l hd => told_step W t.hgt (fun i v j d t2 _ h' => absurd h' (by omega)) t v j d t2 hj (Nat.le_refl _) f l hd
  | succ n ih => exact fun t v j d t2 hj h f l hd => told_step W t.hgt (fun i v j d t2 hj h' f' l' hd' => ih i v j d t2 hj (by omega) f' l' hd') t v j d t2 hj (Nat.le_refl _) f l hd
/-! part B10 -/
theorem lv_ne {g V : Heap} {hid : List Addr} {D : Addr} (Y : Vis g hid V) (h : D ∈ hid) : ∀ p ∈ lv g V, p.1 ≠ D := fun p hp e => by
  obtain ⟨h1, _⟩ := mem_lv.mp (show (p.1, p.2) ∈ lv g V from hp)
  rw [e, Y.off D h] at h1; cases h1
theorem Vis.sub {g V : Heap} {hid hid' : List Addr} (Y : Vis g hid V) (h : ∀ a ∈ hid', a ∈ hid) : Vis g hid' V := ⟨fun a ha => Y.off a (h a ha), Y.agree⟩
theorem Vis.also {g V : Heap} {hid : List Addr} {I : Addr} (Y : Vis g hid V) (hg : g.get? I = none) (h : ∀ p ∈ lv g V, p.1 ≠ I) : Vis g (I :: hid) V := ⟨fun a ha => by
  rcases List.mem_cons.mp ha with rfl | ha
  · cases q : V.get? a with
    | none => rfl
    | some o => exact absurd rfl (h (a, o) (mem_lv.mpr ⟨q, hg⟩))
  · exact Y.off a ha, Y.agree⟩
theorem ne_cls {g h : Heap} {L a b : Addr} {oa ob : Obj} {news : List (Addr × Obj)} (N : News g L h news) (ha : (a, oa) ∈ news) (hb : (b, ob) ∈ news) (hc : oa.cls ≠ ob.cls) : a ≠ b := fun e => by
  have h1 := (N _ ha).1
  have h2 := (N _ hb).1
  simp only at h1 h2
  rw [e, h2] at h1
  cases h1
  exact hc rfl
theorem alive3 {g h : Heap} {L I T : Addr} {m : Str → Option Value} {oi ot : Obj} {news : List (Addr × Obj)} {hid : List Addr} (F : Fr g L h m) (N : News g L h news) (hi : (I, oi) ∈ news) (ht : (T, ot) ∈ news) (hal : ∀ a ∈ hid, (g.get? a).isSome = true) :
    ∀ a ∈ I :: L :: T :: hid, (h.get? a).isSome = true := fun a ha => by
  rcases List.mem_cons.mp ha with rfl | ha
  · rw [(N _ hi).1]; rfl
  rcases List.mem_cons.mp ha with rfl | ha
  · obtain ⟨o, _, _, ho, _⟩ := F.ns; rw [ho]; rfl
  rcases List.mem_cons.mp ha with rfl | ha
  · rw [(N _ ht).1]; rfl
  · obtain ⟨o, ho⟩ := Option.isSome_iff_exists.mp (hal a ha)
    rw [F.keep _ _ ho]; rfl
section
variable {W : Wd} {f : Addr} {args : List Value} {d u : Nat} {Pre : Heap → Prop} {Post : Heap → Value → Prop}
    {dp un : Nat} {gd : Option (List Code)} {cn : Str} {cs : Scope} {a : Addr} {ccd : Value} {cl : List (Str × Addr)} {outer : List Env} {A₀ : Around} {base g V : Heap} {L : Addr} {m : Str → Option Value} {s : Shared} {hid : List Addr}
    {Q E : Value → Shared → Prop}
theorem Spec.use2 {p1 p2 : Addr × Obj} (S : Spec W f args d u Pre Post) (Y : Vis g hid V)
    (B : Below A₀ base outer g) (F : Fr g L s.heap m) (X : (hd.heap_39 W.w.params).In g) (T : W.T g) (hk : cs.kind = .function) (hdp : dp + d < recursionLimit) (hun : un + u < cLine)
    (N : News g L s.heap (p1 :: p2 :: lv g V)) (hL : L ∈ hid) (hal : ∀ a ∈ hid, (s.heap.get? a).isSome = true) (htk : 1 ≤ s.toks) (mono : Mono Pre) (hpre : Pre V)
    (ret : ∀ r h' tk' V', Fr g L h' m → News g L h' (p1 :: p2 :: lv g V') → V.StaysIn V' → V'.StaysIn h' → Vis g hid V' → 1 ≤ tk' → Post V' r → Q r { s with heap := h', toks := tk' }) :
    wpAny W.M (ktrTop dp un gd cn cs L a ccd cl outer) (call (.ref f) args) Q E s :=
  Spec.use S hid V [p1, p2] B F X T hk hdp hun N Y (fun p hp => .tail _ (.tail _ hp)) hL hal htk (fun p hp => by
      rcases List.mem_cons.mp hp with rfl | hp
      · exact .head _
      · rw [List.mem_singleton.mp hp]; exact .tail _ (.head _)) mono hpre
    fun r h' tk' V' F' N' st Y' ht po => ret r h' tk' V' F' N' st (Y'.stays F' N' fun p hp => .tail _ (.tail _ hp)) Y' ht po
theorem Spec.use3 {p1 p2 p3 : Addr × Obj} (S : Spec W f args d u Pre Post) (Y : Vis g hid V)
    (B : Below A₀ base outer g) (F : Fr g L s.heap m) (X : (hd.heap_39 W.w.params).In g) (T : W.T g) (hk : cs.kind = .function) (hdp : dp + d < recursionLimit) (hun : un + u < cLine)
    (N : News g L s.heap (p1 :: p2 :: p3 :: lv g V)) (hL : L ∈ hid) (hal : ∀ a ∈ hid, (s.heap.get? a).isSome = true) (htk : 1 ≤ s.toks) (mono : Mono Pre) (hpre : Pre V)
    (ret : ∀ r h' tk' V', Fr g L h' m → News g L h' (p1 :: p2 :: p3 :: lv g V') → V.StaysIn V' → V'.StaysIn h' → Vis g hid V' → 1 ≤ tk' → Post V' r → Q r { s with heap := h', toks := tk' }) :
    wpAny W.M (ktrTop dp un gd cn cs L a ccd cl outer) (call (.ref f) args) Q E s :=
  Spec.use S hid V [p1, p2, p3] B F X T hk hdp hun N Y (fun p hp => .tail _ (.tail _ (.tail _ hp))) hL hal htk (fun p hp => by
      rcases List.mem_cons.mp hp with rfl | hp
      · exact .head _
      rcases List.mem_cons.mp hp with rfl | hp
      · exact .tail _ (.head _)
      · rw [List.mem_singleton.mp hp]; exact .tail _ (.tail _ (.head _))) mono hpre
    fun r h' tk' V' F' N' st Y' ht po => ret r h' tk' V' F' N' st (Y'.stays F' N' fun p hp => .tail _ (.tail _ (.tail _ hp))) Y' ht po
end
/-! part X13 -/
local macro_rules | `(tactic| k_all) => `(tactic| exact lv_ne (by with_reducible assumption) (by k_mem))
local macro_rules | `(tactic| k_updF) => `(tactic| (refine' UpdF.tail ?a ?b; (case a => exact ne_cls (by k_asm) (by k_mem) (by k_mem) (by first | (show Value.type "tuple" ≠ Value.type "list"; decide) | ((with_reducible rename Obj.cls _ = _ => hc'); rw [hc']; show Value.type "list_iterator" ≠ Value.type "list"; decide))); (case b => k_updF)))
local macro_rules | `(tactic| krn_off) => `(tactic| with_reducible assumption)
local macro_rules | `(tactic| walk_at "call ref") => `(tactic| (k_here; (with_reducible show wpAny _ _ (call (Value.ref 200) [Value.str _ _]) _ _ _); (with_reducible rename Vis _ _ _ => Y'); refine' Spec.use2 (rows_spec _ _ _ ?la) Y' ?B ?F ?X ?T ?hk ?hd ?hu ?N ?hL ?hal ?ht ?mono ?hpre ?_; (case la => ktr_room); (case hL => k_mem); (case hal => exact alive3 (by k_asm) (by k_asm) (by k_mem) (by k_mem) (by with_reducible assumption)); (case mono => exact fun _ _ _ _ => True.intro); (case hpre => exact True.intro); tb_rel; (intro r' h' tk' V' F' N' sV' sH' Y' ht' po'; (try dsimp only))))
local macro_rules | `(tactic| walk_at "call ref") => `(tactic| (k_here; (with_reducible show wpAny _ _ (call (Value.ref 219) [Value.ref _, Value.str _ _]) _ _ _); (with_reducible rename Vis _ _ _ => Y'); (with_reducible rename (∀ _ : Tok, Spec _ _ _ _ _ _ _) => hS'); refine' Spec.use3 (hS' _) Y' ?B ?F ?X ?T ?hk ?hd ?hu ?N ?hL ?hal ?ht ?mono ?hpre ?_; (case hL => k_mem); (case hal => exact alive3 (by k_asm) (by k_asm) (by k_mem) (by k_mem) (by with_reducible assumption)); (case mono => exact rd_mono); (case hpre => with_reducible assumption); tb_rel; (intro r' h' tk' V' F' N' sV' sH' Y' ht' po'; obtain ⟨a9, v9, e9, T9, R9⟩ := Rd.inv_list po'; clear po'; subst e9; have T8 := islist_mono sH' T9; have L9 := RdAll.len R9; simp only [List.length_map] at L9; (try dsimp only))))
theorem lv_start {g h : Heap} {L : Addr} {m : Str → Option Value} {hid : List Addr} (F : Fr g L h m) (hL : L ∈ hid) : News g L h (lv g (hideAll h hid)) := news_lv (Vis.of_hide F.keep) hL of_hide_stays
theorem ledger0 {g h : Heap} {L Tl : Addr} {o : Obj} {m : Str → Option Value} (hid : List Addr) (F : Fr g L h m) (N : News g L h [(Tl, o)]) :
    News g L h ((Tl, o) :: lv g (hideAll h (L :: Tl :: hid))) ∧ (hideAll g hid).StaysIn (hideAll h (L :: Tl :: hid)) := by
  refine ⟨fun p hp => ?_, ?_⟩
  · rcases List.mem_cons.mp hp with rfl | hp
    · exact N _ (.head _)
    · exact lv_start (hid := L :: Tl :: hid) F (.head _) p hp
  · have off : ∀ a, g.get? a = none → (hideAll g hid).get? a = none := fun a e => by
      cases q : (hideAll g hid).get? a with
      | none => rfl
      | some o => rw [of_hideAll _ q] at e; cases e
    refine stays_hide (fun a ha => ?_) fun _ _ e => F.keep _ _ (of_hideAll _ e)
    rcases List.mem_cons.mp ha with rfl | ha
    · exact off _ (Heap.get?_none_of_le F.above)
    rcases List.mem_cons.mp ha with rfl | ha
    · exact off _ (N _ (.head _)).2.2
    · exact hideAll_none _ ha
/-- the end of a turn: what stands then is the ledger -/
theorem ledger1 {g h V : Heap} {L Tl I : Addr} {m : Str → Option Value} {hid : List Addr} {news : List (Addr × Obj)} (F : Fr g L h m) (N : News g L h news) (Y : Vis g (I :: L :: Tl :: hid) V) (hs : ∀ p ∈ lv g V, p ∈ news) :
    V.StaysIn (hideAll h (I :: L :: Tl :: hid)) := stays_hide Y.off (Y.stays F N hs)
theorem ledger2 {g h : Heap} {L Tl I : Addr} {m : Str → Option Value} {oi ot : Obj} {hid : List Addr} {news : List (Addr × Obj)} (F : Fr g L h m) (N : News g L h news) (hi : (I, oi) ∈ news) (ht : (Tl, ot) ∈ news) :
    News g L h ((I, oi) :: (Tl, ot) :: lv g (hideAll h (I :: L :: Tl :: hid))) := fun p hp => by
  rcases List.mem_cons.mp hp with rfl | hp
  · exact N _ hi
  rcases List.mem_cons.mp hp with rfl | hp
  · exact N _ ht
  · exact lv_start (hid := I :: L :: Tl :: hid) F (.tail _ (.head _)) p hp
theorem off3 {g h : Heap} {L Tl I P : Addr} {op oi ot : Obj} {hid : List Addr} {news : List (Addr × Obj)} (N : News g L h news) (hp : (P, op) ∈ news) (hi : (I, oi) ∈ news) (ht : (Tl, ot) ∈ news) (h1 : op.cls ≠ oi.cls) (h2 : op.cls ≠ ot.cls) (hal : ∀ a ∈ hid, (g.get? a).isSome = true) :
    P ∉ I :: L :: Tl :: hid := fun q => by
  rcases List.mem_cons.mp q with e | q
  · exact ne_cls N hp hi h1 e
  rcases List.mem_cons.mp q with e | q
  · exact (N _ hp).2.1 e
  rcases List.mem_cons.mp q with e | q
  · exact ne_cls N hp ht h2 e
  · exact nothid_news hal N hp q
theorem rd_strc {h : Heap} {a b : List Nat} {t : Tok} : Rd h (.str (S a ++ S b) t) (.str (S (a ++ b))) := by rw [S_cat]; exact .str
def ListJ (g : Heap) (hid : List Addr) (t0 : T) (front : List Nat) (n : Nat) (L Tl : Addr) (m0 : Str → Option Value) (rest : List Value) (m : Str → Option Value) (news : List (Addr × Obj)) : Prop :=
  ∃ (r : T) (acc : List (List Nat × Option Rows)) (vs : List Value) (k : Nat) (V : Heap) (v1 v2 : Option Value), RdAll (hideAll g hid) rest r.es ∧ r.Fit ∧ r.hgt ≤ n ∧ acc ++ listingL r front = listingL t0 front ∧ Vis g (L :: Tl :: hid) V ∧ (hideAll g hid).StaysIn V ∧ RdAll V vs (acc.map pyEntry) ∧
    (m = fun y => if y = Str.ofString "inside" then v1 else if y = Str.ofString "name" then v2 else m0 y) ∧ news = (Tl, listOf vs.toArray k) :: lv g V
set_option maxHeartbeats 4000000 in
theorem listing_step (W : Wd) (n : Nat) (ih : ∀ (i : T) (v : Value) (x : Str) (front : List Nat) (t2 : Tok), x = S front → i.hgt + 1 ≤ n → i.Fit → (listingL i front).length ≤ 20000 → front.length + 4 * i.hgt ≤ 1000 → Spec W 219 [v, .str x t2] (i.hgt + 2) (3 * i.hgt + 6) (fun V => Rd V v i.py) (fun V r => Rd V r (pyFound (listingL i front))))
    (t0 : T) (v : Value) (x : Str) (front : List Nat) (t2 : Tok) (hx : x = S front) (hn : t0.hgt ≤ n) (hf : t0.Fit) (hl : (listingL t0 front).length ≤ 20000) (hfr6 : front.length + 4 * n ≤ 1000) : Spec W 219 [v, .str x t2] (n + 2) (3 * n + 6) (fun V => Rd V v t0.py) (fun V r => Rd V r (pyFound (listingL t0 front))) := by
  subst hx
  refine' Spec.intro (binds := [(Str.ofString "entries", v), (Str.ofString "front", .str (S front) t2)]) ?ho ?hcd ?hbind ?hloc (by omega) (by omega) ?hcell ?hco ?hgen ?hk ?hb
  tb_start
  intro dp un gd outer A₀ base L h₁ tk hid s Q B F X T hdp hun htk hal hpre hret
  have hdp1 : dp + 1 < recursionLimit := by omega
  have hun1 : un + 3 < cLine := by omega
  have N : News s.heap L h₁ [] := news0
  obtain ⟨ea, items, rfl, hea, hit⟩ := hpre.inv_list
  have hea' : s.heap.IsList ea items.toArray := islist_mono of_hide_stays hea
  k_steps
  rename Fr _ _ _ _ => F9
  rename News _ _ _ _ => N9
  obtain ⟨N8, S8⟩ := ledger0 hid F9 N9
  refine for_list rfl rfl hea' (ListJ s.heap hid t0 front n L _ _) F9 N8 (by first | assumption | exact Nat.le_add_left 1 _ | (dsimp only; omega)) ⟨t0, [], [], 0, _, _, _, hit, hf, hn, rfl, Vis.of_hide F9.keep, S8, .nil, two0, rfl⟩ ?_ ?_
  · clear F9 N9 N8 S8
    rintro v rest m₁ news₁ h₁ tk₁ I iobj _ hic ⟨r, acc, vs, k, V, v1, v2, hr, hfr, hhr, hacc, Y, hgV, hvs, rfl, rfl⟩ F9 N9 hI k9
    have NI := N9 _ (.head _)
    have hIT : @Ne Addr _ I := hI _ (.head _)
    have Y' := Y.also NI.2.2 (fun p hp => hI p (.tail _ hp))
    clear Y
    have hlen := congrArg List.length hacc
    rw [List.length_append] at hlen
    have hvl := hvs.len
    rw [List.length_map] at hvl
    rcases rd_entry hr with ⟨nm, bd, r, p, t1, t3, rfl, rfl, hT, hr⟩ | ⟨nm, i, r, p, t1, a, rfl, rfl, hT, hi, hr⟩
    · obtain ⟨f1, f2, f3⟩ := hfr
      rw [hgt_file] at hhr
      have hT' : IsTup s.heap p _ := hT.keeps of_hide_stays
      k_steps
      rename Fr _ _ _ _ => F8
      rename News _ _ _ _ => N8
      rename Vis _ _ _ => Y8
      rename V.StaysIn _ => sV
      rename Rd _ _ _ => po
      have S9 := ledger1 F8 N8 Y8 (fun p hp => .tail _ (.tail _ (.tail _ hp)))
      refine ⟨_, _, _, _, rfl, Fr.two F8, ledger2 (hid := hid) F8 N8 (.tail _ (.head _)) (.tail _ (.tail _ (.head _))), List.forall_mem_cons.mpr ⟨hIT, lv_ne (Vis.of_hide F8.keep) (.head _)⟩, by first | assumption | (dsimp only; omega),
        r, acc ++ [(front ++ nm, some (rowsL bd))], _, _, _, _, _, hr, f3, hhr, ?_, (Vis.of_hide F8.keep).sub (fun a h => .tail _ h), fun b o e => S9 _ _ (sV _ _ (hgV _ _ e)), ?_, rfl, rfl⟩
      · rw [← hacc]; simp only [listingL, List.append_assoc, List.cons_append, List.nil_append]
      · rw [List.map_append]
        refine ((hvs.mono sV).mono S9).append (.cons ?_ .nil)
        exact .tuple_of (hideAll_get _ (N8 _ (.head _)).1 (off3 N8 (.head _) (.tail _ (.head _)) (.tail _ (.tail _ (.head _))) (by rw [hic]; show Value.type "tuple" ≠ Value.type "list_iterator"; decide) (show Value.type "tuple" ≠ Value.type "list" by decide) hal)) rfl rfl (.cons rd_strc (.cons (po.mono S9) .nil))
    · obtain ⟨f1, f2, f3, f4⟩ := hfr
      rw [hgt_dir] at hhr
      have hT' : IsTup s.heap p _ := hT.keeps of_hide_stays
      have hi' : Rd s.heap (.ref a) (.list i.es) := hi.mono of_hide_stays
      have hiV : Rd V (.ref a) i.py := hi.mono hgV
      have hlt : (listingL (Mine.T.dir nm i r) front).length = (listingL i (front ++ nm ++ [47])).length + (listingL r front).length + 1 := by simp only [listingL, List.length_cons, List.length_append]
      have hS := fun t9 => ih i (.ref a) (S front ++ S nm ++ S [47]) (front ++ nm ++ [47]) t9 (by rw [S_cat, S_cat]) (by omega) f3 (by omega) (by rw [List.length_append, List.length_append, List.length_singleton]; omega)
      k_steps
      rename Fr _ _ _ _ => F8
      rename News _ _ _ _ => N8
      rename Vis _ _ _ => Y8
      rename V.StaysIn _ => sV
      rename RdAll _ _ _ => R8
      have S9 := ledger1 F8 N8 Y8 (fun p hp => .tail _ (.tail _ (.tail _ hp)))
      refine ⟨_, _, _, _, rfl, Fr.two F8, ledger2 (hid := hid) F8 N8 (.tail _ (.head _)) (.tail _ (.tail _ (.head _))), List.forall_mem_cons.mpr ⟨hIT, lv_ne (Vis.of_hide F8.keep) (.head _)⟩, by first | assumption | (dsimp only; omega),
        r, acc ++ [(front ++ nm, none)] ++ listingL i (front ++ nm ++ [47]), _, _, _, _, _, hr, f4, by omega, ?_, (Vis.of_hide F8.keep).sub (fun a h => .tail _ h), fun b o e => S9 _ _ (sV _ _ (hgV _ _ e)), ?_, rfl, rfl⟩
      · rw [← hacc]; simp only [listingL, List.append_assoc, List.cons_append, List.nil_append]
      · rw [List.map_append, List.map_append]
        refine (((hvs.mono sV).mono S9).append (.cons ?_ .nil)).append (R8.mono S9)
        exact .tuple_of (hideAll_get _ (N8 _ (.head _)).1 (off3 N8 (.head _) (.tail _ (.head _)) (.tail _ (.tail _ (.head _))) (by rw [hic]; show Value.type "tuple" ≠ Value.type "list_iterator"; decide) (show Value.type "tuple" ≠ Value.type "list" by decide) hal)) rfl rfl (.cons rd_strc (.cons .none .nil))
  · clear F9 N9 N8 S8
    rintro h₁ tk₁ m₁ news₁ ⟨r, acc, vs, k, V, v1, v2, hr, hfr, hhr, hacc, Y, hgV, hvs, rfl, rfl⟩ F9 N9 k9
    obtain rfl := rd_nil hr
    simp only [listingL, List.append_nil] at hacc
    subst hacc
    k_steps
    all_goals (rename Fr _ _ _ _ => F8; rename News _ _ _ _ => N8)
    all_goals (refine hret _ _ _ F8.keep ?_)
    all_goals exact rd_list_news hal N8 (.head _) (hvs.mono (Y.out F8 N8 (fun p hp => .tail _ hp) fun a h => .tail _ (.tail _ h)))
theorem listing_all (W : Wd) (n : Nat) : ∀ (t : T) (v : Value) (x : Str) (front : List Nat) (t2 : Tok), x = S front → t.hgt ≤ n → t.Fit → (listingL t front).length ≤ 20000 → front.length + 4 * t.hgt ≤ 1000 → Spec W 219 [v, .str x t2] (t.hgt + 2) (3 * t.hgt + 6) (fun V => Rd V v t.py) (fun V r => Rd V r (pyFound (listingL t front))) := by
  induction n with
  | zero => exact fun t v x fr t2 hx h f l hd => listing_step W t.hgt (fun i v x fr t2 _ h' => absurd h' (by omega)) t v x fr t2 hx (Nat.le_refl _) f l hd
  | succ n ih => exact fun t v x fr t2 hx h f l hd => listing_step W t.hgt (fun i v x fr t2 hx h' f' l' hd' => ih i v x fr t2 hx (by omega) f' l' hd') t v x fr t2 hx (Nat.le_refl _) f l hd
/-! part X14 -/
section
variable {prog : Program} {w : World} {A : Around} {E : Value → Shared → Prop} {s : Shared} {g : Heap} {L l : Addr} {m : Str → Option Value} {news : List (Addr × Obj)}
theorem iter_list {items : Array Value} {Q : Value → Shared → Prop} (F : Fr g L s.heap m) (N : News g L s.heap news) (hl : s.heap.IsList l items)
    (h : ∀ (I : Addr) h', Fr g L h' m → News g L h' ((I, { cls := .type "list_iterator", data := .fields #[.ref l, .int 0 0] }) :: news) → (∀ p ∈ news, p.1 < I) → Q (.ref I) { s with heap := h' }) :
    wpAny (model prog w) A (call (.builtin "iter") [.ref l]) Q E s := by
  refine call_function_entry (by decide +kernel) (by decide +kernel) kdk_entry_iter (kdk_args_iter _) ?_
  unfold Builtin.«iter»
  refine wpAny_bind (m := someArgs "iter" 1 2 _) (wpAny_of_eq (a := [Value.ref l]) (by first | rfl | kernel_rfl!) ?_)
  show wpAny _ _ (pyIter (.ref l) >>= _) _ _ _
  refine wpAny_bind (wpAny_pyIter_list hl ?_)
  exact wpAny_pure ⟨_, rfl, h _ _ (F.push _) (News.push F N _ rfl) (fun q hq => Heap.lt_size (N q hq).1)⟩
end
local macro_rules | `(tactic| walk_at "call builtin:iter") => `(tactic| (k_here; (with_reducible show wpAny _ _ (call (Value.builtin "iter") [Value.ref _]) _ _ _); refine' iter_list ?F ?N ?a ?_; (case F => k_asm); (case N => k_asm); (case a => krn_off); intro I' h' F' N' l1; (try k_lt l1); (try dsimp only)))
theorem is_missing {M : Model} {A : Around} {E : Value → Shared → Prop} {s : Shared} {W : Wd} {g : Heap} {L a : Addr} {m : Str → Option Value} {vs : Array Value} {Q : Value → Shared → Prop} (F : Fr g L s.heap m) (X : (hd.heap_39 W.w.params).In g) (hi : IsTup g a vs) (h : Q (.bool false) s) :
    wpAny M A (compareOp .Is (.ref a) (.ref 157)) Q E s := by
  obtain ⟨oy, hy, hcy⟩ : ∃ o, (hd.heap_39 W.w.params).lookup 157 = some o ∧ o.cls = .type "object" := ⟨_, rfl, rfl⟩
  have hy' := F.keep _ _ (X _ _ hy)
  obtain ⟨ox, hx, hcx, _⟩ := hi
  have hx' := F.keep _ _ hx
  have hne : a ≠ 157 := by
    rintro rfl
    rw [hy'] at hx'
    cases hx'
    rw [hcy] at hcx
    exact absurd hcx (by decide)
  show wpAny M A (do return .bool (← isSame (.ref a) (.ref 157))) Q E s
  refine wpAny_bind ?_
  show wpAny M A (if (a == 157) = true then pure true else _) _ E s
  rw [if_neg (by simpa using hne)]
  refine wpAny_bind (wpAny_load hx' (wpAny_bind (wpAny_load hy' ?_)))
  split
  · rename_i h1 h2 _ _; rw [hcy] at h2; exact absurd h2 (by decide)
  · exact wpAny_pure (wpAny_pure h)
local macro_rules | `(tactic| walk_at "compareOp Is ref ref") => `(tactic| (k_here; refine is_missing (by k_asm) (by k_asm) (by with_reducible assumption) ?_; (try dsimp only)))
theorem one0 {m : Str → Option Value} {A B : Str} {a : Option Value} : (fun y => if y = A then a else m y) = fun y => if y = A then a else if y = B then m B else m y := by
  funext y
  by_cases h1 : y = A
  · simp only [if_pos h1]
  · by_cases h2 : y = B
    · simp only [if_neg h1, if_pos h2]; rw [h2]
    · simp only [if_neg h1, if_neg h2]
theorem alive2 {g h : Heap} {L I : Addr} {m : Str → Option Value} {oi : Obj} {news : List (Addr × Obj)} {hid : List Addr} (F : Fr g L h m) (N : News g L h news) (hi : (I, oi) ∈ news) (hal : ∀ a ∈ hid, (g.get? a).isSome = true) :
    ∀ a ∈ I :: L :: hid, (h.get? a).isSome = true := fun a ha => by
  rcases List.mem_cons.mp ha with rfl | ha
  · rw [(N _ hi).1]; rfl
  rcases List.mem_cons.mp ha with rfl | ha
  · obtain ⟨o, _, _, ho, _⟩ := F.ns; rw [ho]; rfl
  · obtain ⟨o, ho⟩ := Option.isSome_iff_exists.mp (hal a ha)
    rw [F.keep _ _ ho]; rfl
theorem Spec.useL1 {W : Wd} {f : Addr} {args : List Value} {d u : Nat} {Pre : Heap → Prop} {Post : Heap → Value → Prop}
    {dp un : Nat} {gd : Option (List Code)} {cn : Str} {cs : Scope} {a : Addr} {ccd : Value} {cl : List (Str × Addr)} {outer : List Env} {A₀ : Around} {base g V : Heap} {L : Addr} {m : Str → Option Value} {s : Shared} {hid : List Addr}
    {Q E : Value → Shared → Prop} {p1 : Addr × Obj} (S : Spec W f args d u Pre Post) (Y : Vis g hid V)
    (B : Below A₀ base outer g) (F : Fr g L s.heap m) (X : (hd.heap_39 W.w.params).In g) (T : W.T g) (hk : cs.kind = .function) (hdp : dp + d < recursionLimit) (hun : un + u < cLine)
    (N : News g L s.heap (p1 :: lv g V)) (hL : L ∈ hid) (hal : ∀ a ∈ hid, (s.heap.get? a).isSome = true) (htk : 1 ≤ s.toks) (mono : Mono Pre) (hpre : Pre V)
    (ret : ∀ r h' tk' V', Fr g L h' m → News g L h' (p1 :: lv g V') → V.StaysIn V' → V'.StaysIn h' → Vis g hid V' → 1 ≤ tk' → Post V' r → Q r { s with heap := h', toks := tk' }) :
    wpAny W.M (ktrTop dp un gd cn cs L a ccd cl outer) (call (.ref f) args) Q E s :=
  Spec.use S hid V [p1] B F X T hk hdp hun N Y (fun p hp => .tail _ hp) hL hal htk (fun p hp => by rw [List.mem_singleton.mp hp]; exact .head _) mono hpre
    fun r h' tk' V' F' N' st Y' ht po => ret r h' tk' V' F' N' st (Y'.stays F' N' fun p hp => .tail _ hp) Y' ht po
local macro_rules | `(tactic| walk_at "call ref") => `(tactic| (k_here; (with_reducible show wpAny _ _ (call (Value.ref 226) [_, Value.str _ _]) _ _ _); (with_reducible rename Vis _ _ _ => Y'); (with_reducible rename Spec _ _ _ _ _ _ _ => hS'); refine' Spec.useL1 hS' Y' ?B ?F ?X ?T ?hk ?hd ?hu ?N ?hL ?hal ?ht ?mono ?hpre ?_; (case hL => k_mem); (case hal => exact alive2 (by k_asm) (by k_asm) (by k_mem) (by with_reducible assumption)); (case mono => exact rd_mono); (case hpre => with_reducible assumption); tb_rel; (intro r' h' tk' V' F' N' sV' sH' Y' ht' po'; (try dsimp only))))
local macro_rules | `(tactic| walk_at "exec For Name Name cons nil") => `(tactic| (k_here; refine for_in ?_ (fun _ => rfl)))
theorem strs_cons {h : Heap} {v : Value} {vs : List Value} {rows : Rows} (x : RdAll h (v :: vs) (rows.map fun l => .str (S l))) : ∃ r rs t, rows = r :: rs ∧ v = .str (S r) t ∧ RdAll h vs (rs.map fun l => .str (S l)) := by
  cases rows with
  | nil => exact nomatch x.len
  | cons r rs =>
    obtain ⟨v', vs', e, i1, i2⟩ := x.inv
    cases e
    obtain ⟨t, rfl⟩ := i1.inv_str
    exact ⟨r, rs, t, rfl, rfl, i2⟩
def RedJ (g : Heap) (hid : List Addr) (rows : Rows) (σ : St) (L : Addr) (m0 : Str → Option Value) (rest : List Value) (m : Str → Option Value) (news : List (Addr × Obj)) : Prop :=
  ∃ (dn rem : Rows) (V : Heap) (value : Value) (v1 : Option Value), rows = dn ++ rem ∧ RdAll g rest (rem.map fun l => .str (S l)) ∧ Vis g (L :: hid) V ∧ Rd V value (dn.foldl stepL σ).py ∧
    (m = fun y => if y = Str.ofString "value" then some value else if y = Str.ofString "element" then v1 else m0 y) ∧ news = lv g V
set_option maxHeartbeats 4000000 in
theorem reduce_spec (W : Wd) (rows : Rows) (σ : St) (sq init : Value) (hrw : ∀ r ∈ rows, r.length ≤ 50000) (hsm : ∀ a b, rows = a ++ b → (a.foldl stepL σ).Small) :
    Spec W 165 [.ref 226, sq, init] 6 18 (fun V => Rd V sq (pyRows rows) ∧ Rd V init σ.py) (fun V r => Rd V r (rows.foldl stepL σ).py) := by
  refine' Spec.intro (binds := [(Str.ofString "function", .ref 226), (Str.ofString "sequence", sq), (Str.ofString "initial", init)]) ?ho ?hcd ?hbind ?hloc (by omega) (by omega) ?hcell ?hco ?hgen ?hk ?hb
  case ho => k_dflt k_is
  case hcd => k_dflt k_is
  case hbind => intro s X; exact kp_binds X (fun S => rfl)
  case hloc => exact rfl
  case hcell => decide
  case hco => exact rfl
  case hgen => exact rfl
  case hk => exact rfl
  intro dp un gd outer A₀ base L h₁ tk hid s Q B F X T hdp hun htk hal hpre hret
  have N : News s.heap L h₁ [] := news0
  obtain ⟨hp1, hp2⟩ := hpre
  obtain ⟨sa, items, rfl, hsa, hit⟩ := hp1.inv_list
  obtain ⟨ia, ivs, rfl, hia, _⟩ := Rd.inv_tuple (ds := [_, _, _, _]) hp2
  have hsa' : s.heap.IsList sa items.toArray := islist_mono of_hide_stays hsa
  have hia' : IsTup s.heap ia ivs.toArray := hia.keeps of_hide_stays
  k_steps
  rename Fr _ _ _ _ => F9
  rename News _ _ _ _ => N9
  have N8 : News s.heap L _ (_ :: lv s.heap (hideAll s.heap (L :: hid))) := fun p hp => by
    rcases List.mem_cons.mp hp with rfl | hp
    · exact N9 _ (.head _)
    · obtain ⟨h1, h2⟩ := mem_lv.mp (show (p.1, p.2) ∈ _ from hp)
      rw [of_hideAll _ h1] at h2; cases h2
  have S8 : (hideAll s.heap hid).StaysIn (hideAll s.heap (L :: hid)) := stays_hide (fun a ha => by
    rcases List.mem_cons.mp ha with rfl | ha
    · cases q : (hideAll s.heap hid).get? a with
      | none => rfl
      | some o => have := of_hideAll _ q; rw [Heap.get?_none_of_le F9.above] at this; cases this
    · exact hideAll_none _ ha) fun _ _ e => of_hideAll _ e
  have hit' : RdAll s.heap items (rows.map fun l => .str (S l)) := hit.mono of_hide_stays
  refine for_iter rfl rfl hsa' (RedJ s.heap hid rows σ L _) F9 N8 ⟨rfl, rfl⟩ (fun p hp e => ?_) (by first | assumption | exact Nat.le_add_left 1 _ | (dsimp only; omega)) ⟨[], rows, _, _, _, rfl, hit', Vis.of_hide fun _ _ e => e, hp2.mono S8, one0, rfl⟩ ?_ ?_
  · obtain ⟨h1, h2⟩ := mem_lv.mp (show (p.1, p.2) ∈ _ from hp)
    rw [of_hideAll _ h1] at h2; cases h2
  · clear F9 N9 N8 S8
    rintro v rest m₁ news₁ h₁ tk₁ I iobj _ hic ⟨dn, rem, V, value, v1, hrows, hr, Y, hval, rfl, rfl⟩ F9 N9 hI k9
    obtain ⟨row, rem, t, rfl, rfl, hr2⟩ := strs_cons hr
    have NI := N9 _ (.head _)
    have Y' := Y.also NI.2.2 hI
    clear Y
    have hS := step_spec W (dn.foldl stepL σ) row value t (hsm dn (row :: rem) hrows) (hrw row (by rw [hrows]; exact List.mem_append_right _ (.head _)))
    k_steps
    rename Fr _ _ _ _ => F8
    rename News _ _ _ _ => N8
    rename Vis _ _ _ => Y8
    rename Rd _ _ _ => po
    refine ⟨_, _, _, _, rfl, Fr.two F8, N8, lv_ne Y8 (.head _), by first | assumption | (dsimp only; omega), dn ++ [row], rem, _, _, _, by rw [hrows]; simp, hr2, Y8.sub (fun a h => .tail _ h), ?_, rfl, rfl⟩
    rw [List.foldl_append]; exact po
  · clear F9 N9 N8 S8
    rintro h₁ tk₁ m₁ news₁ ⟨dn, rem, V, value, v1, hrows, hr, Y, hval, rfl, rfl⟩ F9 N9 k9
    have : rem = [] := by cases rem with | nil => rfl | cons _ _ => exact nomatch hr.len
    subst this
    rw [List.append_nil] at hrows
    subst hrows
    k_steps
    all_goals (rename Fr _ _ _ _ => F8; rename News _ _ _ _ => N8)
    all_goals (refine hret _ _ _ F8.keep ?_)
    all_goals exact hval.mono (Y.out F8 N8 (fun p hp => hp) fun a h => .tail _ h)
/-! part X15 -/
def tail7 (n : Int) : Str := ⟨#[(256 + Int.fmod (Int.fdiv n 7) 50000).toNat]⟩
def nameTab (n : Int) : List Str := [".", "a", "..", ".a", "a.", "...", tail7 n]
def nameOf (n : Int) : Str := (nameTab n).getD (Int.fmod n 7).toNat Str.empty
theorem name_ok (n : Int) : ∃ l, nameOf n = S l ∧ NameOk l := by
  have h1 : 0 ≤ n.fmod 7 := by rw [Int.fmod_eq_emod_of_nonneg _ (by omega)]; exact Int.emod_nonneg _ (by omega)
  have h2 := Int.fmod_lt_of_pos n (show (0 : Int) < 7 by omega)
  have h3 : n.fmod 7 = 0 ∨ n.fmod 7 = 1 ∨ n.fmod 7 = 2 ∨ n.fmod 7 = 3 ∨ n.fmod 7 = 4 ∨ n.fmod 7 = 5 ∨ n.fmod 7 = 6 := by omega
  have h4 : 0 ≤ (n.fdiv 7).fmod 50000 := by rw [Int.fmod_eq_emod_of_nonneg _ (by omega)]; exact Int.emod_nonneg _ (by omega)
  have h5 := Int.fmod_lt_of_pos (n.fdiv 7) (show (0 : Int) < 50000 by omega)
  unfold nameOf
  rcases h3 with e | e | e | e | e | e | e <;> rw [e]
  · exact ⟨[46], show Str.ofString "." = S [46] by decide +kernel, by decide, by decide, by decide⟩
  · exact ⟨[97], show Str.ofString "a" = S [97] by decide +kernel, by decide, by decide, by decide⟩
  · exact ⟨[46, 46], show Str.ofString ".." = S [46, 46] by decide +kernel, by decide, by decide, by decide⟩
  · exact ⟨[46, 97], show Str.ofString ".a" = S [46, 97] by decide +kernel, by decide, by decide, by decide⟩
  · exact ⟨[97, 46], show Str.ofString "a." = S [97, 46] by decide +kernel, by decide, by decide, by decide⟩
  · exact ⟨[46, 46, 46], show Str.ofString "..." = S [46, 46, 46] by decide +kernel, by decide, by decide, by decide⟩
  · refine ⟨[(256 + Int.fmod (Int.fdiv n 7) 50000).toNat], rfl, by simp, by simp, fun c hc => ?_⟩
    rw [List.mem_singleton.mp hc]
    omega
set_option maxHeartbeats 4000000 in
theorem name_spec (W : Wd) (n : Int) (t : Tok) : PSpec W 172 [.int n t] 1 3 (fun _ => True) (fun v => ∃ l tk, NameOk l ∧ v = .str (S l) tk) := by
  obtain ⟨l, hl, hok⟩ := name_ok n
  refine' Spec.intro (binds := [(Str.ofString "n", .int n t)]) ?ho ?hcd ?hbind ?hloc (by omega) (by omega) ?hcell ?hco ?hgen ?hk ?hb
  tb_start
  intro dp un gd outer A₀ base L h₁ tk hid s Q B F X T hdp hun htk hal hpre hret
  have N : News s.heap L h₁ [] := news0
  k_steps
  all_goals (refine hret _ _ _ (Fr.keep (by with_reducible assumption)) ((str_at ?_).elim fun tk e => ⟨l, tk, hok, e⟩); (rename (Int.fmod n 7 = _) => e); (rw [← hl]; simp only [nameOf, nameTab, e]; rfl))
/-! part B11 -/
def T.app : T → T → T
  | .nil, q => q
  | .file nm bd r, q => .file nm bd (r.app q)
  | .dir nm i r, q => .dir nm i (r.app q)
theorem es_app : ∀ (p q : T), (p.app q).es = p.es ++ q.es
  | .nil, _ => rfl
  | .file nm bd r, q => congrArg (_ :: ·) (es_app r q)
  | .dir nm i r, q => congrArg (_ :: ·) (es_app r q)
theorem nodes_app : ∀ (p q : T), (p.app q).nodes = p.nodes + q.nodes
  | .nil, _ => by simp [T.app, T.nodes]
  | .file nm bd r, q => by simp only [T.app, T.nodes, nodes_app r q]; omega
  | .dir nm i r, q => by simp only [T.app, T.nodes, nodes_app r q]; omega
theorem good_app : ∀ (p q : T), p.Good → q.Good → (p.app q).Good
  | .nil, _, _, h => h
  | .file nm bd r, q, h, h' => ⟨h.1, h.2.1, good_app r q h.2.2 h'⟩
  | .dir nm i r, q, h, h' => ⟨h.1, h.2.1, good_app r q h.2.2 h'⟩
theorem es_len : ∀ p : T, p.es.length ≤ p.nodes
  | .nil => Nat.le_refl _
  | .file nm bd r => by have := es_len r; simp only [T.es, T.nodes, List.length_cons]; omega
  | .dir nm i r => by have := es_len r; simp only [T.es, T.nodes, List.length_cons]; omega
/-- a folder that is open, with its own open folder as its last entry -/
structure Op where
  a : Addr
  P : Addr
  vs : List Value
  k : Nat
  p : T
  nm : List Nat
def topOf : Addr → List Op → Addr
  | a, [] => a
  | _, o :: r => topOf o.a r
def closeAll : T → List Op → T
  | p, [] => p
  | p, o :: r => closeAll (o.p.app (.dir o.nm p .nil)) r
def Chain (V : Heap) : Addr → List Op → Prop
  | _, [] => True
  | c, o :: r => (∃ t, IsTup V o.P #[.str (S o.nm) t, .ref c]) ∧ RdAll V o.vs o.p.es ∧ NameOk o.nm ∧ o.p.Good ∧ Chain V o.a r
def opObj (o : Op) : Addr × Obj := (o.a, listOf (o.vs ++ [Value.ref o.P]).toArray o.k)
def opens (a : Addr) (ps : List Op) : List Addr := a :: ps.map (·.a)
def stk (ps : List Op) : List Value := (ps.map (fun o => Value.ref o.a)).reverse
def sumN : List Op → Nat
  | [] => 0
  | o :: r => o.p.nodes + 1 + sumN r
theorem sumN_len : ∀ ps : List Op, ps.length ≤ sumN ps
  | [] => Nat.le_refl _
  | o :: r => by have := sumN_len r; simp only [sumN, List.length_cons]; omega
theorem Chain.mono {V V' : Heap} (k : V.StaysIn V') : ∀ {ps : List Op} {c : Addr}, Chain V c ps → Chain V' c ps
  | [], _, _ => trivial
  | _ :: _, _, ⟨⟨t, h1⟩, h2, h3, h4, h5⟩ => ⟨⟨t, h1.keeps k⟩, h2.mono k, h3, h4, h5.mono k⟩
theorem close_nodes : ∀ (ps : List Op) (p : T), (closeAll p ps).nodes = p.nodes + sumN ps
  | [], _ => rfl
  | o :: r, p => by rw [closeAll, close_nodes r, nodes_app]; simp only [T.nodes, sumN]; omega
theorem close_good {V : Heap} : ∀ (ps : List Op) (p : T) (c : Addr), Chain V c ps → p.Good → (closeAll p ps).Good
  | [], _, _, _, h => h
  | o :: r, p, c, ⟨_, _, h3, h4, h5⟩, h => close_good r _ o.a h5 (good_app _ _ h4 ⟨h3, h, trivial⟩)
theorem close_rd {W : Heap} : ∀ (ps : List Op) (p : T) (a : Addr) (vs : List Value), W.IsList a vs.toArray → RdAll W vs p.es → Chain W a ps → (∀ o ∈ ps, W.get? o.a = some (opObj o).2) → Rd W (.ref (topOf a ps)) (closeAll p ps).py
  | [], _, _, _, hl, hr, _, _ => Rd.list_in hl hr
  | o :: r, p, a, vs, hl, hr, ⟨⟨t, h1⟩, h2, h3, h4, h5⟩, ho => by
    refine close_rd r _ o.a (o.vs ++ [.ref o.P]) ⟨_, ho o (.head _), rfl, _, rfl⟩ ?_ h5 fun q hq => ho q (.tail _ hq)
    rw [es_app]
    exact h2.append (.cons (Rd.tuple_in (vs := [.str (S o.nm) t, .ref a]) h1 (.cons .str (.cons (Rd.list_in hl hr) .nil))) .nil)
theorem tree_end {g h : Heap} {L U I a : Addr} {io uo ao : Obj} {m : Str → Option Value} {news : List (Addr × Obj)} (hid : List Addr) {ps : List Op} (F : Fr g L h m) (N : News g L h news) (h1 : (I, io) ∈ news) (h2 : (U, uo) ∈ news) (h3 : (a, ao) ∈ news) (h4 : ∀ o ∈ ps, opObj o ∈ news) :
    News g L h ((I, io) :: (U, uo) :: (a, ao) :: (ps.map opObj ++ lv g (hideAll h (I :: L :: U :: (opens a ps ++ hid))))) := fun p hp => by
  rcases List.mem_cons.mp hp with rfl | hp
  · exact N _ h1
  rcases List.mem_cons.mp hp with rfl | hp
  · exact N _ h2
  rcases List.mem_cons.mp hp with rfl | hp
  · exact N _ h3
  rcases List.mem_append.mp hp with hp | hp
  · obtain ⟨o, ho, rfl⟩ := List.mem_map.mp hp
    exact N _ (h4 o ho)
  · exact lv_start (hid := I :: L :: U :: (opens a ps ++ hid)) F (.tail _ (.head _)) p hp
section
variable {prog : Program} {w : World} {A : Around} {E : Value → Shared → Prop} {s : Shared} {g : Heap} {L D : Addr} {m : Str → Option Value} {news : List (Addr × Obj)} {gg : Obj → List (Addr × Obj)} {us : List Value} {y : Value} {n : Nat}
theorem pop_L {Q : Value → Shared → Prop} (F : Fr g L s.heap m) (N : News g L s.heap news) (U : UpdF D (listOf (us ++ [y]).toArray n) news gg) (hz : us.length ≤ 100000)
    (h : ∀ h' k, Fr g L h' m → News g L h' (gg (listOf us.toArray k)) → Q y { s with heap := h' }) : wpAny (model prog w) A (call (.builtin "list.pop") [.ref D]) Q E s := by
  obtain ⟨pre, post, rfl, hg, a, b⟩ := U.split
  have z := N (D, listOf (us ++ [y]).toArray n) (List.mem_append.mpr (.inr (.head _)))
  have hz' : (us ++ [y]).toArray.size ≤ sizeLine := by rw [List.size_toArray, List.length_append, List.length_singleton, sizeLine_eq]; omega
  have hk : (us ++ [y]).toArray.size - 1 = us.length := by rw [List.size_toArray, List.length_append]; rfl
  have hy : (us ++ [y]).toArray[(us ++ [y]).toArray.size - 1]? = some y := by rw [hk]; simp
  refine call_meets PySem.F.slot_list_pop ⟨_, z.1, rfl⟩ PySem.F.entry_list_pop (PySem.F.args_list_pop_1 _) (PySem.MeetsSeq.list_pop_last D _ n y hy hz') ⟨z.1, h _ (n + 1) (F.change (Heap.SameBut.update ..) z.2.1 z.2.2) ?_⟩
  rw [hg]
  refine kl_turn _ N a b ?_ ?_
  · show (us ++ [y]).toArray.eraseIdxIfInBounds ((us ++ [y]).toArray.size - 1) = us.toArray
    rw [hk, kl_erase, List.append_nil]
  · rw [List.size_toArray, List.size_toArray, List.length_append]
    simp
theorem item_lastL {value slice : PySem.Expr} {u : Tok} {Q : Value → Shared → Prop} (hl : s.heap.IsList D (us ++ [y]).toArray) (hz : us.length ≤ 100000) (h : Q y s)
    (hs : subscripted slice false (.ref D) (.int (-1) u) = operate [.ref D, .int (-1) u] (getItem (.ref D) (.int (-1) u)) := by with_unfolding_all rfl) (hg : ∀ r, letTemporaryGo value (.ref D) r = pure () := by intro _; with_unfolding_all rfl) :
    wpAny (model prog w) A (subscriptTail value slice (.ref D) (.int (-1) u)) Q E s := by
  refine subscriptTail_builtin hl.typeIs slot_list_getitem.lookup (wpAny_getItem_list_neg hl (by decide) ?_ (by decide) ?_ h) hs hg
  · rw [List.size_toArray, List.length_append, List.length_singleton]; omega
  · rw [List.size_toArray, List.length_append, List.length_singleton, show ((-1 : Int) + ((us.length + 1 : Nat) : Int)).toNat = us.length by omega]
    simp
theorem len_L {items : List Value} {Q : Value → Shared → Prop} (hl : s.heap.IsList D items.toArray) (hz : items.length ≤ 100000) (h : Q (.int (items.length : Int) (s.toks + 1)) { s with toks := s.toks + 1 + 1 }) : wpAny (model prog w) A (call (.builtin "len") [.ref D]) Q E s :=
  len_list hl (by rw [List.size_toArray]; omega) (by rw [List.size_toArray]; exact h)
end
theorem Fr.skip3 {g h : Heap} {L : Addr} {m : Str → Option Value} {A B C : Str} {a b b' c c' : Option Value} (h1 : A ≠ B) (h2 : A ≠ C) (F : Fr g L h (fun y => if y = B then b else if y = C then c else if y = A then a else if y = B then b' else if y = C then c' else m y)) :
    Fr g L h (fun y => if y = A then a else if y = B then b else if y = C then c else m y) := by
  refine Fr.eqm F fun y => ?_
  by_cases ha : y = A
  · subst ha; simp only [if_pos, if_neg h1, if_neg h2]
  · by_cases hb : y = B
    · simp only [if_neg ha, if_pos hb]
    · by_cases hc : y = C
      · simp only [if_neg ha, if_neg hb, if_pos hc]
      · simp only [if_neg ha, if_neg hb, if_neg hc]
/-! part X16 -/
local macro_rules | `(tactic| k_all) => `(tactic| with_reducible assumption)
local macro_rules | `(tactic| walk_at "call builtin:list.pop") => `(tactic| (k_here; refine' pop_L ?F ?N ?U ?z ?_; (case F => k_asm); (case N => k_asm); (case U => k_updF); (case z => omega); intro h' k' F' N'; (try dsimp only at N')))
local macro_rules | `(tactic| walk_at "call builtin:len") => `(tactic| (k_here; (with_reducible show wpAny _ _ (call (Value.builtin "len") [Value.ref _]) _ _ _); refine' len_L ?l ?z ?_; (case l => krn_off); (case z => ((try simp only [List.length_append, List.length_cons, List.length_nil]); omega)); (try dsimp only)))
local macro_rules | `(tactic| walk_at "subscriptTail Name") => `(tactic| (k_here; (with_reducible show wpAny _ _ (subscriptTail _ _ (Value.ref _) (Value.int _ _)) _ _ _); refine' item_lastL ?l ?z ?_; (case l => krn_off); (case z => omega); (try dsimp only)))
local macro_rules | `(tactic| walk_at "call ref") => `(tactic| (k_here; (with_reducible show wpAny _ _ (call (Value.ref 172) [Value.int _ _]) _ _ _); refine' PSpec.use0 (name_spec _ _ _) ?B ?F ?X ?T ?hk ?hd ?hu ?N ?ht ?_; tb_rel; (intro r' h' tk' F' N' st' ht' po'; obtain ⟨nm9, t9, ok9, po'⟩ := po'; subst po'; (try dsimp only))))
local macro_rules | `(tactic| walk_at "call ref") => `(tactic| (k_here; (with_reducible show wpAny _ _ (call (Value.ref 179) [Value.int _ _]) _ _ _); refine' PSpec.use0 (body_spec _ _ _) ?B ?F ?X ?T ?hk ?hd ?hu ?N ?ht ?_; tb_rel; (intro r' h' tk' F' N' st' ht' po'; obtain ⟨bd9, t9, bok9, po'⟩ := po'; subst po'; (try dsimp only))))
local macro_rules | `(tactic| walk_at "exec If") => `(tactic| (k_here; refine wpAny_If ?_))
theorem tri0 {m : Str → Option Value} {A B C : Str} : m = fun y => if y = A then m A else if y = B then m B else if y = C then m C else m y := by
  funext y
  by_cases h1 : y = A
  · rw [if_pos h1, h1]
  · by_cases h2 : y = B
    · rw [if_neg h1, if_pos h2, h2]
    · by_cases h3 : y = C
      · rw [if_neg h1, if_neg h2, if_pos h3, h3]
      · rw [if_neg h1, if_neg h2, if_neg h3]
theorem nm_12 : Str.ofString "inner" ≠ Str.ofString "n" := by decide +kernel
theorem nm_13 : Str.ofString "inner" ≠ Str.ofString "x" := by decide +kernel
theorem nodup3 {α : Type} {x y : α} {l : List α} (h : (x :: y :: l).Nodup) : x ≠ y ∧ x ∉ l ∧ y ∉ l ∧ l.Nodup := by
  rw [List.nodup_cons, List.nodup_cons] at h
  exact ⟨fun e => h.1 (e ▸ .head _), fun q => h.1 (.tail _ q), h.2.1, h.2.2⟩
theorem ops_ne {ps : List Op} {x : Addr} (h : x ∉ ps.map (·.a)) : ∀ p ∈ ps.map opObj, p.1 ≠ x := fun p hp e => by
  obtain ⟨o, ho, rfl⟩ := List.mem_map.mp hp
  exact h (List.mem_map.mpr ⟨o, ho, e⟩)
theorem app_ne {l r : List (Addr × Obj)} {x : Addr} (h1 : ∀ p ∈ l, p.1 ≠ x) (h2 : ∀ p ∈ r, p.1 ≠ x) : ∀ p ∈ l ++ r, p.1 ≠ x := fun p hp => (List.mem_append.mp hp).elim (h1 p) (h2 p)
theorem tree_start {g h : Heap} {L U tp : Addr} {uo to : Obj} {m : Str → Option Value} (hid : List Addr) (F : Fr g L h m) (N : News g L h [(U, uo), (tp, to)]) :
    News g L h ((U, uo) :: (tp, to) :: lv g (hideAll h (L :: U :: (opens tp [] ++ hid)))) := fun p hp => by
  rcases List.mem_cons.mp hp with rfl | hp
  · exact N _ (.head _)
  rcases List.mem_cons.mp hp with rfl | hp
  · exact N _ (.tail _ (.head _))
  · exact lv_start (hid := L :: U :: (opens tp [] ++ hid)) F (.head _) p hp
def IntsR (vs : List Value) : Prop := ∀ v ∈ vs, ∃ i t, v = Value.int i t
def TreeJ (g : Heap) (hid : List Addr) (L U tp : Addr) (cnt : Nat) (m0 : Str → Option Value) (rest : List Value) (m : Str → Option Value) (news : List (Addr × Obj)) : Prop :=
  ∃ (ps : List Op) (a : Addr) (vs : List Value) (k kU : Nat) (p : T) (V : Heap) (v1 v2 v3 : Option Value),
    IntsR rest ∧ p.nodes + sumN ps + rest.length ≤ cnt ∧ Vis g (L :: U :: (opens a ps ++ hid)) V ∧ (U :: opens a ps).Nodup ∧ topOf a ps = tp ∧ RdAll V vs p.es ∧ p.Good ∧ Chain V a ps ∧
    (m = fun y => if y = Str.ofString "inner" then v1 else if y = Str.ofString "n" then v2 else if y = Str.ofString "x" then v3 else m0 y) ∧
    news = (U, listOf (stk ps ++ [Value.ref a]).toArray kU) :: (a, listOf vs.toArray k) :: (ps.map opObj ++ lv g V)
theorem open_hid {g h : Heap} {L U I a D : Addr} {ps : List Op} {hid : List Addr} {news : List (Addr × Obj)} {o : Obj} (hal : ∀ a ∈ hid, (g.get? a).isSome = true) (N : News g L h news) (hD : (D, o) ∈ news) (h1 : D ≠ I) (h2 : D ≠ U) (h3 : D ≠ a) (h4 : D ∉ ps.map (·.a)) :
    D ∉ I :: L :: U :: (opens a ps ++ hid) := fun q => by
  rcases List.mem_cons.mp q with e | q
  · exact h1 e
  rcases List.mem_cons.mp q with e | q
  · exact (N _ hD).2.1 e
  rcases List.mem_cons.mp q with e | q
  · exact h2 e
  rcases List.mem_append.mp q with q | q
  · rcases List.mem_cons.mp q with e | q
    · exact h3 e
    · exact h4 q
  · exact nothid_news hal N hD q
theorem app_mem {A : List (Addr × Obj)} {l r : List (Addr × Obj)} (h : ∀ p ∈ l ++ r, p ∈ A) : (∀ p ∈ l, p ∈ A) ∧ ∀ p ∈ r, p ∈ A := ⟨fun p hp => h p (List.mem_append_left _ hp), fun p hp => h p (List.mem_append_right _ hp)⟩
theorem stk_cons (o : Op) (r : List Op) : stk (o :: r) = stk r ++ [Value.ref o.a] := by simp [stk]
section
variable {g h' V : Heap} {hid : List Addr} {L U tp I a : Addr} {cnt k k' tk' kU : Nat} {m0 : Str → Option Value} {s : Shared} {iobj : Obj} {rest vs us : List Value} {ps : List Op} {p : T} {R : List (Addr × Obj)} {x : Int} {t : Tok} {u1 u2 u3 u4 u5 u6 : Option Value}
theorem turn_pop (hal : ∀ a ∈ hid, (g.get? a).isSome = true) (hr : IntsR (Value.int x t :: rest)) (hn : p.nodes + sumN ps + (rest.length + 1) ≤ cnt) (hnd : (U :: opens a ps).Nodup) (htp : topOf a ps = tp) (hvs : RdAll V vs p.es) (hgp : p.Good) (hch : Chain V a ps)
    (hU : ∀ z ∈ opens a ps, z ≠ I) (q1 : U ≠ I) (Y : Vis g (I :: L :: U :: (opens a ps ++ hid)) V) (hR : ps.map opObj ++ lv g V = R) (hus : stk ps = us) (hlen : 1 < ((us ++ [Value.ref a]).length : Int))
    (F : Fr g L h' (fun y => if y = Str.ofString "n" then u1 else if y = Str.ofString "x" then u2 else if y = Str.ofString "inner" then u3 else if y = Str.ofString "n" then u4 else if y = Str.ofString "x" then u5 else m0 y))
    (N : News g L h' ((I, iobj) :: (U, listOf us.toArray k') :: (a, listOf vs.toArray k) :: R)) (htk : 1 ≤ tk') : ForTurn g L s I iobj (TreeJ g hid L U tp cnt m0) rest { s with heap := h', toks := tk' } := by
  subst hR hus
  cases ps with
  | nil => simp [stk] at hlen
  | cons o r =>
    have hmem : ∀ q ∈ (o :: r).map opObj ++ lv g V, q ∈ (I, iobj) :: (U, listOf (stk (o :: r)).toArray k') :: (a, listOf vs.toArray k) :: ((o :: r).map opObj ++ lv g V) := fun q hq => .tail _ (.tail _ (.tail _ hq))
    obtain ⟨hm1, hm2⟩ := app_mem hmem
    obtain ⟨⟨t1, c1⟩, c2, c3, c4, c5⟩ := hch
    have hsub : ∀ z ∈ I :: L :: U :: (opens o.a r ++ hid), z ∈ I :: L :: U :: (opens a (o :: r) ++ hid) := fun z hz => by
      rcases List.mem_cons.mp hz with rfl | hz
      · exact .head _
      rcases List.mem_cons.mp hz with rfl | hz
      · exact .tail _ (.head _)
      rcases List.mem_cons.mp hz with rfl | hz
      · exact .tail _ (.tail _ (.head _))
      · exact .tail _ (.tail _ (.tail _ (.tail _ hz)))
    have hV : V.StaysIn (hideAll h' (I :: L :: U :: (opens o.a r ++ hid))) := stays_hide (fun z hz => Y.off z (hsub z hz)) (Y.stays F N hm2)
    obtain ⟨d0, d1, d2, d3⟩ := nodup3 hnd
    have ha : (a, listOf vs.toArray k) ∈ (I, iobj) :: (U, listOf (stk (o :: r)).toArray k') :: (a, listOf vs.toArray k) :: ((o :: r).map opObj ++ lv g V) := .tail _ (.tail _ (.head _))
    have hahid : a ∉ I :: L :: U :: (opens o.a r ++ hid) := open_hid hal N ha (hU a (.head _)) (fun e => d0 e.symm) (fun e => d2 (e ▸ .head _)) (fun q => d2 (.tail _ q))
    have hal' : (hideAll h' (I :: L :: U :: (opens o.a r ++ hid))).IsList a vs.toArray := ⟨_, hideAll_get _ (N _ ha).1 hahid, rfl, _, rfl⟩
    have N8 := tree_end (I := I) (U := U) (a := o.a) (ps := r) hid F N (.head _) (.tail _ (.head _)) (hm1 _ (.head _)) (fun q hq => hm1 _ (List.mem_map.mpr ⟨q, .tail _ hq, rfl⟩))
    have Y8 : Vis g (I :: L :: U :: (opens o.a r ++ hid)) (hideAll h' (I :: L :: U :: (opens o.a r ++ hid))) := Vis.of_hide F.keep
    refine ⟨h', tk', _, _, rfl, Fr.skip3 nm_12 nm_13 F, N8, ?_, htk, r, o.a, o.vs ++ [.ref o.P], o.k, k', o.p.app (.dir o.nm p .nil), _, _, _, _, fun v hv => hr v (.tail _ hv), ?_, Y8.sub (fun z hz => .tail _ hz), ?_, htp, ?_, good_app _ _ c4 ⟨c3, hgp, trivial⟩, c5.mono hV, rfl, ?_⟩
    · refine List.forall_mem_cons.mpr ⟨q1, List.forall_mem_cons.mpr ⟨hU _ (.tail _ (.head _)), app_ne (fun q hq => ?_) (lv_ne Y8 (.head _))⟩⟩
      obtain ⟨z, hz, rfl⟩ := List.mem_map.mp hq
      exact hU z.a (.tail _ (.tail _ (List.mem_map.mpr ⟨z, hz, rfl⟩)))
    · rw [nodes_app]
      simp only [T.nodes, sumN] at hn ⊢
      omega
    · exact List.nodup_cons.mpr ⟨fun q => d1 q, d3⟩
    · rw [es_app]
      exact (c2.mono hV).append (.cons (Rd.tuple_in (vs := [.str (S o.nm) t1, .ref a]) (c1.keeps hV) (.cons .str (.cons (Rd.list_in hal' (hvs.mono hV)) .nil))) .nil)
    · rw [stk_cons]
theorem turn_file {D : Addr} {nm bd : List Nat} {t1 t2 : Tok} (hal : ∀ a ∈ hid, (g.get? a).isSome = true) (hr : IntsR (Value.int x t :: rest)) (hn : p.nodes + sumN ps + (rest.length + 1) ≤ cnt) (hnd : (U :: opens a ps).Nodup) (htp : topOf a ps = tp) (hvs : RdAll V vs p.es) (hgp : p.Good) (hch : Chain V a ps)
    (hU : ∀ z ∈ opens a ps, z ≠ I) (q1 : U ≠ I) (hic : iobj.cls = .type "list_iterator") (Y : Vis g (I :: L :: U :: (opens a ps ++ hid)) V) (hR : ps.map opObj ++ lv g V = R) (hus : stk ps = us) (h1 : NameOk nm) (h2 : BodyOk bd)
    (F : Fr g L h' (fun y => if y = Str.ofString "n" then u1 else if y = Str.ofString "x" then u2 else if y = Str.ofString "inner" then u3 else if y = Str.ofString "n" then u4 else if y = Str.ofString "x" then u5 else m0 y))
    (N : News g L h' ((D, { cls := Value.type "tuple", data := Data.seq #[Value.str (S nm) t1, Value.str (S bd) t2] }) :: (I, iobj) :: (U, listOf (us ++ [Value.ref a]).toArray kU) :: (a, listOf (vs ++ [Value.ref D]).toArray k') :: R)) (htk : 1 ≤ tk') : ForTurn g L s I iobj (TreeJ g hid L U tp cnt m0) rest { s with heap := h', toks := tk' } := by
  subst hR hus
  have hmem : ∀ q ∈ ps.map opObj ++ lv g V, q ∈ (D, { cls := Value.type "tuple", data := Data.seq #[Value.str (S nm) t1, Value.str (S bd) t2] }) :: (I, iobj) :: (U, listOf (stk ps ++ [Value.ref a]).toArray kU) :: (a, listOf (vs ++ [Value.ref D]).toArray k') :: (ps.map opObj ++ lv g V) := fun q hq => .tail _ (.tail _ (.tail _ (.tail _ hq)))
  obtain ⟨hm1, hm2⟩ := app_mem hmem
  have hV : V.StaysIn (hideAll h' (I :: L :: U :: (opens a ps ++ hid))) := stays_hide Y.off (Y.stays F N hm2)
  have hDh : D ∉ I :: L :: U :: (opens a ps ++ hid) := open_hid hal N (.head _) (ne_cls N (.head _) (.tail _ (.head _)) (by rw [hic]; show Value.type "tuple" ≠ Value.type "list_iterator"; decide)) (ne_cls N (.head _) (.tail _ (.tail _ (.head _))) (show Value.type "tuple" ≠ Value.type "list" by decide))
    (ne_cls N (.head _) (.tail _ (.tail _ (.tail _ (.head _)))) (show Value.type "tuple" ≠ Value.type "list" by decide)) (fun q => by
      obtain ⟨z, hz, e⟩ := List.mem_map.mp q
      exact ne_cls (b := z.a) (ob := (opObj z).2) N (.head _) (hm1 _ (List.mem_map.mpr ⟨z, hz, rfl⟩)) (show Value.type "tuple" ≠ Value.type "list" by decide) e.symm)
  have N8 := tree_end (I := I) (U := U) (a := a) (ps := ps) hid F N (.tail _ (.head _)) (.tail _ (.tail _ (.head _))) (.tail _ (.tail _ (.tail _ (.head _)))) (fun q hq => hm1 _ (List.mem_map.mpr ⟨q, hq, rfl⟩))
  have Y8 : Vis g (I :: L :: U :: (opens a ps ++ hid)) (hideAll h' (I :: L :: U :: (opens a ps ++ hid))) := Vis.of_hide F.keep
  refine ⟨h', tk', _, _, rfl, Fr.skip3 nm_12 nm_13 F, N8, ?_, htk, ps, a, vs ++ [.ref D], k', kU, p.app (.file nm bd .nil), _, _, _, _, fun v hv => hr v (.tail _ hv), ?_, Y8.sub (fun z hz => .tail _ hz), hnd, htp, ?_, good_app _ _ hgp ⟨h1, h2, trivial⟩, hch.mono hV, rfl, rfl⟩
  · refine List.forall_mem_cons.mpr ⟨q1, List.forall_mem_cons.mpr ⟨hU _ (.head _), app_ne (fun q hq => ?_) (lv_ne Y8 (.head _))⟩⟩
    obtain ⟨z, hz, rfl⟩ := List.mem_map.mp hq
    exact hU z.a (.tail _ (List.mem_map.mpr ⟨z, hz, rfl⟩))
  · rw [nodes_app]
    simp only [T.nodes] at hn ⊢
    omega
  · rw [es_app]
    exact (hvs.mono hV).append (.cons (.tuple_of (vs := #[Value.str (S nm) t1, Value.str (S bd) t2]) (hideAll_get _ (N _ (.head _)).1 hDh) rfl rfl (.cons .str (.cons .str .nil))) .nil)
theorem turn_open {D l' : Addr} {nm : List Nat} {t1 : Tok} (hal : ∀ a ∈ hid, (g.get? a).isSome = true) (hr : IntsR (Value.int x t :: rest)) (hn : p.nodes + sumN ps + (rest.length + 1) ≤ cnt) (hnd : (U :: opens a ps).Nodup) (htp : topOf a ps = tp) (hvs : RdAll V vs p.es) (hgp : p.Good) (hch : Chain V a ps)
    (hU : ∀ z ∈ opens a ps, z ≠ I) (q1 : U ≠ I) (hic : iobj.cls = .type "list_iterator") (Y : Vis g (I :: L :: U :: (opens a ps ++ hid)) V) (hR : ps.map opObj ++ lv g V = R) (hus : stk ps = us) (h1 : NameOk nm) (hlt : I < l' ∧ U < l' ∧ a < l' ∧ AllLt l' R)
    (F : Fr g L h' (fun y => if y = Str.ofString "inner" then u1 else if y = Str.ofString "n" then u2 else if y = Str.ofString "x" then u3 else if y = Str.ofString "inner" then u4 else if y = Str.ofString "n" then u5 else if y = Str.ofString "x" then u6 else m0 y))
    (N : News g L h' ((D, { cls := Value.type "tuple", data := Data.seq #[Value.str (S nm) t1, Value.ref l'] }) :: (l', listOf #[] 0) :: (I, iobj) :: (U, listOf (us ++ [Value.ref a] ++ [Value.ref l']).toArray kU) :: (a, listOf (vs ++ [Value.ref D]).toArray k') :: R)) (htk : 1 ≤ tk') : ForTurn g L s I iobj (TreeJ g hid L U tp cnt m0) rest { s with heap := h', toks := tk' } := by
  subst hR hus
  have hmem : ∀ q ∈ ps.map opObj ++ lv g V, q ∈ (D, { cls := Value.type "tuple", data := Data.seq #[Value.str (S nm) t1, Value.ref l'] }) :: (l', listOf #[] 0) :: (I, iobj) :: (U, listOf (stk ps ++ [Value.ref a] ++ [Value.ref l']).toArray kU) :: (a, listOf (vs ++ [Value.ref D]).toArray k') :: (ps.map opObj ++ lv g V) := fun q hq => .tail _ (.tail _ (.tail _ (.tail _ (.tail _ hq))))
  obtain ⟨hm1, hm2⟩ := app_mem hmem
  obtain ⟨z1, z2, z3, z4⟩ := hlt
  have hno : l' ∉ ps.map (·.a) := fun q => by
    obtain ⟨z, hz, e⟩ := List.mem_map.mp q
    have : z.a < l' := ktn_ltOf z4 (opObj z) (List.mem_append_left _ (List.mem_map.mpr ⟨z, hz, rfl⟩))
    exact absurd e (Nat.ne_of_lt this)
  have hlV : V.get? l' = none := by
    cases q : V.get? l' with
    | none => rfl
    | some o =>
      have : l' < l' := ktn_ltOf z4 (l', o) (List.mem_append_right _ (mem_lv.mpr ⟨q, (N _ (.tail _ (.head _))).2.2⟩))
      exact absurd this (Nat.lt_irrefl _)
  have hsub : ∀ z ∈ I :: L :: U :: (opens l' (⟨a, D, vs, k', p, nm⟩ :: ps) ++ hid), z = l' ∨ z ∈ I :: L :: U :: (opens a ps ++ hid) := fun z hz => by
    rcases List.mem_cons.mp hz with rfl | hz
    · exact .inr (.head _)
    rcases List.mem_cons.mp hz with rfl | hz
    · exact .inr (.tail _ (.head _))
    rcases List.mem_cons.mp hz with rfl | hz
    · exact .inr (.tail _ (.tail _ (.head _)))
    rcases List.mem_cons.mp hz with rfl | hz
    · exact .inl rfl
    · exact .inr (.tail _ (.tail _ (.tail _ hz)))
  have hV : V.StaysIn (hideAll h' (I :: L :: U :: (opens l' (⟨a, D, vs, k', p, nm⟩ :: ps) ++ hid))) := stays_hide (fun z hz => by
    rcases hsub z hz with rfl | hz
    · exact hlV
    · exact Y.off z hz) (Y.stays F N hm2)
  have hDh : D ∉ I :: L :: U :: (opens l' (⟨a, D, vs, k', p, nm⟩ :: ps) ++ hid) := open_hid hal N (.head _) (ne_cls N (.head _) (.tail _ (.tail _ (.head _))) (by rw [hic]; show Value.type "tuple" ≠ Value.type "list_iterator"; decide)) (ne_cls N (.head _) (.tail _ (.tail _ (.tail _ (.head _)))) (show Value.type "tuple" ≠ Value.type "list" by decide))
    (ne_cls N (.head _) (.tail _ (.head _)) (show Value.type "tuple" ≠ Value.type "list" by decide)) (fun q => by
      rcases List.mem_cons.mp q with e | q
      · exact ne_cls N (.head _) (.tail _ (.tail _ (.tail _ (.tail _ (.head _))))) (show Value.type "tuple" ≠ Value.type "list" by decide) e
      · obtain ⟨z, hz, e⟩ := List.mem_map.mp q
        exact ne_cls (b := z.a) (ob := (opObj z).2) N (.head _) (hm1 _ (List.mem_map.mpr ⟨z, hz, rfl⟩)) (show Value.type "tuple" ≠ Value.type "list" by decide) e.symm)
  have N8 := tree_end (I := I) (U := U) (a := l') (ps := ⟨a, D, vs, k', p, nm⟩ :: ps) hid F N (.tail _ (.tail _ (.head _))) (.tail _ (.tail _ (.tail _ (.head _)))) (.tail _ (.head _)) (fun q hq => by
    rcases List.mem_cons.mp hq with rfl | hq
    · exact .tail _ (.tail _ (.tail _ (.tail _ (.head _))))
    · exact hm1 _ (List.mem_map.mpr ⟨q, hq, rfl⟩))
  have Y8 : Vis g (I :: L :: U :: (opens l' (⟨a, D, vs, k', p, nm⟩ :: ps) ++ hid)) (hideAll h' (I :: L :: U :: (opens l' (⟨a, D, vs, k', p, nm⟩ :: ps) ++ hid))) := Vis.of_hide F.keep
  obtain ⟨d0, d1, d2, d3⟩ := nodup3 hnd
  have e1 : l' ≠ I := Nat.ne_of_gt z1
  have e2 : l' ≠ U := Nat.ne_of_gt z2
  have e3 : l' ≠ a := Nat.ne_of_gt z3
  refine ⟨h', tk', _, _, rfl, Fr.three F, N8, ?_, htk, ⟨a, D, vs, k', p, nm⟩ :: ps, l', [], 0, kU, .nil, _, _, _, _, fun v hv => hr v (.tail _ hv), ?_, Y8.sub (fun z hz => .tail _ hz), ?_, htp, .nil, trivial, ⟨⟨t1, ?_⟩, hvs.mono hV, h1, hgp, hch.mono hV⟩, rfl, ?_⟩
  · refine List.forall_mem_cons.mpr ⟨q1, List.forall_mem_cons.mpr ⟨e1, app_ne (fun q hq => ?_) (lv_ne Y8 (.head _))⟩⟩
    obtain ⟨z, hz, rfl⟩ := List.mem_map.mp hq
    rcases List.mem_cons.mp hz with rfl | hz
    · exact hU a (.head _)
    · exact hU z.a (.tail _ (List.mem_map.mpr ⟨z, hz, rfl⟩))
  · simp only [T.nodes, sumN] at hn ⊢
    omega
  · refine List.nodup_cons.mpr ⟨fun q => ?_, List.nodup_cons.mpr ⟨fun q => ?_, List.nodup_cons.mpr ⟨d2, d3⟩⟩⟩
    · rcases List.mem_cons.mp q with e | q
      · exact e2 e.symm
      rcases List.mem_cons.mp q with e | q
      · exact d0 e
      · exact d1 q
    · rcases List.mem_cons.mp q with e | q
      · exact e3 e
      · exact hno q
  · exact ⟨_, hideAll_get _ (N _ (.head _)).1 hDh, rfl, _, rfl⟩
  · rw [stk_cons]
end
theorem tree_done {g h' V : Heap} {hid : List Addr} {L U tp a : Addr} {cnt k kU : Nat} {m : Str → Option Value} {vs us : List Value} {ps : List Op} {p : T}
    (hal : ∀ a ∈ hid, (g.get? a).isSome = true) (F : Fr g L h' m) (N : News g L h' ((U, listOf us.toArray kU) :: (a, listOf vs.toArray k) :: (ps.map opObj ++ lv g V))) (Y : Vis g (L :: U :: (opens a ps ++ hid)) V) (hnd : (U :: opens a ps).Nodup) (htp : topOf a ps = tp) (hvs : RdAll V vs p.es) (hgp : p.Good) (hch : Chain V a ps)
    (hn : p.nodes + sumN ps + ([] : List Value).length ≤ cnt) : ∃ t : T, t.Good ∧ t.nodes ≤ cnt ∧ Rd (hideAll h' hid) (.ref tp) t.py := by
  subst htp
  have hmem : ∀ q ∈ ps.map opObj ++ lv g V, q ∈ (U, listOf us.toArray kU) :: (a, listOf vs.toArray k) :: (ps.map opObj ++ lv g V) := fun q hq => .tail _ (.tail _ hq)
  obtain ⟨hm1, hm2⟩ := app_mem hmem
  have hV : V.StaysIn (hideAll h' hid) := Y.out F N hm2 fun z hz => .tail _ (.tail _ (List.mem_append_right _ hz))
  refine ⟨closeAll p ps, close_good ps p a hch hgp, by rw [close_nodes]; simpa using hn, close_rd ps p a vs ⟨_, hideAll_get _ (N _ (.tail _ (.head _))).1 (nothid_news hal N (.tail _ (.head _))), rfl, _, rfl⟩ (hvs.mono hV) (hch.mono hV) fun o ho => ?_⟩
  have hm := hm1 _ (List.mem_map.mpr ⟨o, ho, rfl⟩)
  exact hideAll_get _ (N (o.a, (opObj o).2) hm).1 (nothid_news (o := (opObj o).2) hal N hm)
set_option maxHeartbeats 4000000 in
theorem tree_spec (W : Wd) (cells : List Value) (cnt : Nat) (v : Value) (hc : cells.length ≤ cnt) (hcnt : cnt ≤ 1000) (hints : IntsR cells) :
    Spec W 186 [v] 2 6 (fun V => ∃ c, v = .ref c ∧ V.IsList c cells.toArray) (fun V r => ∃ t : T, t.Good ∧ t.nodes ≤ cnt ∧ Rd V r t.py) := by
  refine' Spec.intro (binds := [(Str.ofString "cells", v)]) ?ho ?hcd ?hbind ?hloc (by omega) (by omega) ?hcell ?hco ?hgen ?hk ?hb
  tb_start
  intro dp un gd outer A₀ base L h₁ tk hid s Q B F X T hdp hun htk hal hpre hret
  have hdp1 : dp + 1 < recursionLimit := by omega
  have hun1 : un + 3 < cLine := by omega
  have N : News s.heap L h₁ [] := news0
  obtain ⟨c, rfl, hcl⟩ := hpre
  have hcl' : s.heap.IsList c cells.toArray := islist_mono of_hide_stays hcl
  k_steps
  rename Fr _ _ _ _ => F9
  rename News _ _ _ _ => N9
  rename _ < _ => q9
  have q8 : @Ne Nat _ _ := Nat.ne_of_gt q9
  have N8 := tree_start hid F9 N9
  refine for_list (L := L) rfl rfl hcl' (TreeJ s.heap hid L _ _ cnt _) F9 N8 (by first | assumption | exact Nat.le_add_left 1 _ | (dsimp only; omega)) ⟨[], _, [], 0, 0, .nil, _, _, _, _, hints, by simpa [Mine.T.nodes, sumN] using hc, Vis.of_hide F9.keep, ?_, rfl, .nil, trivial, trivial, tri0, rfl⟩ ?_ ?_
  · simp [opens, q8]
  · clear F9 N9 N8 q9 q8
    rintro v rest m₁ news₁ h₁ tk₁ I iobj _ hic ⟨ps, a, vs, k, kU, p, V, v1, v2, v3, hr, hn, Y, hnd, htp, hvs, hgp, hch, rfl, rfl⟩ F9 N9 hI k9
    obtain ⟨x, t, rfl⟩ := hr v (.head _)
    have NI := N9 _ (.head _)
    have hU : ∀ z, z ∈ opens a ps → @Ne Nat z I := fun z hz => by
      rcases List.mem_cons.mp hz with rfl | hz
      · exact hI _ (.tail _ (.head _))
      · obtain ⟨o, ho, rfl⟩ := List.mem_map.mp hz
        exact hI (opObj o) (.tail _ (.tail _ (List.mem_append.mpr (.inl (List.mem_map.mpr ⟨o, ho, rfl⟩)))))
    have q1 : @Ne Nat _ I := hI _ (.head _)
    have q2 : @Ne Nat a I := hU a (.head _)
    obtain ⟨q3, d1, d2, d3⟩ := nodup3 hnd
    have q4 : @Ne Nat _ a := q3
    have Y' := Y.also NI.2.2 (fun p hp => hI p (.tail _ (.tail _ (List.mem_append.mpr (.inr hp)))))
    clear Y
    have hRU : ∀ p ∈ ps.map opObj ++ lv s.heap V, p.1 ≠ _ := app_ne (ops_ne d1) (lv_ne Y' (.tail _ (.tail _ (.head _))))
    have hRa : ∀ p ∈ ps.map opObj ++ lv s.heap V, p.1 ≠ a := app_ne (ops_ne d2) (lv_ne Y' (.tail _ (.tail _ (.tail _ (.head _)))))
    obtain ⟨R, hR⟩ : ∃ R, ps.map opObj ++ lv s.heap V = R := ⟨_, rfl⟩
    obtain ⟨us, hus⟩ : ∃ us, stk ps = us := ⟨_, rfl⟩
    have hul : us.length = ps.length := by rw [← hus, stk, List.length_reverse, List.length_map]
    have hpl := sumN_len ps
    have hvl := hvs.len
    have hel := es_len p
    rw [List.length_cons] at hn
    rw [hR, hus] at N9
    rw [hR] at hRU hRa
    k_steps
    all_goals (rename Fr _ _ _ _ => F8; rename News _ _ _ _ => N8)
    all_goals first
      | exact turn_pop hal hr hn hnd htp hvs hgp hch hU q1 Y' hR hus (by with_reducible assumption) F8 N8 (by first | assumption | exact Nat.le_add_left 1 _ | (dsimp only; omega))
      | exact turn_file hal hr hn hnd htp hvs hgp hch hU q1 hic Y' hR hus (by with_reducible assumption) (by with_reducible assumption) F8 N8 (by first | assumption | exact Nat.le_add_left 1 _ | (dsimp only; omega))
      | exact turn_open hal hr hn hnd htp hvs hgp hch hU q1 hic Y' hR hus (by with_reducible assumption) (by with_reducible assumption) F8 N8 (by first | assumption | exact Nat.le_add_left 1 _ | (dsimp only; omega))
  · clear F9 N9 N8 q9 q8
    rintro h₁ tk₁ m₁ news₁ ⟨ps, a, vs, k, kU, p, V, v1, v2, v3, hr, hn, Y, hnd, htp, hvs, hgp, hch, rfl, rfl⟩ F9 N9 k9
    k_steps
    all_goals (rename Fr _ _ _ _ => F8; rename News _ _ _ _ => N8)
    all_goals (refine hret _ _ _ F8.keep ?_)
    all_goals exact tree_done hal F8 N8 Y hnd htp hvs hgp hch hn
/-! part L1 -/
/-! rows read straight -/
def rowsR : List Nat → Rows
  | [] => [[]]
  | [c] => if c = 10 ∨ c = 13 then [[], []] else [[c]]
  | c :: d :: r => if c = 13 ∧ d = 10 then [] :: rowsR r else if c = 10 ∨ c = 13 then [] :: rowsR (d :: r) else consHd c (rowsR (d :: r))
def rep1 : List Nat → List Nat
  | [] => []
  | [c] => [c]
  | c :: d :: r => if c = 13 ∧ d = 10 then 10 :: rep1 r else c :: rep1 (d :: r)
def spl10 : List Nat → Rows
  | [] => [[]]
  | c :: r => if c = 10 then [] :: spl10 r else consHd c (spl10 r)
theorem pref2 {c d : Nat} {r : List Nat} : [13, 10] <+: c :: d :: r ↔ c = 13 ∧ d = 10 := by
  rw [List.cons_prefix_cons, List.cons_prefix_cons]
  exact ⟨fun h => ⟨h.1.symm, h.2.1.symm⟩, fun h => ⟨h.1.symm, h.2.symm, List.nil_prefix⟩⟩
theorem pref1 {a c : Nat} {r : List Nat} : [a] <+: c :: r ↔ c = a := by
  rw [List.cons_prefix_cons]
  exact ⟨fun h => h.1.symm, fun h => ⟨h.symm, List.nil_prefix⟩⟩
theorem pref2s {c : Nat} : ¬ [13, 10] <+: [c] := fun h => absurd h.length_le (by simp)
theorem join_rep1 : ∀ (n : Nat) (x : List Nat), x.length < n → joinG [10] (splitG [13, 10] n x) = rep1 x
  | 0, _, h => absurd h (Nat.not_lt_zero _)
  | n + 1, [], _ => rfl
  | n + 1, [c], h => by
    rw [splitG, if_neg pref2s]
    cases n with
    | zero => simp at h
    | succ n => rfl
  | n + 1, c :: d :: r, h => by
    simp only [List.length_cons] at h
    rw [splitG, rep1]
    by_cases q : c = 13 ∧ d = 10
    · rw [if_pos (pref2.mpr q), if_pos q]
      have ih := join_rep1 n r (by omega)
      obtain ⟨p, ps, e⟩ := splitG_ne [13, 10] n r
      show joinG [10] ([] :: splitG [13, 10] n r) = _
      rw [e] at ih ⊢
      rw [joinG_nil_cons, ih]; rfl
    · rw [if_neg (fun z => q (pref2.mp z)), if_neg q]
      have ih := join_rep1 n (d :: r) (by simp only [List.length_cons]; omega)
      obtain ⟨p, ps, e⟩ := splitG_ne [13, 10] n (d :: r)
      rw [e] at ih ⊢
      rw [joinG_consHd, ih]
theorem join_map : ∀ (n : Nat) (x : List Nat), x.length < n → joinG [10] (splitG [13] n x) = x.map fun c => if c = 13 then 10 else c
  | 0, _, h => absurd h (Nat.not_lt_zero _)
  | n + 1, [], _ => rfl
  | n + 1, c :: r, h => by
    simp only [List.length_cons] at h
    have ih := join_map n r (by omega)
    obtain ⟨p, ps, e⟩ := splitG_ne [13] n r
    rw [splitG, List.map_cons]
    by_cases q : c = 13
    · rw [if_pos (pref1.mpr q), if_pos q]
      show joinG [10] ([] :: splitG [13] n r) = _
      rw [e] at ih ⊢
      rw [joinG_nil_cons, ih]; rfl
    · rw [if_neg (fun z => q (pref1.mp z)), if_neg q]
      rw [e] at ih ⊢
      rw [joinG_consHd, ih]
theorem split_spl : ∀ (n : Nat) (x : List Nat), x.length < n → splitG [10] n x = spl10 x
  | 0, _, h => absurd h (Nat.not_lt_zero _)
  | n + 1, [], _ => rfl
  | n + 1, c :: r, h => by
    simp only [List.length_cons] at h
    have ih := split_spl n r (by omega)
    rw [splitG, spl10]
    by_cases q : c = 10
    · rw [if_pos (pref1.mpr q), if_pos q, ← ih]; rfl
    · rw [if_neg (fun z => q (pref1.mp z)), if_neg q, ih]
theorem spl_rows : ∀ x : List Nat, spl10 ((rep1 x).map fun c => if c = 13 then 10 else c) = rowsR x
  | [] => rfl
  | [c] => by
    rw [rep1, rowsR, List.map_cons, List.map_nil, spl10]
    by_cases q : c = 13
    · rw [if_pos q, if_pos rfl, if_pos (.inr q)]; rfl
    · rw [if_neg q]
      by_cases q2 : c = 10
      · rw [if_pos q2, if_pos (.inl q2)]; rfl
      · rw [if_neg q2, if_neg (by simp [q, q2])]; rfl
  | c :: d :: r => by
    rw [rep1, rowsR]
    by_cases q : c = 13 ∧ d = 10
    · rw [if_pos q, if_pos q, List.map_cons, spl10, if_pos (by decide), spl_rows r]
    · rw [if_neg q, if_neg q, List.map_cons, spl10, spl_rows (d :: r)]
      by_cases q1 : c = 13
      · rw [if_pos q1, if_pos rfl, if_pos (.inr q1)]
      · rw [if_neg q1]
        by_cases q2 : c = 10
        · rw [if_pos q2, if_pos (.inl q2)]
        · rw [if_neg q2, if_neg (by simp [q1, q2])]
theorem rowsL_eq (x : List Nat) : rowsL x = rowsR x := by
  unfold rowsL
  rw [split_spl _ _ (Nat.lt_succ_self _), repl2, join_map _ _ (Nat.lt_succ_self _), repl1, join_rep1 _ _ (Nat.lt_succ_self _), spl_rows]

/-! rows, each with its end -/
def unl (rs : Rows) : List Nat := rs.flatMap (· ++ [13, 10])
def NoEnd (l : List Nat) : Prop := ∀ c ∈ l, c ≠ 10 ∧ c ≠ 13
theorem unl_cons (r : List Nat) (rs : Rows) : unl (r :: rs) = r ++ 13 :: 10 :: unl rs := by simp [unl]
theorem unl_append (a b : Rows) : unl (a ++ b) = unl a ++ unl b := by simp [unl]
theorem unl_consHd (c : Nat) {rs : Rows} (h : ∃ p ps, rs = p :: ps) : unl (consHd c rs) = c :: unl rs := by
  obtain ⟨p, ps, rfl⟩ := h
  show unl ((c :: p) :: ps) = _
  rw [unl_cons, unl_cons]; rfl
theorem rowsR_ne : ∀ x : List Nat, ∃ p ps, rowsR x = p :: ps
  | [] => ⟨_, _, rfl⟩
  | [c] => by rw [rowsR]; split <;> exact ⟨_, _, rfl⟩
  | c :: d :: r => by
    rw [rowsR]
    split
    · exact ⟨_, _, rfl⟩
    · split
      · exact ⟨_, _, rfl⟩
      · obtain ⟨p, ps, e⟩ := rowsR_ne (d :: r)
        rw [e]; exact ⟨_, _, rfl⟩
theorem crlf_rows : ∀ x : List Nat, crlf x ++ [13, 10] = unl (rowsR x)
  | [] => rfl
  | [c] => by
    rw [rowsR, crlf]
    split <;> rfl
  | c :: d :: r => by
    rw [rowsR, crlf]
    split
    · rw [unl_cons, ← crlf_rows r]; rfl
    · split
      · rw [unl_cons, ← crlf_rows (d :: r)]; rfl
      · rw [unl_consHd _ (rowsR_ne _), ← crlf_rows (d :: r)]; rfl
theorem noend_consHd {c : Nat} (h : ¬ (c = 10 ∨ c = 13)) {rs : Rows} (hr : ∀ r ∈ rs, NoEnd r) : ∀ r ∈ consHd c rs, NoEnd r := by
  have hc : c ≠ 10 ∧ c ≠ 13 := ⟨fun e => h (.inl e), fun e => h (.inr e)⟩
  cases rs with
  | nil => intro r hm; rw [List.mem_singleton.mp hm]; intro z hz; rw [List.mem_singleton.mp hz]; exact hc
  | cons p ps =>
    intro r hm
    rcases List.mem_cons.mp hm with rfl | hm
    · intro z hz
      rcases List.mem_cons.mp hz with rfl | hz
      · exact hc
      · exact hr p (.head _) z hz
    · exact hr r (.tail _ hm)
theorem noend_nil : NoEnd [] := fun _ h => nomatch h
theorem noend_one {c : Nat} (h : ¬ (c = 10 ∨ c = 13)) : NoEnd [c] := fun z hz => by
  rw [List.mem_singleton.mp hz]; exact ⟨fun e => h (.inl e), fun e => h (.inr e)⟩
theorem rowsR_noend : ∀ x : List Nat, ∀ r ∈ rowsR x, NoEnd r
  | [] => fun r h => by rw [List.mem_singleton.mp h]; exact noend_nil
  | [c] => by
    rw [rowsR]
    split
    · intro r h
      rcases List.mem_cons.mp h with rfl | h
      · exact noend_nil
      · rw [List.mem_singleton.mp h]; exact noend_nil
    · rename_i q
      intro r h
      rw [List.mem_singleton.mp h]; exact noend_one q
  | c :: d :: r => by
    rw [rowsR]
    split
    · intro x h
      rcases List.mem_cons.mp h with rfl | h
      · exact noend_nil
      · exact rowsR_noend r x h
    · split
      · intro x h
        rcases List.mem_cons.mp h with rfl | h
        · exact noend_nil
        · exact rowsR_noend (d :: r) x h
      · rename_i q
        exact noend_consHd q (rowsR_noend (d :: r))
/-! rows through both substitutions -/
theorem crlf_row : ∀ (r x : List Nat), NoEnd r → crlf (r ++ x) = r ++ crlf x
  | [], _, _ => rfl
  | c :: r, x, h => by
    have hc := h c (.head _)
    rw [List.cons_append, crlf_cons (by intro q; rcases q with q | q; exact hc.1 q; exact hc.2 q), crlf_row r x (fun z hz => h z (.tail _ hz))]; rfl
theorem crlf_unl : ∀ rs : Rows, (∀ r ∈ rs, NoEnd r) → crlf (unl rs) = unl rs
  | [], _ => rfl
  | r :: rs, h => by rw [unl_cons, crlf_row _ _ (h r (.head _)), crlf_pair, crlf_unl rs fun z hz => h z (.tail _ hz)]
theorem dots_row0 : ∀ (r x : List Nat), NoEnd r → dots false (r ++ 13 :: 10 :: x) = r ++ 13 :: 10 :: dots true x
  | [], x, _ => by rw [List.nil_append, dots, dots]; rfl
  | c :: r, x, h => by
    have hc := h c (.head _)
    rw [List.cons_append, dots, show (c == 10) = false from by simp [hc.1], dots_row0 r x (fun z hz => h z (.tail _ hz))]; simp
theorem dots_row : ∀ (r x : List Nat), NoEnd r → dots true (r ++ 13 :: 10 :: x) = liftL 1 r ++ 13 :: 10 :: dots true x
  | [], x, _ => by rw [List.nil_append, dots, dots]; rfl
  | c :: r, x, h => by
    have hc := h c (.head _)
    rw [List.cons_append, dots, show (c == 10) = false from by simp [hc.1], dots_row0 r x (fun z hz => h z (.tail _ hz)), liftL]
    by_cases q : c = 46
    · subst q; rfl
    · rw [if_neg (by simp [q]), if_neg (by simp [q])]; rfl
theorem dots_unl : ∀ rs : Rows, (∀ r ∈ rs, NoEnd r) → dots true (unl rs) = unl (rs.map (liftL 1))
  | [], _ => rfl
  | r :: rs, h => by rw [unl_cons, dots_row _ _ (h r (.head _)), dots_unl rs (fun z hz => h z (.tail _ hz)), List.map_cons, unl_cons]
theorem qd_unl {rs : Rows} (h : ∀ r ∈ rs, NoEnd r) : qdL (unl rs) = unl (rs.map (liftL 1)) := by
  rw [qdL, crlf_unl rs h, dots_unl rs h]
theorem dots_end : ∀ (x : List Nat) (b : Bool), dots b (x ++ [13, 10]) = dots b x ++ [13, 10]
  | [], b => by simp [dots]
  | c :: r, b => by rw [List.cons_append, dots, dots, dots_end r, List.append_assoc]
theorem qd_body (x : List Nat) : qdL x ++ [13, 10] = unl ((rowsL x).map (liftL 1)) := by
  rw [qdL, ← dots_end, crlf_rows, rowsL_eq, dots_unl _ (rowsR_noend x)]

/-! the rows that are told -/
theorem noend_lift {d : Nat} {r : List Nat} (h : NoEnd r) : NoEnd (liftL d r) := by
  unfold liftL
  split
  · intro c hc
    rcases List.mem_append.mp hc with hc | hc
    · rw [(List.mem_replicate.mp hc).2]; decide
    · exact h c hc
  · exact h
theorem noend_dots (d : Nat) : NoEnd (List.replicate d 46) := fun c hc => by rw [(List.mem_replicate.mp hc).2]; decide
theorem NameOk.noend {l : List Nat} (h : NameOk l) : NoEnd l := fun c hc => ⟨(h.2.2 c hc).1, (h.2.2 c hc).2.1⟩
theorem noend_slash {l : List Nat} (h : NoEnd l) : NoEnd (l ++ [47]) := fun c hc => by
  rcases List.mem_append.mp hc with hc | hc
  · exact h c hc
  · rw [List.mem_singleton.mp hc]; decide
theorem told_noend : ∀ (t : T) (d : Nat), t.Good → ∀ r ∈ toldL t d, NoEnd r
  | .nil, _, _ => fun r h => nomatch h
  | .file nm bd r, d, h => by
    intro x hx
    rw [toldL] at hx
    rcases List.mem_cons.mp hx with rfl | hx
    · exact noend_lift h.1.noend
    rcases List.mem_append.mp hx with hx | hx
    · obtain ⟨y, hy, rfl⟩ := List.mem_map.mp hx
      rw [rowsL_eq] at hy
      exact noend_lift (rowsR_noend _ _ hy)
    rcases List.mem_cons.mp hx with rfl | hx
    · exact noend_dots _
    · exact told_noend r d h.2.2 x hx
  | .dir nm i r, d, h => by
    intro x hx
    rw [toldL] at hx
    rcases List.mem_cons.mp hx with rfl | hx
    · exact noend_lift (noend_slash h.1.noend)
    rcases List.mem_append.mp hx with hx | hx
    · exact told_noend i (d + 1) h.2.1 x hx
    rcases List.mem_cons.mp hx with rfl | hx
    · exact noend_dots _
    · exact told_noend r d h.2.2 x hx
theorem lift_lift (d : Nat) (r : List Nat) : liftL 1 (liftL d r) = liftL (d + 1) r := by
  unfold liftL
  by_cases q : r.take 1 = [46]
  · rw [if_pos q, if_pos q]
    have : (List.replicate d 46 ++ r).take 1 = [46] := by
      cases d with
      | zero => simpa using q
      | succ d => rw [List.replicate_succ]; rfl
    rw [if_pos this, ← List.append_assoc, show List.replicate 1 46 ++ List.replicate d 46 = List.replicate (d + 1) 46 by rw [List.replicate_append_replicate, Nat.add_comm]]
  · rw [if_neg q, if_neg q, if_neg q]
theorem lift_zero (r : List Nat) : liftL 0 r = r := by unfold liftL; split <;> rfl
theorem lift_dots (d : Nat) : liftL 1 (List.replicate (d + 1) 46) = List.replicate (d + 2) 46 := by
  unfold liftL
  rw [if_pos (by rw [List.replicate_succ]; rfl), List.replicate_append_replicate, Nat.add_comm]
theorem told_lift : ∀ (t : T) (d : Nat), (toldL t d).map (liftL 1) = toldL t (d + 1)
  | .nil, _ => rfl
  | .file nm bd r, d => by
    rw [toldL, toldL, List.map_cons, List.map_append, List.map_cons, told_lift r, lift_lift, lift_dots, List.map_map]
    congr 2
    apply List.map_congr_left
    intro a _
    exact lift_lift _ _
  | .dir nm i r, d => by
    rw [toldL, toldL, List.map_cons, List.map_append, List.map_cons, told_lift r, told_lift i, lift_lift, lift_dots]
theorem sent_unl : ∀ t : T, t.Good → sentL t = unl (toldL t 0)
  | .nil, _ => rfl
  | .file nm bd r, h => by
    rw [sentL, toldL, unl_cons, unl_append, unl_cons, ← qd_body, ← sent_unl r h.2.2, lift_zero]
    simp
  | .dir nm i r, h => by
    rw [sentL, toldL, unl_cons, unl_append, unl_cons, ← sent_unl r h.2.2, lift_zero, sent_unl i h.2.1, qd_unl (told_noend i 0 h.2.1), told_lift]
    simp
theorem split_row : ∀ (r : List Nat) (n : Nat) (x : List Nat), NoEnd r → r.length + 2 + x.length < n → splitG [13, 10] n (r ++ 13 :: 10 :: x) = r :: splitG [13, 10] (n - r.length - 1) x
  | [], n + 1, x, _, h => by
    rw [List.nil_append, splitG, if_pos (pref2.mpr ⟨rfl, rfl⟩)]; rfl
  | c :: r, n + 1, x, hr, h => by
    have hc := hr c (.head _)
    rw [List.cons_append, splitG, if_neg, split_row r n x (fun z hz => hr z (.tail _ hz)) (by simp only [List.length_cons] at h; omega)]
    · rw [show n + 1 - (c :: r).length - 1 = n - r.length - 1 by simp only [List.length_cons]; omega]; rfl
    · intro q
      rw [List.cons_prefix_cons] at q
      exact hc.2 q.1.symm
  | _, 0, _, _, h => absurd h (Nat.not_lt_zero _)
theorem split_unl : ∀ (rs : Rows) (n : Nat), (∀ r ∈ rs, NoEnd r) → (unl rs).length < n → splitG [13, 10] n (unl rs) = rs ++ [[]]
  | [], n + 1, _, _ => rfl
  | r :: rs, n, h, hn => by
    rw [unl_cons] at hn ⊢
    simp only [List.length_append, List.length_cons] at hn
    rw [split_row r n _ (h r (.head _)) (by omega), split_unl rs _ (fun z hz => h z (.tail _ hz)) (by omega)]; rfl
  | [], 0, _, h => absurd h (Nat.not_lt_zero _)
/-- the sent rows are the plain rows -/
theorem law_sent (t : T) (h : t.Good) : splitG [13, 10] ((sentL t).length + 1) (sentL t) = toldL t 0 ++ [[]] := by
  rw [sent_unl t h]
  exact split_unl _ _ (told_noend t 0 h) (Nat.lt_succ_self _)
/-! part L2 -/
/-! paths -/
theorem slash_at {x : List Nat} {k : Nat} (hk : k ≤ x.length) : StrLaws.At (S x) (S [47]) x.length k ↔ x[k]? = some 47 := by
  rw [at_pref hk]
  rcases Nat.lt_or_ge k x.length with h | h
  · rw [List.drop_eq_getElem_cons h, pref1, List.getElem?_eq_getElem h]; simp
  · rw [List.drop_of_length_le h, List.getElem?_eq_none h]; simp
theorem at_le {x : List Nat} {k : Nat} (h : StrLaws.At (S x) (S [47]) x.length k) : k ≤ x.length := by
  have := h.1; rw [S_len] at this; omega
theorem lsl_none {x : List Nat} (h : ∀ c ∈ x, c ≠ 47) : lsl x = 0 := by
  unfold lsl Txt.rfind
  rcases StrLaws.last_spec (S x) (S [47]) with ⟨e, _⟩ | ⟨i, _, ha, _⟩
  · rw [e]; rfl
  · rw [S_len] at ha
    exact absurd rfl (h 47 (List.mem_of_getElem? ((slash_at (at_le ha)).mp ha)))
theorem lsl_some {q x : List Nat} (h : ∀ c ∈ x, c ≠ 47) : lsl (q ++ 47 :: x) = q.length + 1 := by
  unfold lsl Txt.rfind
  have hq : (q ++ 47 :: x)[q.length]? = some 47 := by simp
  rcases StrLaws.last_spec (S (q ++ 47 :: x)) (S [47]) with ⟨_, hn⟩ | ⟨i, e, ha, hn⟩
  · rw [S_len] at hn
    exact absurd ((slash_at (by simp)).mpr hq) (hn q.length)
  · rw [e]
    rw [S_len] at ha hn
    have h1 := (slash_at (at_le ha)).mp ha
    have : i = q.length := by
      rcases Nat.lt_trichotomy i q.length with h2 | h2 | h2
      · exact absurd ((slash_at (by simp)).mpr hq) (hn _ h2)
      · exact h2
      · obtain ⟨j, rfl⟩ : ∃ j, i = q.length + 1 + j := ⟨i - q.length - 1, by omega⟩
        rw [List.getElem?_append_right (by omega), show q.length + 1 + j - q.length = j + 1 by omega, List.getElem?_cons_succ] at h1
        exact absurd rfl (h 47 (List.mem_of_getElem? h1))
    subst this
    simp only
    omega
theorem name_noslash {l : List Nat} (h : NameOk l) : ∀ c ∈ l, c ≠ 47 := fun c hc => (h.2.2 c hc).2.2.1
theorem name_take {l : List Nat} (h : NameOk l) : l.take 1 ≠ [47] := by
  cases l with
  | nil => exact fun e => nomatch e
  | cons c r =>
    intro e
    exact name_noslash h c (.head _) (by simpa using e)
theorem head_none {x : List Nat} (h : ∀ c ∈ x, c ≠ 47) : headL x = [] := by
  unfold headL; rw [lsl_none h]; simp
theorem head_some {q x : List Nat} {c : Nat} (hc : c ≠ 47) (h : ∀ c ∈ x, c ≠ 47) : headL (q ++ [c] ++ 47 :: x) = q ++ [c] := by
  have e : (q ++ [c] ++ 47 :: x).take (lsl (q ++ [c] ++ 47 :: x)) = q ++ [c] ++ [47] := by
    rw [lsl_some h, show q ++ [c] ++ 47 :: x = (q ++ [c] ++ [47]) ++ x by simp, List.take_left' (by simp)]
  unfold headL
  rw [e, if_pos]
  · unfold rstripL
    have : ((q ++ [c] ++ [47]).reverse.takeWhile (· == 47)).length = 1 := by
      have hb : (c == 47) = false := by simp [hc]
      simp [List.takeWhile, hb]
    rw [this]
    exact List.take_left' (by simp)
  · refine ⟨by simp, fun z => ?_⟩
    have hm : c ∈ q ++ [c] ++ [47] := by simp
    rw [z] at hm
    exact hc (List.mem_replicate.mp hm).2
theorem head_one {x : List Nat} (h : ∀ c ∈ x, c ≠ 47) : headL (47 :: x) = [47] := by
  have e : (47 :: x).take (lsl (47 :: x)) = [47] := by
    have := lsl_some (q := []) h
    rw [List.nil_append] at this
    rw [this]; simp
  unfold headL
  rw [e, if_neg]
  simp
theorem head_two {x : List Nat} (h : ∀ c ∈ x, c ≠ 47) : headL (47 :: 47 :: x) = [47, 47] := by
  have e : (47 :: 47 :: x).take (lsl (47 :: 47 :: x)) = [47, 47] := by
    have := lsl_some (q := [47]) h
    rw [show [47] ++ 47 :: x = 47 :: 47 :: x from rfl] at this
    rw [this]; simp
  unfold headL
  rw [e, if_neg]
  rintro ⟨_, z⟩
  exact z rfl
/-- where a walk stands, and what lies before the names there -/
def Front (p f : List Nat) : Prop := ∀ nm, NameOk nm → joinL p nm = f ++ nm ∧ headL (f ++ nm) = p
theorem front0 : Front [] [] := fun nm h => ⟨by rw [joinL, if_pos (.inr rfl)]; rfl, head_none (name_noslash h)⟩
theorem front1 : Front [47] [47] := fun nm h => ⟨by rw [joinL, if_neg (by rintro (q | q); exact name_take h q; exact nomatch q), if_pos (by decide)], head_one (name_noslash h)⟩
theorem front2 : Front [47, 47] [47, 47] := fun nm h => ⟨by rw [joinL, if_neg (by rintro (q | q); exact name_take h q; exact nomatch q), if_pos (by decide)], head_two (name_noslash h)⟩
theorem front_in {f nm : List Nat} (h : NameOk nm) : Front (f ++ nm) (f ++ nm ++ [47]) := fun x hx => by
  obtain ⟨q, c, e, hc⟩ : ∃ q c, f ++ nm = q ++ [c] ∧ c ≠ 47 := by
    refine ⟨f ++ nm.dropLast, nm.getLast h.1, ?_, name_noslash h _ (List.getLast_mem _)⟩
    rw [List.append_assoc, List.dropLast_concat_getLast]
  rw [e]
  refine ⟨?_, ?_⟩
  · rw [joinL, if_neg, if_neg]
    · simp [hc]
    · rintro (z | z)
      · exact name_take hx z
      · simp at z
  · have := head_some (q := q) hc (name_noslash hx)
    rw [List.append_assoc (q ++ [c])]; exact this

/-! one step -/
theorem plain_lift (d : Nat) (r : List Nat) : plainOf d (liftL d r) = r := by
  unfold liftL
  by_cases q : r.take 1 = [46]
  · rw [if_pos q, plainOf]
    have : (List.replicate d 46 ++ r).take 1 = [46] := by
      cases d with
      | zero => simpa using q
      | succ d => rw [List.replicate_succ]; rfl
    rw [if_pos this, List.drop_left' (List.length_replicate)]
  · rw [if_neg q, plainOf, if_neg q]
theorem no_end (d : Nat) (r : List Nat) : ¬ isEnd d (liftL d r) := by
  rintro ⟨h, e⟩
  unfold liftL at e
  by_cases q : r.take 1 = [46]
  · rw [if_pos q] at e
    have := congrArg List.length e
    rw [List.length_append, List.length_replicate] at this
    have : r = [] := List.eq_nil_of_length_eq_zero (by omega)
    subst this; exact nomatch q
  · rw [if_neg q] at e
    subst e
    obtain ⟨d, rfl⟩ : ∃ e, d = e + 1 := ⟨d - 1, by omega⟩
    exact q (by rw [List.replicate_succ]; rfl)
theorem step_rows (p : List Nat) (d : Nat) (fs : List (List Nat × Option Rows)) : ∀ (rs acc : Rows), (rs.map (liftL d)).foldl stepL ⟨p, d, some acc, fs⟩ = ⟨p, d, some (acc ++ rs), fs⟩
  | [], acc => by simp
  | r :: rs, acc => by
    have e : stepL ⟨p, d, some acc, fs⟩ (liftL d r) = ⟨p, d, some (acc ++ [r]), fs⟩ := by
      rw [stepL, if_neg (no_end d r)]
      simp only [plain_lift]
    rw [List.map_cons, List.foldl_cons, e, step_rows p d fs rs]; simp
theorem step_dots (p : List Nat) (d : Nat) (rows : Option Rows) (fs : List (List Nat × Option Rows)) : stepL ⟨p, d + 1, rows, fs⟩ (List.replicate (d + 1) 46) = ⟨headL p, d, none, fs ++ endedOf p rows⟩ := by
  rw [stepL, if_pos ⟨Nat.succ_pos _, rfl⟩]; rfl
theorem name_last {l : List Nat} (h : NameOk l) : l.drop (l.length - 1) ≠ [47] := fun e => by
  have : 47 ∈ l.drop (l.length - 1) := by rw [e]; exact .head _
  exact name_noslash h _ (List.mem_of_mem_drop this) rfl
theorem step_name {p f nm : List Nat} (d : Nat) (fs : List (List Nat × Option Rows)) (hF : Front p f) (h : NameOk nm) : stepL ⟨p, d, none, fs⟩ (liftL d nm) = ⟨f ++ nm, d + 1, some [], fs⟩ := by
  rw [stepL, if_neg (no_end d nm)]
  simp only [plain_lift]
  rw [if_neg (name_last h), (hF nm h).1]
theorem step_folder {p f nm : List Nat} (d : Nat) (fs : List (List Nat × Option Rows)) (hF : Front p f) (h : NameOk nm) : stepL ⟨p, d, none, fs⟩ (liftL d (nm ++ [47])) = ⟨f ++ nm, d + 1, none, fs ++ [(f ++ nm, none)]⟩ := by
  rw [stepL, if_neg (no_end d _)]
  simp only [plain_lift]
  rw [if_pos (by simp), List.dropLast_concat, (hF nm h).1]
/-- the walk over all the rows of a folder -/
theorem walk_told : ∀ (t : T) (d : Nat) (p f : List Nat) (fs : List (List Nat × Option Rows)), t.Good → Front p f → (toldL t d).foldl stepL ⟨p, d, none, fs⟩ = ⟨p, d, none, fs ++ listingL t f⟩
  | .nil, d, p, f, fs, _, _ => by simp [toldL, listingL]
  | .file nm bd r, d, p, f, fs, h, hF => by
    rw [toldL, List.foldl_cons, step_name d fs hF h.1, List.foldl_append, step_rows, List.foldl_cons, step_dots, (hF nm h.1).2, walk_told r d p f _ h.2.2 hF, listingL]
    simp [endedOf]
  | .dir nm i r, d, p, f, fs, h, hF => by
    rw [toldL, List.foldl_cons, step_folder d fs hF h.1, List.foldl_append, walk_told i (d + 1) _ _ _ h.2.1 (front_in h.1), List.foldl_cons, step_dots, (hF nm h.1).2, walk_told r d p f _ h.2.2 hF, listingL]
    simp [endedOf]

/-! sizes -/
theorem told_len : ∀ (t : T) (d : Nat), t.Good → (toldL t d).length ≤ 9 * t.nodes
  | .nil, _, _ => Nat.zero_le _
  | .file nm bd r, d, h => by
    have h1 := (rowsL_size bd).1
    have h2 := h.2.1.1
    have := told_len r d h.2.2
    simp only [toldL, T.nodes, List.length_cons, List.length_append, List.length_map]
    omega
  | .dir nm i r, d, h => by
    have := told_len i (d + 1) h.2.1
    have := told_len r d h.2.2
    simp only [toldL, T.nodes, List.length_cons, List.length_append]
    omega
theorem lift_len (d : Nat) (r : List Nat) : (liftL d r).length ≤ d + r.length := by
  unfold liftL; split
  · simp
  · omega
theorem told_rows : ∀ (t : T) (d : Nat), t.Good → ∀ r ∈ toldL t d, r.length ≤ d + t.nodes + 10
  | .nil, _, _ => fun _ h => nomatch h
  | .file nm bd r, d, h => fun x hx => by
    rw [toldL] at hx
    simp only [T.nodes]
    rcases List.mem_cons.mp hx with rfl | hx
    · have := lift_len d nm; have := h.1.2.1; omega
    rcases List.mem_append.mp hx with hx | hx
    · obtain ⟨y, hy, rfl⟩ := List.mem_map.mp hx
      have h1 := (rowsL_size bd).2 y hy
      have h2 := h.2.1.1
      have := lift_len (d + 1) y; omega
    rcases List.mem_cons.mp hx with rfl | hx
    · rw [List.length_replicate]; omega
    · have := told_rows r d h.2.2 x hx; omega
  | .dir nm i r, d, h => fun x hx => by
    rw [toldL] at hx
    simp only [T.nodes]
    rcases List.mem_cons.mp hx with rfl | hx
    · have := lift_len d (nm ++ [47]); have := h.1.2.1; rw [List.length_append, List.length_singleton] at *; omega
    rcases List.mem_append.mp hx with hx | hx
    · have := told_rows i (d + 1) h.2.1 x hx; omega
    rcases List.mem_cons.mp hx with rfl | hx
    · rw [List.length_replicate]; omega
    · have := told_rows r d h.2.2 x hx; omega
theorem unl_len : ∀ (rs : Rows) (k : Nat), (∀ r ∈ rs, r.length ≤ k) → (unl rs).length ≤ (k + 2) * rs.length
  | [], _, _ => Nat.zero_le _
  | r :: rs, k, h => by
    have := unl_len rs k fun x hx => h x (.tail _ hx)
    have h1 := h r (.head _)
    rw [unl_cons, List.length_append, List.length_cons, List.length_cons, List.length_cons, Nat.mul_succ]
    omega
theorem sent_len (t : T) (h : t.Good) (hn : t.nodes ≤ 10) : (sentL t).length ≤ 2000 := by
  rw [sent_unl t h]
  have h1 := unl_len (toldL t 0) 20 fun r hr => by have := told_rows t 0 h r hr; omega
  have h2 := told_len t 0 h
  omega
theorem fit_of : ∀ (t : T), t.Good → t.nodes ≤ 10 → t.Fit
  | .nil, _, _ => trivial
  | .file nm bd r, h, hn => by simp only [T.nodes] at hn; exact ⟨h.1.2.1, h.2.1.1, fit_of r h.2.2 (by omega)⟩
  | .dir nm i r, h, hn => by
    simp only [T.nodes] at hn
    have := sent_len i h.2.1 (by omega)
    exact ⟨h.1.2.1, by omega, fit_of i h.2.1 (by omega), fit_of r h.2.2 (by omega)⟩
theorem listing_len : ∀ (t : T) (f : List Nat), (listingL t f).length = t.nodes
  | .nil, _ => rfl
  | .file nm bd r, f => by simp only [listingL, T.nodes, List.length_cons, listing_len r]; omega
  | .dir nm i r, f => by simp only [listingL, T.nodes, List.length_cons, List.length_append, listing_len r, listing_len i]; omega
theorem rstrip_len (c : Nat) (l : List Nat) : (rstripL c l).length ≤ l.length := by
  unfold rstripL; rw [List.length_take]; omega
theorem head_len (l : List Nat) : (headL l).length ≤ l.length := by
  unfold headL
  split
  · have := rstrip_len 47 (l.take (lsl l)); rw [List.length_take] at this; omega
  · rw [List.length_take]; omega
theorem join_len2 (a b : List Nat) : (joinL a b).length ≤ a.length + b.length + 1 := by
  unfold joinL
  split
  · omega
  · split <;> simp only [List.length_append, List.length_cons, List.length_nil] <;> omega
theorem plain_len (d : Nat) (r : List Nat) : (plainOf d r).length ≤ r.length := by
  unfold plainOf; split
  · rw [List.length_drop]; omega
  · omega
structure St.Le (k : Nat) (σ : St) : Prop where
  place : σ.place.length ≤ 100 + 100 * k
  depth : σ.depth ≤ k
  rows : ∀ rs, σ.rows = some rs → rs.length ≤ k
  found : σ.found.length ≤ k
theorem step_le {k : Nat} {σ : St} {row : List Nat} (h : σ.Le k) (hr : row.length ≤ 90) : (stepL σ row).Le (k + 1) := by
  obtain ⟨p, d, rows, fs⟩ := σ
  obtain ⟨h1, h2, h3, h4⟩ := h
  simp only at h1 h2 h3 h4
  have e1 := head_len p
  have e2 := plain_len d row
  have e3 := join_len2 p (plainOf d row)
  have e4 := join_len2 p (plainOf d row).dropLast
  rw [List.length_dropLast] at e4
  rw [stepL]
  simp only
  by_cases q : isEnd d row
  · rw [if_pos q]
    refine ⟨by simp only; omega, by simp only; omega, fun _ e => (nomatch e), ?_⟩
    cases rows with
    | none => simp only [endedOf, List.append_nil]; omega
    | some rs => simp only [endedOf, List.length_append, List.length_singleton]; omega
  · rw [if_neg q]
    cases rows with
    | some rs =>
      have := h3 rs rfl
      refine ⟨by simp only; omega, by simp only; omega, fun _ e => ?_, by simp only; omega⟩
      cases e; simp only [List.length_append, List.length_singleton]; omega
    | none =>
      simp only
      split
      · refine ⟨by simp only; omega, by simp only; omega, fun _ e => (nomatch e), ?_⟩
        simp only [List.length_append, List.length_singleton]; omega
      · refine ⟨by simp only; omega, by simp only; omega, fun _ e => ?_, by simp only; omega⟩
        cases e; exact Nat.zero_le _
theorem fold_le : ∀ (rs : Rows) (k : Nat) (σ : St), σ.Le k → (∀ r ∈ rs, r.length ≤ 90) → (rs.foldl stepL σ).Le (k + rs.length)
  | [], _, _, h, _ => h
  | r :: rs, k, σ, h, hr => by
    have := fold_le rs (k + 1) _ (step_le h (hr r (.head _))) fun x hx => hr x (.tail _ hx)
    rw [List.foldl_cons, List.length_cons, show k + (rs.length + 1) = k + 1 + rs.length by omega]
    exact this
theorem walk_small (t : T) (h : t.Good) (hn : t.nodes ≤ 10) (root : List Nat) (hroot : root.length ≤ 2) : ∀ a b, toldL t 0 = a ++ b → (a.foldl stepL ⟨root, 0, none, []⟩).Small := fun a b e => by
  have h1 := told_len t 0 h
  have h2 := told_rows t 0 h
  rw [e] at h1 h2
  rw [List.length_append] at h1
  obtain ⟨z1, z2, z3, z4⟩ := fold_le a 0 ⟨root, 0, none, []⟩ ⟨by simp only; omega, Nat.le_refl _, fun _ q => (nomatch q), Nat.le_refl _⟩ fun r hr => by have := h2 r (List.mem_append_left _ hr); omega
  exact ⟨by omega, by omega, fun rs q => by have := z3 rs q; omega, by omega⟩
/-! part L3 -/
/-! what the two comparisons ask of the data -/
def CharOk (l : List Nat) : Prop := ∀ c ∈ l, c < 1114112
theorem str_ok {l : List Nat} (h : CharOk l) : PyData.strOk (S l) = true := by
  unfold PyData.strOk
  rw [Array.all_eq_true']
  intro c hc
  exact decide_eq_true (h c (by simpa using hc))
theorem char_app {a b : List Nat} (ha : CharOk a) (hb : CharOk b) : CharOk (a ++ b) := fun c hc => (List.mem_append.mp hc).elim (ha c) (hb c)
theorem char_dots (n : Nat) : CharOk (List.replicate n 46) := fun c hc => by rw [(List.mem_replicate.mp hc).2]; decide
theorem char_slash : CharOk [47] := fun c hc => by rw [List.mem_singleton.mp hc]; decide
theorem char_nil : CharOk [] := fun _ h => nomatch h
theorem char_lift {d : Nat} {r : List Nat} (h : CharOk r) : CharOk (liftL d r) := by
  unfold liftL; split
  · exact char_app (char_dots d) h
  · exact h
theorem char_name {l : List Nat} (h : NameOk l) : CharOk l := fun c hc => (h.2.2 c hc).2.2.2
theorem char_body {l : List Nat} (h : BodyOk l) : CharOk l := fun c hc => by
  rcases h.2 c hc with rfl | rfl | rfl | rfl | rfl <;> decide
theorem mem_consHd {c : Nat} {rs : Rows} {r : List Nat} (h : r ∈ consHd c rs) : ∀ x ∈ r, x = c ∨ ∃ q ∈ rs, x ∈ q := by
  cases rs with
  | nil => intro x hx; rw [List.mem_singleton.mp h] at hx; exact .inl (List.mem_singleton.mp hx)
  | cons p ps =>
    intro x hx
    rcases List.mem_cons.mp h with rfl | h
    · rcases List.mem_cons.mp hx with rfl | hx
      · exact .inl rfl
      · exact .inr ⟨p, .head _, hx⟩
    · exact .inr ⟨r, .tail _ h, hx⟩
theorem rows_mem : ∀ (x : List Nat), ∀ r ∈ rowsR x, ∀ c ∈ r, c ∈ x
  | [] => fun r h c hc => by rw [List.mem_singleton.mp h] at hc; exact nomatch hc
  | [d] => fun r h c hc => by
    rw [rowsR] at h
    split at h
    · rcases List.mem_cons.mp h with rfl | h
      · exact nomatch hc
      · rw [List.mem_singleton.mp h] at hc; exact nomatch hc
    · rw [List.mem_singleton.mp h] at hc; exact hc
  | d :: e :: x => fun r h c hc => by
    rw [rowsR] at h
    split at h
    · rcases List.mem_cons.mp h with rfl | h
      · exact nomatch hc
      · exact .tail _ (.tail _ (rows_mem x r h c hc))
    · split at h
      · rcases List.mem_cons.mp h with rfl | h
        · exact nomatch hc
        · exact .tail _ (rows_mem (e :: x) r h c hc)
      · rcases mem_consHd h c hc with rfl | ⟨q, hq, hc⟩
        · exact .head _
        · exact .tail _ (rows_mem (e :: x) q hq c hc)
theorem char_rows {b : List Nat} (h : BodyOk b) : ∀ r ∈ rowsL b, CharOk r := fun r hr c hc => by
  rw [rowsL_eq] at hr
  exact char_body h c (rows_mem b r hr c hc)
theorem told_char : ∀ (t : T) (d : Nat), t.Good → ∀ r ∈ toldL t d, CharOk r
  | .nil, _, _ => fun _ h => nomatch h
  | .file nm bd r, d, h => fun x hx => by
    rw [toldL] at hx
    rcases List.mem_cons.mp hx with rfl | hx
    · exact char_lift (char_name h.1)
    rcases List.mem_append.mp hx with hx | hx
    · obtain ⟨y, hy, rfl⟩ := List.mem_map.mp hx
      exact char_lift (char_rows h.2.1 y hy)
    rcases List.mem_cons.mp hx with rfl | hx
    · exact char_dots _
    · exact told_char r d h.2.2 x hx
  | .dir nm i r, d, h => fun x hx => by
    rw [toldL] at hx
    rcases List.mem_cons.mp hx with rfl | hx
    · exact char_lift (char_app (char_name h.1) char_slash)
    rcases List.mem_append.mp hx with hx | hx
    · exact told_char i (d + 1) h.2.1 x hx
    rcases List.mem_cons.mp hx with rfl | hx
    · exact char_dots _
    · exact told_char r d h.2.2 x hx
def EntryOk (e : List Nat × Option Rows) : Prop := CharOk e.1 ∧ ∀ rs, e.2 = some rs → ∀ r ∈ rs, CharOk r
theorem listing_ok : ∀ (t : T) (f : List Nat), t.Good → CharOk f → ∀ e ∈ listingL t f, EntryOk e
  | .nil, _, _, _ => fun _ h => nomatch h
  | .file nm bd r, f, h, hf => fun x hx => by
    rw [listingL] at hx
    rcases List.mem_cons.mp hx with rfl | hx
    · exact ⟨char_app hf (char_name h.1), fun rs e => by cases e; exact char_rows h.2.1⟩
    · exact listing_ok r f h.2.2 hf x hx
  | .dir nm i r, f, h, hf => fun x hx => by
    rw [listingL] at hx
    rcases List.mem_cons.mp hx with rfl | hx
    · exact ⟨char_app hf (char_name h.1), fun rs e => nomatch e⟩
    rcases List.mem_append.mp hx with hx | hx
    · exact listing_ok i _ h.2.1 (char_app (char_app hf (char_name h.1)) char_slash) x hx
    · exact listing_ok r f h.2.2 hf x hx
theorem lay_all {l : List PyData} (h : ∀ d ∈ l, d.canLay0 = true) : PyData.canLayAll0 l = true := by
  induction l with
  | nil => rw [PyData.canLayAll0]
  | cons d l ih => rw [PyData.canLayAll0, h d (.head _), ih fun x hx => h x (.tail _ hx)]; rfl
theorem depth_all {l : List PyData} {n : Nat} (h : ∀ d ∈ l, d.depth ≤ n) : PyData.depthAll l ≤ n := by
  induction l with
  | nil => rw [PyData.depthAll]; exact Nat.zero_le _
  | cons d l ih => rw [PyData.depthAll]; exact Nat.max_le.mpr ⟨h d (.head _), ih fun x hx => h x (.tail _ hx)⟩
theorem eqv_all {l : List PyData} (h : ∀ d ∈ l, PyData.eqv d d = true) : PyData.eqvAll l l = true := by
  induction l with
  | nil => rw [PyData.eqvAll]
  | cons d l ih => rw [PyData.eqvAll, h d (.head _), ih fun x hx => h x (.tail _ hx)]; rfl
/-- data that the comparison takes, and that is like itself -/
structure Plain (n : Nat) (d : PyData) : Prop where
  lay : d.canLay0 = true
  dep : d.depth ≤ n
  eqv : PyData.eqv d d = true
theorem plain_str {l : List Nat} (h : CharOk l) : Plain 0 (.str (S l)) := ⟨by rw [PyData.canLay0]; exact str_ok h, by rw [PyData.depth]; exact Nat.le_refl _, by rw [PyData.eqv]; exact beq_self_eq_true _⟩
theorem plain_none : Plain 0 .none := ⟨by rw [PyData.canLay0], by rw [PyData.depth]; exact Nat.le_refl _, by rw [PyData.eqv]⟩
theorem plain_int (i : Int) : Plain 0 (.int i) := ⟨by rw [PyData.canLay0], by rw [PyData.depth]; exact Nat.le_refl _, by rw [PyData.eqv]; exact beq_self_eq_true _⟩
theorem Plain.le {n m : Nat} {d : PyData} (h : Plain n d) (k : n ≤ m) : Plain m d := ⟨h.lay, Nat.le_trans h.dep k, h.eqv⟩
theorem plain_list {n : Nat} {l : List PyData} (h : ∀ d ∈ l, Plain n d) : Plain (n + 1) (.list l) := ⟨by rw [PyData.canLay0]; exact lay_all fun d hd => (h d hd).lay, by rw [PyData.depth]; exact Nat.succ_le_succ (depth_all fun d hd => (h d hd).dep), by rw [PyData.eqv]; exact eqv_all fun d hd => (h d hd).eqv⟩
theorem plain_tuple {n : Nat} {l : List PyData} (h : ∀ d ∈ l, Plain n d) : Plain (n + 1) (.tuple l) := ⟨by rw [PyData.canLay0]; exact lay_all fun d hd => (h d hd).lay, by rw [PyData.depth]; exact Nat.succ_le_succ (depth_all fun d hd => (h d hd).dep), by rw [PyData.eqv]; exact eqv_all fun d hd => (h d hd).eqv⟩
theorem plain_rows {rs : Rows} (h : ∀ r ∈ rs, CharOk r) : Plain 1 (pyRows rs) := plain_list fun d hd => by
  obtain ⟨r, hr, rfl⟩ := List.mem_map.mp hd
  exact plain_str (h r hr)
theorem plain_entry {e : List Nat × Option Rows} (h : EntryOk e) : Plain 2 (pyEntry e) := by
  obtain ⟨p, o⟩ := e
  refine plain_tuple fun d hd => ?_
  rcases List.mem_cons.mp hd with rfl | hd
  · exact (plain_str h.1).le (by decide)
  · rw [List.mem_singleton.mp hd]
    cases o with
    | none => exact plain_none.le (by decide)
    | some rs => exact plain_rows (h.2 rs rfl)
theorem plain_found {l : List (List Nat × Option Rows)} (h : ∀ e ∈ l, EntryOk e) : Plain 3 (pyFound l) := plain_list fun d hd => by
  obtain ⟨e, he, rfl⟩ := List.mem_map.mp hd
  exact plain_entry (h e he)
theorem plain_state {ro : List Nat} {l : List (List Nat × Option Rows)} (hr : CharOk ro) (h : ∀ e ∈ l, EntryOk e) : Plain 4 (St.py ⟨ro, 0, none, l⟩) := plain_tuple fun d hd => by
  rcases List.mem_cons.mp hd with rfl | hd
  · exact (plain_str hr).le (by decide)
  rcases List.mem_cons.mp hd with rfl | hd
  · exact (plain_int _).le (by decide)
  rcases List.mem_cons.mp hd with rfl | hd
  · exact plain_none.le (by decide)
  · rw [List.mem_singleton.mp hd]; exact plain_found h
theorem Plain.shaped {n : Nat} {d : PyData} (h : Plain n d) (hn : n ≤ 64) : SeqAt.shaped d = true := by
  unfold SeqAt.shaped
  rw [h.lay, decide_eq_true (Nat.le_trans h.dep hn)]; rfl
section
variable {prog : Program} {w : World} {A : Around} {E : Value → Shared → Prop} {s : Shared} {a b : Value} {d : PyData} {n : Nat} {Q : Value → Shared → Prop}
theorem ne_same (ra : Rd s.heap a d) (rb : Rd s.heap b d) (h : Plain n d) (hn : n ≤ 64) (hu : A.units + 64 < cLine) (hq : Q (.bool false) s) : wpAny (model prog w) A (compareOp .NotEq a b) Q E s := by
  obtain ⟨_, ra⟩ := ra
  obtain ⟨_, rb⟩ := rb
  exact SeqAt.compareNe_shaped ra rb (h.shaped hn) (h.shaped hn) hu (by rw [h.eqv]; exact hq)
theorem eq_same (ra : Rd s.heap a d) (rb : Rd s.heap b d) (h : Plain n d) (hn : n ≤ 64) (hu : A.units + 64 < cLine) (hq : Q (.bool true) s) : wpAny (model prog w) A (compareOp .Eq a b) Q E s := by
  obtain ⟨_, ra⟩ := ra
  obtain ⟨_, rb⟩ := rb
  exact SeqAt.compareEq_shaped ra rb (h.shaped hn) (h.shaped hn) hu (by rw [h.eqv]; exact hq)
end
/-! part X17 -/
theorem vis_now {g h V : Heap} {L : Addr} {m : Str → Option Value} {news : List (Addr × Obj)} (Y : Vis g [L] V) (F : Fr g L h m) (N : News g L h news) (hV : ∀ p ∈ lv g V, p ∈ news) : V.StaysIn (hideAll h [L]) := stays_hide Y.off (Y.stays F N hV)
theorem aliveL {g h : Heap} {L : Addr} {m : Str → Option Value} (F : Fr g L h m) : ∀ a ∈ [L], (h.get? a).isSome = true := fun a ha => by
  rw [List.mem_singleton.mp ha]
  obtain ⟨o, _, _, ho, _⟩ := F.ns; rw [ho]; rfl
theorem Spec.useT {W : Wd} {f : Addr} {args : List Value} {d u : Nat} {Pre : Heap → Prop} {Post : Heap → Value → Prop} (S : Spec W f args d u Pre Post)
    {dp un : Nat} {gd : Option (List Code)} {cn : Str} {cs : Scope} {a : Addr} {ccd : Value} {cl : List (Str × Addr)} {outer : List Env} {A₀ : Around} {base g : Heap} {L : Addr} {m : Str → Option Value} {s : Shared} {mt news : List (Addr × Obj)}
    {Q E : Value → Shared → Prop} (B : Below A₀ base outer g) (F : Fr g L s.heap m) (X : (hd.heap_39 W.w.params).In g) (T : W.T g) (hk : cs.kind = .function) (hdp : dp + d < recursionLimit) (hun : un + u < cLine)
    (N : News g L s.heap news) (htk : 1 ≤ s.toks) (hm : ∀ p ∈ mt, p ∈ news) (hpre : Pre (hideAll s.heap [L]))
    (ret : ∀ r h' tk' V', Fr g L h' m → News g L h' (mt ++ lv g V') → (hideAll s.heap [L]).StaysIn V' → Vis g [L] V' → 1 ≤ tk' → Post V' r → Q r { s with heap := h', toks := tk' }) :
    wpAny W.M (ktrTop dp un gd cn cs L a ccd cl outer) (call (.ref f) args) Q E s :=
  Spec.use1 S [L] B F X T hk hdp hun N htk (aliveL F) hpre fun r h' tk' F' N' st ht po => by
    refine ret r h' tk' _ F' (fun p hp => ?_) (hide_keep st) (Vis.of_hide F'.keep) ht po
    rcases List.mem_append.mp hp with hp | hp
    · exact N' p (hm p hp)
    · exact lv_start (hid := [L]) F' (.head _) p hp
theorem isl_hide {g h : Heap} {L D : Addr} {l : List Value} {k : Nat} {news : List (Addr × Obj)} (N : News g L h news) (hm : (D, listOf l.toArray k) ∈ news) : (hideAll h [L]).IsList D l.toArray :=
  ⟨_, hideAll_get _ (N _ hm).1 (fun q => (N _ hm).2.1 (List.mem_singleton.mp q)), rfl, _, rfl⟩
theorem ints_r {vs : List Value} {is : List Int} (h : IntsAre vs is) : IntsR vs := by
  induction h with
  | nil => exact fun _ h => nomatch h
  | cons n t _ ih =>
    intro v hv
    rcases List.mem_cons.mp hv with rfl | hv
    · exact ⟨n, t, rfl⟩
    · exact ih v hv
theorem isl_now {g h : Heap} {L D : Addr} {l : List Value} {k : Nat} {news : List (Addr × Obj)} (N : News g L h news) (hm : (D, listOf l.toArray k) ∈ news) : h.IsList D l.toArray := ⟨_, (N _ hm).1, rfl, _, rfl⟩
theorem ints_len {vs : List Value} {is : List Int} (h : IntsAre vs is) : vs.length = is.length := by
  induction h with
  | nil => rfl
  | cons n t _ ih => rw [List.length_cons, List.length_cons, ih]
theorem ints_ten {vs : List Value} {is : List Int} (h : IntsAre vs (is.take 10)) : vs.length ≤ 10 := by
  rw [ints_len h, List.length_take]; omega
theorem ints4 {a b c d : Int} {t u v w : Tok} : IntsR [.int a t, .int b u, .int c v, .int d w] := fun x hx => by
  rcases List.mem_cons.mp hx with rfl | hx
  · exact ⟨_, _, rfl⟩
  rcases List.mem_cons.mp hx with rfl | hx
  · exact ⟨_, _, rfl⟩
  rcases List.mem_cons.mp hx with rfl | hx
  · exact ⟨_, _, rfl⟩
  · rw [List.mem_singleton.mp hx]; exact ⟨_, _, rfl⟩
local macro_rules | `(tactic| k_qdec) => `(tactic| decide +kernel)
theorem wd_of {p : Program} {loose : List Str} {mean : ExcName → Option Value} {mg mb : Str → Option Value} {h : Heap} (T : Top p loose mean mg mb h) (prog : Program) (w : World) : ∃ W : Wd, model prog w = W.M ∧ w = W.w ∧ W.T h := ⟨⟨prog, w, p, loose, mean, mg, mb⟩, rfl, rfl, T⟩
local macro_rules | `(tactic| walk_at "call ref") => `(tactic| (k_here; refine stop ?_))
local macro_rules | `(tactic| walk_at "binaryOp Add ref ref") => `(tactic| (k_here; refine stop ?_))
local macro_rules | `(tactic| walk_at "compareOp Eq ref ref") => `(tactic| (k_here; refine stop ?_))
theorem gen_root {g h : Heap} {L : Addr} {m : Str → Option Value} {r0 : List Nat} {tok : Tok} (F : Fr g L h (fun y => if y = Str.ofString "root" then some (.str (S r0) tok) else m y)) (hf : Front r0 r0 ∧ r0.length ≤ 2 ∧ CharOk r0) :
    ∃ ro tr, Front ro ro ∧ ro.length ≤ 2 ∧ CharOk ro ∧ Fr g L h (fun y => if y = Str.ofString "root" then some (.str (S ro) tr) else m y) := ⟨r0, tok, hf.1, hf.2.1, hf.2.2, F⟩
theorem root0 : Front [] [] ∧ ([] : List Nat).length ≤ 2 ∧ CharOk [] := ⟨front0, by decide, char_nil⟩
theorem root1 : Front [47] [47] ∧ [47].length ≤ 2 ∧ CharOk [47] := ⟨front1, by decide, char_slash⟩
theorem root2 : Front [47, 47] [47, 47] ∧ [47, 47].length ≤ 2 ∧ CharOk [47, 47] := ⟨front2, by decide, char_app char_slash char_slash⟩
theorem strs_snoc (V0 : Heap) : ∀ {rows : Rows} {l : List Value}, (∀ V : Heap, RdAll V l ((rows ++ [[]]).map fun r => .str (S r))) → ∃ l0 x0, l = l0 ++ [x0] ∧ ∀ V : Heap, RdAll V l0 (rows.map fun r => .str (S r)) := by
  intro rows
  induction rows with
  | nil =>
    intro l R
    obtain ⟨v, vs, rfl, _, q⟩ := (R V0).inv
    have e : vs = [] := q.inv_nil
    exact ⟨[], v, by rw [e]; rfl, fun _ => .nil⟩
  | cons r rows ih =>
    intro l R
    obtain ⟨v, vs, rfl, p, _⟩ := (R V0).inv
    obtain ⟨t, rfl⟩ := p.inv_str
    obtain ⟨l0, x0, rfl, R0⟩ := ih (l := vs) fun V => by
      obtain ⟨_, _, e, _, q⟩ := (R V).inv
      cases e; exact q
    exact ⟨.str (S r) t :: l0, x0, rfl, fun V => .cons .str (R0 V)⟩
theorem pick_last {l : List Value} {x : Value} : slicePick (l ++ [x]).toArray none (some (-1)) none = l.toArray := by
  rw [kms_pick_eq]
  unfold kms_pick kms_lo kms_hi
  simp
theorem ist_hide {g h : Heap} {L D : Addr} {l : List Value} {k : Nat} {news : List (Addr × Obj)} (N : News g L h news) (hm : (D, ({ cls := .type "tuple", data := .seq l.toArray k } : Obj)) ∈ news) : IsTup (hideAll h [L]) D l.toArray :=
  ⟨_, hideAll_get _ (N _ hm).1 (fun q => (N _ hm).2.1 (List.mem_singleton.mp q)), rfl, _, rfl⟩
theorem ist_now {g h : Heap} {L D : Addr} {l : List Value} {k : Nat} {news : List (Addr × Obj)} (N : News g L h news) (hm : (D, ({ cls := .type "tuple", data := .seq l.toArray k } : Obj)) ∈ news) : IsTup h D l.toArray := ⟨_, (N _ hm).1, rfl, _, rfl⟩
def CellsAt (g : Heap) (L : Addr) (m : Str → Option Value) (s : Shared) (v : Value) (s' : Shared) : Prop :=
  ∃ (D : Addr) (l : List Value) (k : Nat) (h : Heap) (tk : Nat), v = .ref D ∧ s' = { s with heap := h, toks := tk } ∧ Fr g L h m ∧ News g L h [(D, listOf l.toArray k)] ∧ IntsR l ∧ l.length ≤ 10 ∧ 1 ≤ tk
theorem cells_at {g h : Heap} {L D : Addr} {m : Str → Option Value} {s : Shared} {l : List Value} {k tk : Nat} {news : List (Addr × Obj)} (F : Fr g L h m) (N : News g L h ((D, listOf l.toArray k) :: news)) (h1 : IntsR l) (h2 : l.length ≤ 10) (h3 : 1 ≤ tk) : CellsAt g L m s (.ref D) { s with heap := h, toks := tk } :=
  ⟨D, l, k, h, tk, rfl, rfl, F, fun p hp => by rw [List.mem_singleton.mp hp]; exact N _ (.head _), h1, h2, h3⟩
section
variable {prog : Program} {w : World} {A : Around} {E : Value → Shared → Prop} {s : Shared} {Q : Value → Shared → Prop}
theorem or_join {g : Heap} {L : Addr} {m : Str → Option Value} {e : PySem.Expr} {env : Env} (F : Fr g L s.heap m) (h1 : wpAny (model prog w) A (eval e env) (CellsAt g L m s) (fun _ _ => False) s)
    (h2 : ∀ D l k h tk, Fr g L h m → News g L h [(D, listOf l.toArray k)] → IntsR l → l.length ≤ 10 → 1 ≤ tk → Q (.ref D) { s with heap := h, toks := tk }) : wpAny (model prog w) A (eval e env) Q E s :=
  wpAny_mono h1 (fun v s' ⟨D, l, k, h, tk, e1, e2, a, b, c, d, e⟩ => by subst e1 e2; exact h2 D l k h tk a b c d e) fun _ _ x => x.elim
theorem root_item {value slice : PySem.Expr} {D : Addr} {n : Int} {u t1 t2 t3 : Tok} (ht : IsTup s.heap D #[.str (S []) t1, .str (S [47]) t2, .str (S [47, 47]) t3])
    (h : ∀ ro tr, Front ro ro → ro.length ≤ 2 → CharOk ro → Q (.str (S ro) tr) s)
    (hs : subscripted slice false (.ref D) (.int (n.fmod 3) u) = operate [.ref D, .int (n.fmod 3) u] (getItem (.ref D) (.int (n.fmod 3) u)) := by with_unfolding_all rfl) :
    wpAny (model prog w) A (subscriptTail value slice (.ref D) (.int (n.fmod 3) u)) Q E s := by
  have h1 : 0 ≤ n.fmod 3 := by rw [Int.fmod_eq_emod_of_nonneg _ (by omega)]; exact Int.emod_nonneg _ (by omega)
  have h2 := Int.fmod_lt_of_pos n (show (0 : Int) < 3 by omega)
  have h3 : n.fmod 3 = 0 ∨ n.fmod 3 = 1 ∨ n.fmod 3 = 2 := by omega
  rcases h3 with e | e | e <;> rw [e] at hs ⊢
  · exact item_tupleT (l := [_, _, _]) (j := 0) ht (by decide) (by decide) rfl rfl (h [] t1 root0.1 root0.2.1 root0.2.2) hs
  · exact item_tupleT (l := [_, _, _]) (j := 1) ht (by decide) (by decide) rfl rfl (h [47] t2 root1.1 root1.2.1 root1.2.2) hs
  · exact item_tupleT (l := [_, _, _]) (j := 2) ht (by decide) (by decide) rfl rfl (h [47, 47] t3 root2.1 root2.2.1 root2.2.2) hs
end
local macro_rules | `(tactic| walk_at "subscriptTail") => `(tactic| (k_here; (with_reducible show wpAny _ _ (subscriptTail _ _ (Value.ref _) (Value.int (Int.fmod _ 3) _)) _ _ _); (with_reducible rename News _ _ _ _ => N'); (with_unfolding_all refine' root_item ?qt ?_ ?qs); (case qt => k_dflt exact News.isTup N' (by k_mem)); (case qs => with_unfolding_all rfl); intro r' t' h1' h2' h3'; (try dsimp only)))
local macro_rules | `(tactic| walk_at "eval BoolOp") => `(tactic| (k_here; (fail_if_success (with_reducible show wpAny _ _ _ (CellsAt _ _ _ _) _ _)); (with_reducible rename Fr _ _ _ _ => F'); refine' or_join F' ?_ ?h2; (case' h2 => intro D' l' k' h' tk' F' N' hi' hl' hk'; (try dsimp only))))
set_option maxHeartbeats 4000000 in
theorem law_holds : PySem.Challenge.rw_il0052_01.Holds := hd (by
  k_go0
  (all_goals try k_fold)
  rename Top _ _ _ _ _ _ => T0
  rename Below _ _ _ _ => K0
  rename Shared => s1
  have K1 : Below callerA s1.heap [] s1.heap := K0
  clear K0
  obtain ⟨W, e1, e2, T1⟩ := wd_of T0 PySem.Challenge.rw_il0052_01.row.prog _
  rw [e1]
  subst e2
  clear e1
  rename Frag.In _ _ => KX
  k_steps
  all_goals try (rename Fr _ _ _ _ => F9; rename News _ _ _ _ => N9; exact cells_at F9 N9 (by first | exact ints_r (by with_reducible assumption) | exact ints4) (by first | exact ints_ten (by with_reducible assumption) | exact Nat.le_of_ble_eq_true rfl) (by first | assumption | exact Nat.le_add_left 1 _ | (dsimp only; omega)))
  all_goals
    refine Stop.go ?_
    rename Fr _ _ _ _ => F9
    rename News _ _ _ _ => N9
    obtain ⟨ro, tr, hfr, hro, hrc, F9'⟩ := gen_root F9 ⟨by with_reducible assumption, by with_reducible assumption, by with_reducible assumption⟩
    clear F9
    rename Fr _ _ _ _ => F9
    refine Spec.useT (mt := []) (tree_spec W _ 10 _ (by with_reducible assumption) (by decide) (by with_reducible assumption)) K1 F9 KX T1 rfl (by (have hcL9 := cLine_is; (try simp only [units_deeper, units_caller, depth_deeper, depth_caller]); (try simp only [recursionLimit]); omega)) (by (have hcL9 := cLine_is; (try simp only [units_deeper, units_caller, depth_deeper, depth_caller]); (try simp only [recursionLimit]); omega)) N9 (by first | assumption | exact Nat.le_add_left 1 _ | (dsimp only; omega)) (fun _ h => nomatch h) ⟨_, rfl, isl_hide N9 (.head _)⟩ ?_
    intro r9 h9 tk9 V1 F9 N9 S9 Y1 k9 po9
    clear S9
    obtain ⟨t9, g9, n9, R1⟩ := po9
    have N9' : News s1.heap _ h9 (lv s1.heap V1) := N9
    clear N9
    have fit := fit_of t9 g9 n9
    have sl := sent_len t9 g9 n9
    have hh := T.hgt_le t9
    have tl := told_len t9 0 g9
    obtain ⟨a9, w9, rfl, _, _⟩ := R1.inv_list
    (try dsimp only)
    k_steps
    refine Stop.go ?_
    rename Fr _ _ _ _ => F9
    rename News _ _ _ _ => N9
    refine PSpec.use (sent_spec W t9 (.ref a9) fit (by omega)) V1 K1 F9 KX T1 rfl (by (have hcL9 := cLine_is; (try simp only [units_deeper, units_caller, depth_deeper, depth_caller]); (try simp only [recursionLimit]); omega)) (by (have hcL9 := cLine_is; (try simp only [units_deeper, units_caller, depth_deeper, depth_caller]); (try simp only [recursionLimit]); omega)) N9 (Y1.stays F9 N9 (fun p hp => hp)) (by first | assumption | exact Nat.le_add_left 1 _ | (dsimp only; omega)) rd_mono R1 ?_
    intro r9 h9 tk9 F9 N9 S9 k9 po9
    clear S9
    obtain ⟨t9', e9⟩ := po9
    subst e9
    (try dsimp only)
    k_steps
    refine Stop.go ?_
    rename (∀ V : Heap, RdAll V _ _) => R8
    simp only [law_sent t9 g9] at R8
    obtain ⟨l0, x0, e0, R0⟩ := strs_snoc s1.heap R8
    subst e0
    rename Fr _ _ _ _ => F9
    rename News _ _ _ _ => N9
    have S1 := vis_now Y1 F9 N9 (fun p hp => .tail _ hp)
    refine Spec.useT (mt := [_]) (told_all W t9.hgt t9 (.ref a9) 0 0 _ rfl (Nat.le_refl _) fit (by omega) (by omega)) K1 F9 KX T1 rfl (by (have hcL9 := cLine_is; (try simp only [units_deeper, units_caller, depth_deeper, depth_caller]); (try simp only [recursionLimit]); omega)) (by (have hcL9 := cLine_is; (try simp only [units_deeper, units_caller, depth_deeper, depth_caller]); (try simp only [recursionLimit]); omega)) N9 (by first | assumption | exact Nat.le_add_left 1 _ | (dsimp only; omega)) (List.forall_mem_cons.mpr ⟨.head _, fun _ h => nomatch h⟩) (R1.mono S1) ?_
    intro r9 h9 tk9 V2 F9 N9 S2 Y2 k9 po9
    have R2 : Rd V2 (.ref a9) t9.py := (R1.mono S1).mono S2
    have N9' : News s1.heap _ h9 (_ :: lv s1.heap V2) := N9
    clear S1 S2 R1 Y1 N9
    obtain ⟨b9, u9, e9, L2, Q2⟩ := Rd.inv_list po9
    clear po9
    subst e9
    have q2 := Q2.len
    have q8 := (R8 s1.heap).len
    simp only [List.length_map, List.length_append, List.length_singleton] at q2 q8
    (try dsimp only)
    k_steps
    refine Stop.go ?_
    rename Fr _ _ _ _ => F9
    rename News _ _ _ _ => N9
    refine' add_arrays F9 N9 (islist_mono (Vis.stays Y2 F9 N9 (fun p hp => .tail _ (.tail _ hp))) L2) (isl_now N9 (.head _)) ?_ (by rw [sizeLine_eq, List.size_toArray, q2]; show _ + 1 ≤ _; omega)
    intro h9 F9 N9
    have E2 := Vis.stays Y2 F9 N9 (fun p hp => .tail _ (.tail _ (.tail _ hp)))
    have hch : ∀ r ∈ toldL t9 0 ++ [[]], CharOk r := fun r hr => (List.mem_append.mp hr).elim (told_char t9 0 g9 r) (fun q => by rw [List.mem_singleton.mp q]; exact char_nil)
    refine ne_same (d := pyRows (toldL t9 0 ++ [[]])) (n := 1) (Rd.list_in (isl_now N9 (.tail _ (.tail _ (.head _)))) (R8 _)) (rd_rows (Rd.list_in (isl_now N9 (.head _)) ((Q2.mono E2).append (.cons .str .nil)))) (plain_rows hch) (by decide) (by (have hcL9 := cLine_is; (try simp only [units_deeper, units_caller, depth_deeper, depth_caller]); (try simp only [recursionLimit]); omega)) ?_
    (try dsimp only)
    k_steps
    refine Stop.go ?_
    rename Fr _ _ _ _ => F9
    rename News _ _ _ _ => N9
    dsimp only at N9
    rw [pick_last] at N9
    have S2 := vis_now Y2 F9 N9 (fun p hp => .tail _ (.tail _ (.tail _ (.tail _ (.tail _ (.tail _ hp))))))
    refine Spec.useT (mt := []) (reduce_spec W (toldL t9 0) ⟨ro, 0, none, []⟩ _ _ (fun r hr => by have := told_rows t9 0 g9 r hr; omega) (walk_small t9 g9 n9 ro hro)) K1 F9 KX T1 rfl (by (have hcL9 := cLine_is; (try simp only [units_deeper, units_caller, depth_deeper, depth_caller]); (try simp only [recursionLimit]); omega)) (by (have hcL9 := cLine_is; (try simp only [units_deeper, units_caller, depth_deeper, depth_caller]); (try simp only [recursionLimit]); omega)) N9 (by first | assumption | exact Nat.le_add_left 1 _ | (dsimp only; omega)) (fun _ h => nomatch h)
      ⟨Rd.list_in (isl_hide N9 (.tail _ (.tail _ (.head _)))) (R0 _), Rd.tuple_in (ist_hide N9 (.head _)) (.cons .str (.cons .int (.cons .none (.cons (Rd.list_in (isl_hide N9 (.tail _ (.head _))) .nil) .nil))))⟩ ?_
    intro r9 h9 tk9 V3 F9 N9 S3 Y3 k9 po9
    rw [walk_told t9 0 ro ro [] g9 hfr, List.nil_append] at po9
    have R3 : Rd V3 (.ref a9) t9.py := (R2.mono S2).mono S3
    have N9' : News s1.heap _ h9 (lv s1.heap V3) := N9
    clear S2 S3 R2 Y2 N9 E2
    obtain ⟨c9, x9, e9, _, _⟩ := Rd.inv_tuple (ds := [_, _, _, _]) po9
    subst e9
    (try dsimp only)
    k_steps
    refine Stop.go ?_
    rename Fr _ _ _ _ => F9
    rename News _ _ _ _ => N9
    have S3 := vis_now Y3 F9 N9 (fun p hp => hp)
    refine Spec.useT (mt := []) (listing_all W t9.hgt t9 (.ref a9) (S ro) ro _ rfl (Nat.le_refl _) fit (by rw [listing_len]; omega) (by omega)) K1 F9 KX T1 rfl (by (have hcL9 := cLine_is; (try simp only [units_deeper, units_caller, depth_deeper, depth_caller]); (try simp only [recursionLimit]); omega)) (by (have hcL9 := cLine_is; (try simp only [units_deeper, units_caller, depth_deeper, depth_caller]); (try simp only [recursionLimit]); omega)) N9 (by first | assumption | exact Nat.le_add_left 1 _ | (dsimp only; omega)) (fun _ h => nomatch h) (R3.mono S3) ?_
    intro r9 h9 tk9 V4 F9 N9 S4 Y4 k9 po8
    have P4 := (po9.mono S3).mono S4
    have N9' : News s1.heap _ h9 (lv s1.heap V4) := N9
    clear S3 S4 R3 Y3 N9 po9
    (try dsimp only)
    k_steps
    refine Stop.go ?_
    rename Fr _ _ _ _ => F9
    rename News _ _ _ _ => N9
    have E4 := Vis.stays Y4 F9 N9 (fun p hp => .tail _ hp)
    refine eq_same (d := St.py ⟨ro, 0, none, listingL t9 ro⟩) (n := 4) (P4.mono E4) (Rd.tuple_in (ist_now N9 (.head _)) (.cons .str (.cons .int (.cons .none (.cons (po8.mono E4) .nil))))) (plain_state hrc (listing_ok t9 ro g9 hrc)) (by decide) (by (have hcL9 := cLine_is; (try simp only [units_deeper, units_caller, depth_deeper, depth_caller]); (try simp only [recursionLimit]); omega)) ?_
    (try dsimp only)
    k_steps)
end Mine
theorem PySem.Challenge.cw_il0052_01_holds : PySem.Challenge.rw_il0052_01.Holds := by
  exact Mine.law_holds
