import PyProof.Rows.All
import Wide.All
import OpenK.AllK
import Wide.FinOn
import Lean
import PySem.Challenge.RW_nb0164_01
set_option Elab.async false
set_option maxRecDepth 100000
section
open PySem PySem.W PyProof.Rows
set_option maxHeartbeats 0
namespace Mine
open_top hd for PySem.Challenge.rw_nb0164_01
end Mine
end
namespace Mine
theorem cj0 {a q : Prop} (h : a ∧ q) : a := h.1
theorem cj1 {p0 a q : Prop} (h : p0 ∧ a ∧ q) : a := h.2.1
theorem ck1 {p0 a : Prop} (h : p0 ∧ a) : a := h.2
theorem cj2 {p0 p1 a q : Prop} (h : p0 ∧ p1 ∧ a ∧ q) : a := h.2.2.1
theorem ck2 {p0 p1 a : Prop} (h : p0 ∧ p1 ∧ a) : a := h.2.2
theorem cj3 {p0 p1 p2 a q : Prop} (h : p0 ∧ p1 ∧ p2 ∧ a ∧ q) : a := h.2.2.2.1
theorem ck3 {p0 p1 p2 a : Prop} (h : p0 ∧ p1 ∧ p2 ∧ a) : a := h.2.2.2
theorem cj4 {p0 p1 p2 p3 a q : Prop} (h : p0 ∧ p1 ∧ p2 ∧ p3 ∧ a ∧ q) : a := h.2.2.2.2.1
theorem ck4 {p0 p1 p2 p3 a : Prop} (h : p0 ∧ p1 ∧ p2 ∧ p3 ∧ a) : a := h.2.2.2.2
theorem cj5 {p0 p1 p2 p3 p4 a q : Prop} (h : p0 ∧ p1 ∧ p2 ∧ p3 ∧ p4 ∧ a ∧ q) : a := h.2.2.2.2.2.1
theorem ck5 {p0 p1 p2 p3 p4 a : Prop} (h : p0 ∧ p1 ∧ p2 ∧ p3 ∧ p4 ∧ a) : a := h.2.2.2.2.2
theorem cj6 {p0 p1 p2 p3 p4 p5 a q : Prop} (h : p0 ∧ p1 ∧ p2 ∧ p3 ∧ p4 ∧ p5 ∧ a ∧ q) : a := h.2.2.2.2.2.2.1
theorem ck6 {p0 p1 p2 p3 p4 p5 a : Prop} (h : p0 ∧ p1 ∧ p2 ∧ p3 ∧ p4 ∧ p5 ∧ a) : a := h.2.2.2.2.2.2
theorem cj7 {p0 p1 p2 p3 p4 p5 p6 a q : Prop} (h : p0 ∧ p1 ∧ p2 ∧ p3 ∧ p4 ∧ p5 ∧ p6 ∧ a ∧ q) : a := h.2.2.2.2.2.2.2.1
theorem ck7 {p0 p1 p2 p3 p4 p5 p6 a : Prop} (h : p0 ∧ p1 ∧ p2 ∧ p3 ∧ p4 ∧ p5 ∧ p6 ∧ a) : a := h.2.2.2.2.2.2.2
theorem cj8 {p0 p1 p2 p3 p4 p5 p6 p7 a q : Prop} (h : p0 ∧ p1 ∧ p2 ∧ p3 ∧ p4 ∧ p5 ∧ p6 ∧ p7 ∧ a ∧ q) : a := h.2.2.2.2.2.2.2.2.1
theorem ck8 {p0 p1 p2 p3 p4 p5 p6 p7 a : Prop} (h : p0 ∧ p1 ∧ p2 ∧ p3 ∧ p4 ∧ p5 ∧ p6 ∧ p7 ∧ a) : a := h.2.2.2.2.2.2.2.2
theorem cj9 {p0 p1 p2 p3 p4 p5 p6 p7 p8 a q : Prop} (h : p0 ∧ p1 ∧ p2 ∧ p3 ∧ p4 ∧ p5 ∧ p6 ∧ p7 ∧ p8 ∧ a ∧ q) : a := h.2.2.2.2.2.2.2.2.2.1
theorem ck9 {p0 p1 p2 p3 p4 p5 p6 p7 p8 a : Prop} (h : p0 ∧ p1 ∧ p2 ∧ p3 ∧ p4 ∧ p5 ∧ p6 ∧ p7 ∧ p8 ∧ a) : a := h.2.2.2.2.2.2.2.2.2
theorem cj10 {p0 p1 p2 p3 p4 p5 p6 p7 p8 p9 a q : Prop} (h : p0 ∧ p1 ∧ p2 ∧ p3 ∧ p4 ∧ p5 ∧ p6 ∧ p7 ∧ p8 ∧ p9 ∧ a ∧ q) : a := h.2.2.2.2.2.2.2.2.2.2.1
theorem ck10 {p0 p1 p2 p3 p4 p5 p6 p7 p8 p9 a : Prop} (h : p0 ∧ p1 ∧ p2 ∧ p3 ∧ p4 ∧ p5 ∧ p6 ∧ p7 ∧ p8 ∧ p9 ∧ a) : a := h.2.2.2.2.2.2.2.2.2.2
theorem cj11 {p0 p1 p2 p3 p4 p5 p6 p7 p8 p9 p10 a q : Prop} (h : p0 ∧ p1 ∧ p2 ∧ p3 ∧ p4 ∧ p5 ∧ p6 ∧ p7 ∧ p8 ∧ p9 ∧ p10 ∧ a ∧ q) : a := h.2.2.2.2.2.2.2.2.2.2.2.1
theorem ck11 {p0 p1 p2 p3 p4 p5 p6 p7 p8 p9 p10 a : Prop} (h : p0 ∧ p1 ∧ p2 ∧ p3 ∧ p4 ∧ p5 ∧ p6 ∧ p7 ∧ p8 ∧ p9 ∧ p10 ∧ a) : a := h.2.2.2.2.2.2.2.2.2.2.2
theorem cj12 {p0 p1 p2 p3 p4 p5 p6 p7 p8 p9 p10 p11 a q : Prop} (h : p0 ∧ p1 ∧ p2 ∧ p3 ∧ p4 ∧ p5 ∧ p6 ∧ p7 ∧ p8 ∧ p9 ∧ p10 ∧ p11 ∧ a ∧ q) : a := h.2.2.2.2.2.2.2.2.2.2.2.2.1
theorem ck12 {p0 p1 p2 p3 p4 p5 p6 p7 p8 p9 p10 p11 a : Prop} (h : p0 ∧ p1 ∧ p2 ∧ p3 ∧ p4 ∧ p5 ∧ p6 ∧ p7 ∧ p8 ∧ p9 ∧ p10 ∧ p11 ∧ a) : a := h.2.2.2.2.2.2.2.2.2.2.2.2
theorem cj13 {p0 p1 p2 p3 p4 p5 p6 p7 p8 p9 p10 p11 p12 a q : Prop} (h : p0 ∧ p1 ∧ p2 ∧ p3 ∧ p4 ∧ p5 ∧ p6 ∧ p7 ∧ p8 ∧ p9 ∧ p10 ∧ p11 ∧ p12 ∧ a ∧ q) : a := h.2.2.2.2.2.2.2.2.2.2.2.2.2.1
theorem ck13 {p0 p1 p2 p3 p4 p5 p6 p7 p8 p9 p10 p11 p12 a : Prop} (h : p0 ∧ p1 ∧ p2 ∧ p3 ∧ p4 ∧ p5 ∧ p6 ∧ p7 ∧ p8 ∧ p9 ∧ p10 ∧ p11 ∧ p12 ∧ a) : a := h.2.2.2.2.2.2.2.2.2.2.2.2.2
theorem cj14 {p0 p1 p2 p3 p4 p5 p6 p7 p8 p9 p10 p11 p12 p13 a q : Prop} (h : p0 ∧ p1 ∧ p2 ∧ p3 ∧ p4 ∧ p5 ∧ p6 ∧ p7 ∧ p8 ∧ p9 ∧ p10 ∧ p11 ∧ p12 ∧ p13 ∧ a ∧ q) : a := h.2.2.2.2.2.2.2.2.2.2.2.2.2.2.1
theorem ck14 {p0 p1 p2 p3 p4 p5 p6 p7 p8 p9 p10 p11 p12 p13 a : Prop} (h : p0 ∧ p1 ∧ p2 ∧ p3 ∧ p4 ∧ p5 ∧ p6 ∧ p7 ∧ p8 ∧ p9 ∧ p10 ∧ p11 ∧ p12 ∧ p13 ∧ a) : a := h.2.2.2.2.2.2.2.2.2.2.2.2.2.2
theorem cj15 {p0 p1 p2 p3 p4 p5 p6 p7 p8 p9 p10 p11 p12 p13 p14 a q : Prop} (h : p0 ∧ p1 ∧ p2 ∧ p3 ∧ p4 ∧ p5 ∧ p6 ∧ p7 ∧ p8 ∧ p9 ∧ p10 ∧ p11 ∧ p12 ∧ p13 ∧ p14 ∧ a ∧ q) : a := h.2.2.2.2.2.2.2.2.2.2.2.2.2.2.2.1
theorem ck15 {p0 p1 p2 p3 p4 p5 p6 p7 p8 p9 p10 p11 p12 p13 p14 a : Prop} (h : p0 ∧ p1 ∧ p2 ∧ p3 ∧ p4 ∧ p5 ∧ p6 ∧ p7 ∧ p8 ∧ p9 ∧ p10 ∧ p11 ∧ p12 ∧ p13 ∧ p14 ∧ a) : a := h.2.2.2.2.2.2.2.2.2.2.2.2.2.2.2
theorem cj16 {p0 p1 p2 p3 p4 p5 p6 p7 p8 p9 p10 p11 p12 p13 p14 p15 a q : Prop} (h : p0 ∧ p1 ∧ p2 ∧ p3 ∧ p4 ∧ p5 ∧ p6 ∧ p7 ∧ p8 ∧ p9 ∧ p10 ∧ p11 ∧ p12 ∧ p13 ∧ p14 ∧ p15 ∧ a ∧ q) : a := h.2.2.2.2.2.2.2.2.2.2.2.2.2.2.2.2.1
theorem ck16 {p0 p1 p2 p3 p4 p5 p6 p7 p8 p9 p10 p11 p12 p13 p14 p15 a : Prop} (h : p0 ∧ p1 ∧ p2 ∧ p3 ∧ p4 ∧ p5 ∧ p6 ∧ p7 ∧ p8 ∧ p9 ∧ p10 ∧ p11 ∧ p12 ∧ p13 ∧ p14 ∧ p15 ∧ a) : a := h.2.2.2.2.2.2.2.2.2.2.2.2.2.2.2.2
theorem ne_gtt {a b c : Nat} (h1 : b < c) (h2 : a < b) : c ≠ a := Nat.ne_of_gt (Nat.lt_trans h2 h1)
theorem ne_ltt {a b c : Nat} (h1 : b < c) (h2 : a < b) : a ≠ c := Nat.ne_of_lt (Nat.lt_trans h2 h1)
end Mine
section
local macro_rules | `(tactic| walk_at $s:str) => `(tactic| k_extra $(Lean.Syntax.mkStrLit ("my " ++ s.getString)))
local macro_rules
  | `(tactic| k_search (by $t:tacticSeq)) => do
    let scp ← Lean.MonadQuotation.getCurrMacroScope
    let mod ← Lean.MonadQuotation.getMainModule
    let t' := t.raw.rewriteBottomUp fun s => match s with
      | .ident i r v p => if v.getRoot.toString.startsWith "zz" then .ident i r (Lean.addMacroScope mod v scp) p else s
      | s => s
    `(tactic| ($(⟨t'⟩):tacticSeq))
local macro_rules | `(tactic| k_ne) => `(tactic| (refine PySem.W.neN ?_; (try dsimp only); k_extra "my ne"))
section
open PySem PySem.W PySem.Calls PyProof.Rows
namespace Mine

/-- everything of h stands in h' -/
abbrev Stays (h h' : Heap) : Prop := ∀ b o, h.get? b = some o → h'.get? b = some o

theorem fr_on {h₀ h h' : Heap} {L : Addr} {m : Str → Option Value} (F : Fr h₀ L h m) (k : Stays h h') : Fr h₀ L h' m := by
  obtain ⟨oL, es, ep, hL, r⟩ := F.ns
  exact ⟨⟨oL, es, ep, k _ _ hL, r⟩, fun b o e => k _ _ (F.keep b o e), F.above⟩
theorem news_on {h₀ h h' : Heap} {L : Addr} {news : List (Addr × Obj)} (N : News h₀ L h news) (k : Stays h h') : News h₀ L h' news :=
  fun p hp => ⟨k _ _ (N p hp).1, (N p hp).2⟩

theorem news_more {h₀ h h' : Heap} {L x : Addr} {o : Obj} {m : Str → Option Value} {news : List (Addr × Obj)} (F : Fr h₀ L h m) (N : News h₀ L h news) (k : Stays h h') (hx : h.get? x = none) (hx' : h'.get? x = some o) : News h₀ L h' ((x, o) :: news) := by
  intro p hp
  rcases List.mem_cons.mp hp with rfl | hp
  · refine ⟨hx', fun e => ?_, ?_⟩
    · obtain ⟨oL, es, ep, hL, r⟩ := F.ns
      have e' : x = L := e
      subst e'
      rw [hL] at hx; cases hx
    · cases q : h₀.get? x with
      | none => rfl
      | some o' => have := F.keep _ _ q; rw [hx] at this; cases this
  · exact news_on N k p hp
def AllNe (d : Nat) : List (Addr × Obj) → Prop
  | [] => True
  | p :: r => @Ne Nat p.1 d ∧ AllNe d r
theorem news_ne {h₀ h : Heap} {L x : Addr} (hx : h.get? x = none) : ∀ {news : List (Addr × Obj)}, News h₀ L h news → AllNe x news
  | [], _ => trivial
  | p :: r, N => ⟨fun e => (by have := (N p (.head _)).1; rw [show p.1 = x from e, hx] at this; cases this), news_ne hx (fun q hq => N q (.tail _ hq))⟩

abbrev topA (hd : Option Value) (dp un : Nat) (gd : Option (List Code)) (cn : Str) (cs : Scope) (L a : Addr) (ccd : Value) (cl : List (Str × Addr)) (outer : List Env) : Around :=
  { handled := hd, depth := dp, frames := some (envX cn cs L a ccd cl :: outer), guards := gd, units := un }

theorem code_pure {prog : Program} {w : World} {A A₀ : Around} {s : Shared} {K : Frag} {L : Addr} {h₀ base : Heap} {m mg mb : Str → Option Value} {p : Program} {loose : List Str} {mean : ExcName → Option Value}
    {env : Env} {outer : List Env} {R : Result → Shared → Prop} {name qual : Str} {params : Arguments} {body : List Stmt} {scope : Scope} {dV kV doc pm cdv ct oc : Value} {an od : Option Addr} {osl : Array (Option Value)} {f : Addr} {args : Args} {binds : List (Str × Value)}
    (B : Below A₀ base outer h₀) (F : Fr h₀ L s.heap m) (X₀ : K.In h₀) (T : Top p loose mean mg mb h₀) (hA : A.frames = some (env :: outer)) (hf : env.frame = some L) (hke : env.scope.kind = .function)
    (ho : K.lookup f = some ⟨oc, od, .func (fnOf name qual params body scope dV kV doc pm an cdv ct), osl⟩) (hcd : codeIn K cdv qual = true) (hroom : A.depth < recursionLimit)
    (hbind : BindsTo s (fnOf name qual params body scope dV kV doc pm an cdv ct) args binds) (hloc : ∀ y ∈ binds, scope.names.lookup y.1 = some .local)
    (h : ∀ L' h₁, Fr s.heap L' h₁ (fun y => binds.reverse.lookup y) → News s.heap L' h₁ [] → Below A base (env :: outer) s.heap → K.In s.heap → Top p loose mean mg mb s.heap →
      wpAny (model prog w) (A.deeper (envOf qual scope L' f cdv)) (execs body (envOf qual scope L' f cdv))
        (fun fl s' => R (.ok (.ret (match fl with | .ret v => v | _ => .none))) s')
        (fun e s' => wpAny (model prog w) (A.deeper (envOf qual scope L' f cdv)) (leaving (envOf qual scope L' f cdv) e) (fun _ s'' => R (.error e) s'') (fun e' s'' => R (.error e') s'') s')
        { s with heap := h₁, toks := s.toks + binds.length })
    (hco : scope.isCoroutine = false) (hgen : scope.isGenerator = false) (hk : scope.kind = .function)
    (hcell : ∀ x ∈ scope.names, x.2 ≠ .cell) : codeAny (model prog w) A (.call (.ref f) args) R s := by
  obtain ⟨FG, BG, st, lv⟩ := groundX (R := R) (news := []) B F News.nil hA hf hke
  refine codeAny_call_def (fd := fnOf name qual params body scope dV kV doc pm an cdv ct) (body := body) (binds := binds) hroom ((X₀.keeps F.keep) _ _ ho) rfl (T.nolimit.keeps F.keep) (codeRec_of (X₀.keeps F.keep) hcd) rfl hbind hcell hloc (fun h₁ hns hk₁ => ?_) hco hgen hk
  exact h s.heap.objs.size h₁ ⟨hns, fun b o e => hk₁ b o e, Nat.le_refl _⟩ News.nil BG (X₀.keeps F.keep) (T.keeps F.keep)
end Mine
end
section
open PySem hiding Frame step resume exec run Kept
open PySem.Sre PySem.Sre.M
namespace Mine
namespace Re

/-- the machine, in at most k steps, comes to a state of R -/
def Wp (m : M) (k : Nat) (R : M → Prop) : Prop := ∃ j, j ≤ k ∧ R (runFor j m)

theorem wp_now {m : M} {k : Nat} {R : M → Prop} (h : R m) : Wp m k R := ⟨0, Nat.zero_le _, h⟩
theorem wp_more {m : M} {k k' : Nat} {R : M → Prop} (hk : k ≤ k') (h : Wp m k R) : Wp m k' R := by
  obtain ⟨j, hj, hr⟩ := h
  exact ⟨j, Nat.le_trans hj hk, hr⟩
theorem wp_step {m : M} {k : Nat} {R : M → Prop} (ho : m.outcome = none) (hk : 1 ≤ k) (h : Wp m.step (k - 1) R) : Wp m k R := by
  obtain ⟨j, hj, hr⟩ := h
  refine ⟨j + 1, by omega, ?_⟩
  rw [runFor, ho]
  simpa using hr

/-- what the end is asked for -/
def Hit (st hd : Nat) (lm li : Int) (mk : Array (Option Nat)) (m : M) : Prop :=
  m.outcome = some .matched ∧ m.start = st ∧ m.handed = hd ∧ m.lastmark = lm ∧ m.lastindex = li ∧ m.marks = mk
def Miss (m : M) : Prop := m.outcome = some .failed

section
variable {m : M} {k : Nat} {R : M → Prop}

/-- the frames that hand a yes on as it is -/
def Passes (f : Frame) : Prop := f.wait = .giveBack ∨ f.wait = .maxMore ∨ f.wait = .maxTail ∨ f.wait = .closeLoop ∨ f.wait = .nextStart

theorem wp_yes : ∀ (fs : List Frame) (m : M) (k : Nat), m.outcome = none → m.answer = some true → m.frames = fs → (∀ f ∈ fs, Passes f) → fs.length + 1 ≤ k → Wp m k (Hit m.start m.handed m.lastmark m.lastindex m.marks)
  | [], m, k, ho, ha, hf, _, hk => by
    refine wp_step ho (by simp at hk; omega) (wp_now ?_)
    unfold step
    rw [ho, ha, hf]
    exact ⟨rfl, rfl, rfl, rfl, rfl, rfl⟩
  | f :: r, m, k, ho, ha, hf, hp, hk => by
    have hk' : r.length + 1 ≤ k - 1 := by simp only [List.length_cons] at hk; omega
    have hr : ∀ g ∈ r, Passes g := fun g hg => hp g (.tail _ hg)
    refine wp_step ho (by omega) ?_
    have key : ∀ x : M, x.outcome = none → x.answer = some true → x.frames = r → x.start = m.start → x.handed = m.handed → x.lastmark = m.lastmark → x.lastindex = m.lastindex → x.marks = m.marks → Wp x (k - 1) (Hit m.start m.handed m.lastmark m.lastindex m.marks) := by
      intro x h1 h2 h3 h4 h5 h6 h7 h8
      have := wp_yes r x (k - 1) h1 h2 h3 hr hk'
      rw [h4, h5, h6, h7, h8] at this
      exact this
    have e : m.step = resume { m with answer := none, frames := r, weight := m.weight - (1 + f.kept.marks.size), pc := f.pc, pos := f.pos, outermost := f.outermost } f true := by
      unfold step
      rw [ho, ha, hf]
      rfl
    rw [e]
    unfold resume
    rcases hp f (.head _) with h | h | h | h | h <;> rw [h] <;> exact key _ ho rfl rfl rfl rfl rfl rfl rfl

theorem step_exec (ho : m.outcome = none) (ha : m.answer = none) (hpc : m.pc < m.code.size) : m.step = m.exec := by
  unfold step
  rw [ho, ha]
  simp [hpc]

/-- the one-sign words -/
def OneOp (op : Op) : Prop := op = .LITERAL ∨ op = .IN ∨ op = .ANY

theorem wp_one_ok {op : Op} {wd : Nat} (ho : m.outcome = none) (ha : m.answer = none) (hpc : m.pc < m.code.size) (hop : ops[m.word 0]? = some op) (h1 : OneOp op) (hpos : m.pos < m.lim)
    (hacc : ∀ sn, ∃ sn', accepts m.code m.pc (m.text.getD m.pos 0) sn = .ok (true, sn')) (hw : itemWidth m.code m.pc = wd) (hk : 1 ≤ k)
    (h : ∀ sn, Wp { m with seen := sn, pc := m.pc + wd, pos := m.pos + 1 } (k - 1) R) : Wp m k R := by
  refine wp_step ho hk ?_
  rw [step_exec ho ha hpc]
  obtain ⟨sn, e⟩ := hacc (m.seen.add (m.word 0))
  have hnp : ¬ (m.pos ≥ m.lim) := by omega
  unfold exec
  rcases h1 with rfl | rfl | rfl <;> (simp only [hop, hnp, if_false, e, hw]; exact h sn)
theorem wp_one_no {op : Op} (ho : m.outcome = none) (ha : m.answer = none) (hpc : m.pc < m.code.size) (hop : ops[m.word 0]? = some op) (h1 : OneOp op)
    (hacc : m.lim ≤ m.pos ∨ ∀ sn, ∃ sn', accepts m.code m.pc (m.text.getD m.pos 0) sn = .ok (false, sn')) (hk : 1 ≤ k)
    (h : ∀ sn, Wp { m with seen := sn, answer := some false } (k - 1) R) : Wp m k R := by
  refine wp_step ho hk ?_
  rw [step_exec ho ha hpc]
  unfold exec
  by_cases hp : m.pos ≥ m.lim
  · rcases h1 with rfl | rfl | rfl <;> (simp only [hop, hp, if_true]; exact h _)
  · obtain ⟨sn, e⟩ := (hacc.resolve_left hp) (m.seen.add (m.word 0))
    rcases h1 with rfl | rfl | rfl <;> (simp only [hop, hp, if_false, e]; exact h sn)
theorem wp_at0_ok (ho : m.outcome = none) (ha : m.answer = none) (hpc : m.pc < m.code.size) (hop : ops[m.word 0]? = some .AT) (hw : m.word 1 = 0) (hp : m.pos = 0) (hk : 1 ≤ k)
    (h : ∀ sn, Wp { m with seen := sn, pc := m.pc + 2 } (k - 1) R) : Wp m k R := by
  refine wp_step ho hk ?_
  rw [step_exec ho ha hpc]
  have hw' : ({ m with seen := m.seen.add (m.word 0) } : M).word 1 = 0 := hw
  have ei : isAt { m with seen := m.seen.add (m.word 0) } 0 = .ok true := by unfold isAt; rw [hp]; rfl
  unfold exec
  simp only [hop]
  rw [hw', ei]
  exact h _
theorem wp_at0_no (ho : m.outcome = none) (ha : m.answer = none) (hpc : m.pc < m.code.size) (hop : ops[m.word 0]? = some .AT) (hw : m.word 1 = 0) (hp : 0 < m.pos) (hk : 1 ≤ k)
    (h : ∀ sn, Wp { m with seen := sn, answer := some false } (k - 1) R) : Wp m k R := by
  refine wp_step ho hk ?_
  rw [step_exec ho ha hpc]
  have hw' : ({ m with seen := m.seen.add (m.word 0) } : M).word 1 = 0 := hw
  have hp' : (m.pos == 0) = false := by rw [beq_eq_false_iff_ne]; omega
  have ei : isAt { m with seen := m.seen.add (m.word 0) } 0 = .ok false := by
    show Except.ok (m.pos == 0) = _
    rw [hp']
  unfold exec
  simp only [hop]
  rw [hw', ei]
  exact h _
theorem wp_mark {i : Nat} (ho : m.outcome = none) (ha : m.answer = none) (hpc : m.pc < m.code.size) (hop : ops[m.word 0]? = some .MARK) (hw : m.word 1 = i) (hl : decide ((i : Int) ≤ m.lastmark + 1) = true) (hk : 1 ≤ k)
    (h : ∀ sn, Wp { m with seen := sn, marks := m.marks.setIfInBounds i (some m.pos), lastmark := max m.lastmark i, lastindex := if i % 2 == 1 then (i / 2 + 1 : Nat) else m.lastindex, pc := m.pc + 2 } (k - 1) R) : Wp m k R := by
  refine wp_step ho hk ?_
  rw [step_exec ho ha hpc]
  unfold exec mark
  have hw' : ({ m with seen := m.seen.add (m.word 0) } : M).word 1 = i := hw
  have hl := of_decide_eq_true hl
  simp only [hop, hw', hl, if_true]
  exact h _
theorem wp_success (ho : m.outcome = none) (ha : m.answer = none) (hpc : m.pc < m.code.size) (hop : ops[m.word 0]? = some .SUCCESS) (hc : (m.outermost && ((m.wholeText && m.pos != m.lim) || (m.mustAdvance && m.pos == m.start))) = false) (hk : 1 ≤ k)
    (h : ∀ sn, Wp { m with seen := sn, handed := m.pos, answer := some true } (k - 1) R) : Wp m k R := by
  refine wp_step ho hk ?_
  rw [step_exec ho ha hpc]
  unfold exec
  simp only [hop, hc]
  exact h _
theorem wp_unsuccess (ho : m.outcome = none) (ha : m.answer = none) (hpc : m.pc < m.code.size) (hop : ops[m.word 0]? = some .SUCCESS) (hc : (m.outermost && ((m.wholeText && m.pos != m.lim) || (m.mustAdvance && m.pos == m.start))) = true) (hk : 1 ≤ k)
    (h : ∀ sn, Wp { m with seen := sn, answer := some false } (k - 1) R) : Wp m k R := by
  refine wp_step ho hk ?_
  rw [step_exec ho ha hpc]
  unfold exec
  simp only [hop, hc]
  exact h _

/-- the set at place i of the code takes c just where acc says so -/
def Takes (code : Array Nat) (i : Nat) (acc : Nat → Bool) : Prop := ∀ c sn, ∃ sn', accepts code i c sn = .ok (acc c, sn')

theorem Takes.at {code : Array Nat} {i c : Nat} {acc : Nat → Bool} {b : Bool} (ht : Takes code i acc) (hb : acc c = b) (sn : Seen) : ∃ sn', accepts code i c sn = .ok (b, sn') := by
  obtain ⟨sn', e⟩ := ht c sn
  rw [hb] at e
  exact ⟨sn', e⟩
theorem run_spec {code text : Array Nat} {i : Nat} {acc : Nat → Bool} (ht : Takes code i acc) : ∀ (n k p found : Nat) (sn : Seen), k ≤ n → (∀ j, j < k → acc (text.getD (p + j) 0) = true) → (k = n ∨ acc (text.getD (p + k) 0) = false) → ∃ sn', run code text i n p found sn = .ok (found + k, sn')
  | 0, k, p, found, sn, hk, _, _ => ⟨sn, by rw [run]; have : k = 0 := by omega
                                            subst this; rfl⟩
  | n + 1, 0, p, found, sn, _, _, hn => by
    have hn := hn.resolve_left (by omega)
    obtain ⟨sn', e⟩ := ht (text.getD p 0) sn
    rw [Nat.add_zero] at hn
    rw [hn] at e
    exact ⟨sn', by rw [run, e]; rfl⟩
  | n + 1, k + 1, p, found, sn, hk, hy, hn => by
    obtain ⟨sn', e⟩ := ht (text.getD p 0) sn
    have h0 := hy 0 (by omega)
    rw [Nat.add_zero] at h0
    rw [h0] at e
    obtain ⟨sn'', e'⟩ := run_spec ht n k (p + 1) (found + 1) sn' (by omega) (fun j hj => by have := hy (j + 1) (by omega); rwa [show p + (j + 1) = p + 1 + j by omega] at this) (hn.imp (by omega) fun h => by rwa [show p + (k + 1) = p + 1 + k by omega] at h)
    refine ⟨sn'', ?_⟩
    rw [run, e]
    show run code text i n (p + 1) (found + 1) sn' = _
    rw [e', show found + 1 + k = found + (k + 1) by omega]

theorem wp_repeat_one {acc : Nat → Bool} {n : Nat} (ho : m.outcome = none) (ha : m.answer = none) (hpc : m.pc < m.code.size) (hop : ops[m.word 0]? = some .REPEAT_ONE) (ht : Takes m.code (m.pc + 4) acc) (hmost : m.word 3 = maxRepeat) (hlim : m.lim < maxRepeat)
    (hn : m.pos + n ≤ m.lim) (hy : ∀ j, j < n → acc (m.text.getD (m.pos + j) 0) = true) (hstop : m.pos + n = m.lim ∨ acc (m.text.getD (m.pos + n) 0) = false) (hleast : m.word 2 ≤ n)
    (hwt : m.weight + 1 + (m.keep m.inner.isSome).marks.size ≤ 16777216) (hk : 1 ≤ k)
    (h : ∀ sn, Wp { m with seen := sn, pos := m.pos + n, handed := m.pos + n, pc := m.pc + 1 + m.word 1, frames := { wait := .giveBack, pc := m.pc, pos := m.pos + n, outermost := m.outermost, count := n, kept := m.keep m.inner.isSome } :: m.frames, weight := m.weight + 1 + (m.keep m.inner.isSome).marks.size } (k - 1) R) : Wp m k R := by
  refine wp_step ho hk ?_
  rw [step_exec ho ha hpc]
  have hroom : ((m.lim : Int) - m.pos).toNat = m.lim - m.pos := by omega
  have hmin : min (m.word 3) (m.lim - m.pos) = m.lim - m.pos := by rw [hmost]; omega
  obtain ⟨sn, e⟩ := run_spec ht (m.lim - m.pos) n m.pos 0 ((m.seen.add (m.word 0)).add (m.word 4)) (by omega) hy (hstop.imp (by omega) fun x => x)
  have hl : ¬ ((m.word 2 : Int) > (m.lim : Int) - m.pos) := by omega
  have hl2 : ¬ (n < m.word 2) := by omega
  unfold exec
  simp only [hop]
  rw [if_neg (show ¬ (((({ m with seen := m.seen.add (m.word 0) } : M).word 2 : Nat) : Int) > (m.lim : Int) - m.pos) from hl)]
  have e' : run m.code m.text (m.pc + 4) (min (if false = true then ({ m with seen := m.seen.add (m.word 0) } : M).word 2 else ({ m with seen := m.seen.add (m.word 0) } : M).word 3) ((m.lim : Int) - m.pos).toNat) m.pos 0 ((m.seen.add (m.word 0)).add (({ m with seen := m.seen.add (m.word 0) } : M).word 4)) = .ok (n, sn) := by
    rw [hroom]
    show run m.code m.text (m.pc + 4) (min (m.word 3) (m.lim - m.pos)) m.pos 0 _ = _
    rw [hmin]
    rw [Nat.zero_add] at e
    exact e
  simp only [e']
  rw [if_neg (show ¬ (n < ({ m with seen := m.seen.add (m.word 0) } : M).word 2) from hl2)]
  unfold afterRun attempt
  rw [if_neg]
  · exact h sn
  · show ¬ (m.weight + 1 + (m.keep m.inner.isSome).marks.size > 16777216)
    omega
theorem wp_repeat_few {acc : Nat → Bool} (ho : m.outcome = none) (ha : m.answer = none) (hpc : m.pc < m.code.size) (hop : ops[m.word 0]? = some .REPEAT_ONE) (ht : Takes m.code (m.pc + 4) acc) (hleast : m.word 2 = 1)
    (hstop : m.lim ≤ m.pos ∨ acc (m.text.getD m.pos 0) = false) (hk : 1 ≤ k)
    (h : ∀ sn, Wp { m with seen := sn, answer := some false } (k - 1) R) : Wp m k R := by
  refine wp_step ho hk ?_
  rw [step_exec ho ha hpc]
  unfold exec
  simp only [hop]
  by_cases hl : (m.word 2 : Int) > (m.lim : Int) - m.pos
  · rw [if_pos (show (((({ m with seen := m.seen.add (m.word 0) } : M).word 2 : Nat) : Int) > (m.lim : Int) - m.pos) from hl)]
    exact h _
  · rw [if_neg (show ¬ (((({ m with seen := m.seen.add (m.word 0) } : M).word 2 : Nat) : Int) > (m.lim : Int) - m.pos) from hl)]
    rw [hleast] at hl
    have hs := hstop.resolve_left (by omega)
    generalize hN : min (if false = true then ({ m with seen := m.seen.add (m.word 0) } : M).word 2 else ({ m with seen := m.seen.add (m.word 0) } : M).word 3) ((m.lim : Int) - m.pos).toNat = N
    obtain ⟨sn, e⟩ := run_spec (text := m.text) ht N 0 m.pos 0 ((m.seen.add (m.word 0)).add (m.word 4)) (by omega) (fun j hj => absurd hj (Nat.not_lt_zero _)) (.inr (by rw [Nat.add_zero]; exact hs))
    have e' : run m.code m.text (m.pc + 4) N m.pos 0 ((m.seen.add (m.word 0)).add (({ m with seen := m.seen.add (m.word 0) } : M).word 4)) = .ok (0, sn) := e
    simp only [e']
    rw [if_pos (show 0 < ({ m with seen := m.seen.add (m.word 0) } : M).word 2 from (by show 0 < m.word 2; omega))]
    exact h sn

theorem step_resume {f : Frame} {r : List Frame} {b : Bool} (ho : m.outcome = none) (ha : m.answer = some b) (hf : m.frames = f :: r) :
    m.step = resume { m with answer := none, frames := r, weight := m.weight - (1 + f.kept.marks.size), pc := f.pc, pos := f.pos, outermost := f.outermost } f b := by
  unfold step
  rw [ho, ha, hf]
  rfl
theorem wp_no_end {m : M} (ho : m.outcome = none) (ha : m.answer = some false) (hf : m.frames = []) (hk : 1 ≤ k) : Wp m k Miss := by
  refine wp_step ho hk (wp_now ?_)
  unfold step
  rw [ho, ha, hf]
  rfl
theorem wp_no_back_stop {f : Frame} {r : List Frame} (ho : m.outcome = none) (ha : m.answer = some false) (hf : m.frames = f :: r) (hw : f.wait = .giveBack) (hc : f.count - 1 < (m.code.getD (f.pc + 2) 0 : Nat)) (hk : 1 ≤ k)
    (h : Wp { (m.putBack f.kept) with answer := some false, frames := r, weight := m.weight - (1 + f.kept.marks.size), pc := f.pc, pos := f.pos, outermost := f.outermost } (k - 1) R) : Wp m k R := by
  refine wp_step ho hk ?_
  rw [step_resume ho ha hf]
  unfold resume
  rw [hw]
  simp only [Bool.false_eq_true, if_false]
  rw [if_pos (show f.count - 1 < ((({ m with answer := none, frames := r, weight := m.weight - (1 + f.kept.marks.size), pc := f.pc, pos := f.pos, outermost := f.outermost } : M).word 2 : Nat) : Int) from hc)]
  exact h
theorem wp_no_back {f : Frame} {r : List Frame} (ho : m.outcome = none) (ha : m.answer = some false) (hf : m.frames = f :: r) (hw : f.wait = .giveBack) (hc : ¬ (f.count - 1 < (m.code.getD (f.pc + 2) 0 : Nat)))
    (hwt : m.weight - (1 + f.kept.marks.size) + 1 + f.kept.marks.size ≤ 16777216) (hk : 1 ≤ k)
    (h : Wp { (m.putBack f.kept) with answer := none, frames := { wait := .giveBack, pc := f.pc, pos := f.pos - 1, outermost := f.outermost, count := f.count - 1, kept := f.kept } :: r, weight := m.weight - (1 + f.kept.marks.size) + 1 + f.kept.marks.size, pc := f.pc + 1 + m.code.getD (f.pc + 1) 0, pos := f.pos - 1, handed := f.pos - 1, outermost := f.outermost } (k - 1) R) : Wp m k R := by
  refine wp_step ho hk ?_
  rw [step_resume ho ha hf]
  unfold resume
  rw [hw]
  simp only [Bool.false_eq_true, if_false]
  rw [if_neg (show ¬ (f.count - 1 < ((({ m with answer := none, frames := r, weight := m.weight - (1 + f.kept.marks.size), pc := f.pc, pos := f.pos, outermost := f.outermost } : M).word 2 : Nat) : Int)) from hc)]
  unfold afterRun attempt
  rw [if_neg]
  · exact h
  · show ¬ (m.weight - (1 + f.kept.marks.size) + 1 + f.kept.marks.size > 16777216)
    omega
theorem wp_no_next {f : Frame} {r : List Frame} (ho : m.outcome = none) (ha : m.answer = some false) (hf : m.frames = f :: r) (hw : f.wait = .nextStart) (hs : f.pos < m.lastStart) (hk : 1 ≤ k)
    (h : Wp (attemptFrom { m with answer := none, frames := r, weight := m.weight - (1 + f.kept.marks.size), pc := f.pc, pos := f.pos, outermost := f.outermost, mustAdvance := false } (f.pos + 1) false) (k - 1) R) : Wp m k R := by
  refine wp_step ho hk ?_
  rw [step_resume ho ha hf]
  unfold resume
  rw [hw]
  simp only [Bool.false_eq_true, if_false]
  rw [if_pos hs]
  exact h
theorem wp_no_last {f : Frame} {r : List Frame} (ho : m.outcome = none) (ha : m.answer = some false) (hf : m.frames = f :: r) (hw : f.wait = .nextStart) (hs : ¬ (f.pos < m.lastStart)) (hk : 1 ≤ k)
    (h : Wp { m with answer := some false, frames := r, weight := m.weight - (1 + f.kept.marks.size), pc := f.pc, pos := f.pos, outermost := f.outermost } (k - 1) R) : Wp m k R := by
  refine wp_step ho hk ?_
  rw [step_resume ho ha hf]
  unfold resume
  rw [hw]
  simp only [Bool.false_eq_true, if_false]
  rw [if_neg hs]
  exact h

theorem from_plain {s : Nat} {first : Bool} (hf : m.hasFirstSet = false) : m.attemptFrom s first = m.attemptAt s first := by
  unfold attemptFrom
  rw [hf]
  rfl
theorem from_first {s n : Nat} {first : Bool} {sn : Seen} (hf : m.hasFirstSet = true) (e : admitted m (m.lim + 1 - s) s m.seen = .ok (some n, sn)) : m.attemptFrom s first = attemptAt { m with mustAdvance := false, seen := sn } n first := by
  unfold attemptFrom
  rw [hf, e]
  rfl
theorem from_none {s : Nat} {first : Bool} {sn : Seen} (hf : m.hasFirstSet = true) (e : admitted m (m.lim + 1 - s) s m.seen = .ok (none, sn)) : m.attemptFrom s first = { m with seen := sn, answer := some false } := by
  unfold attemptFrom
  rw [hf, e]
  rfl
theorem attemptAt_eq {s : Nat} {first : Bool} (hw : m.weight + 1 ≤ 16777216) : m.attemptAt s first =
    { m with start := s, pos := s, lastmark := -1, lastindex := -1, frames := { wait := .nextStart, pc := m.pc, pos := s, outermost := first } :: m.frames, weight := m.weight + 1, handed := s, outermost := first } := by
  unfold attemptAt attempt
  rw [if_neg]
  · rfl
  · show ¬ (m.weight + 1 + 0 > 16777216)
    omega

theorem wp_repeat (ho : m.outcome = none) (ha : m.answer = none) (hpc : m.pc < m.code.size) (hop : ops[m.word 0]? = some .REPEAT) (hwt : m.weight + 1 ≤ 16777216) (hk : 1 ≤ k)
    (h : ∀ sn, Wp { m with seen := sn, loops := m.loops.push { pc := m.pc, outer := m.inner }, inner := some m.loops.size, frames := { wait := .closeLoop, pc := m.pc, pos := m.pos, outermost := m.outermost, loop := m.loops.size } :: m.frames, weight := m.weight + 1, pc := m.pc + 1 + m.word 1, handed := m.pos } (k - 1) R) : Wp m k R := by
  refine wp_step ho hk ?_
  rw [step_exec ho ha hpc]
  unfold exec
  simp only [hop]
  unfold attempt
  rw [if_neg]
  · exact h _
  · show ¬ (m.weight + 1 + 0 > 16777216)
    omega
theorem until_eq {i : Nat} {l : Loop} {c : Int} (hi : m.inner = some i) (hl : m.loopAt i = l) (hc : l.count + 1 = c)
    (hleast : ¬ (c < ((m.code.getD (l.pc + 2) 0 : Nat) : Int))) (hmost : m.code.getD (l.pc + 3) 0 = maxRepeat) (hb : (l.began != some m.pos) = true) : m.until_ true = m.round .maxMore i c true (m.keep true) := by
  unfold until_
  rw [hi]
  simp only [hl, hc]
  rw [if_neg hleast]
  simp only [Bool.not_true, Bool.false_eq_true, if_false, hmost, hb, beq_self_eq_true, Bool.or_true, Bool.and_true, if_true]
theorem round_eq {i : Nat} {l : Loop} {c : Int} {w : Wait} {kept : Kept} (hl : m.loopAt i = l) (hwt : m.weight + 1 + kept.marks.size ≤ 16777216) : m.round w i c true kept =
    { m with loops := m.loops.modify i (fun l => { l with count := c, began := some m.pos }), frames := { wait := w, pc := m.pc, pos := m.pos, outermost := m.outermost, loop := i, count := c, kept, began := l.began } :: m.frames, weight := m.weight + 1 + kept.marks.size, pc := l.pc + 4, handed := m.pos } := by
  unfold round attempt
  simp only [hl]
  rw [if_neg]
  · rfl
  · show ¬ (m.weight + 1 + kept.marks.size > 16777216)
    omega
theorem wp_until_more {i : Nat} {l : Loop} {c : Int} (ho : m.outcome = none) (ha : m.answer = none) (hpc : m.pc < m.code.size) (hop : ops[m.word 0]? = some .MAX_UNTIL) (hi : m.inner = some i) (hl : m.loopAt i = l) (hc : l.count + 1 = c)
    (hleast : ¬ (c < ((m.code.getD (l.pc + 2) 0 : Nat) : Int))) (hmost : m.code.getD (l.pc + 3) 0 = maxRepeat) (hb : (l.began != some m.pos) = true)
    (hwt : m.weight + 1 + (m.keep true).marks.size ≤ 16777216) (hk : 1 ≤ k)
    (h : ∀ sn, Wp { m with seen := sn, loops := m.loops.modify i (fun l => { l with count := c, began := some m.pos }), frames := { wait := .maxMore, pc := m.pc + 1, pos := m.pos, outermost := m.outermost, loop := i, count := c, kept := m.keep true, began := l.began } :: m.frames, weight := m.weight + 1 + (m.keep true).marks.size, pc := l.pc + 4, handed := m.pos } (k - 1) R) : Wp m k R := by
  refine wp_step ho hk ?_
  rw [step_exec ho ha hpc]
  unfold exec
  simp only [hop]
  have hl' : loopAt { m with pc := m.pc + 1, seen := m.seen.add (m.word 0) } i = l := hl
  rw [until_eq (m := { m with pc := m.pc + 1, seen := m.seen.add (m.word 0) }) hi hl' hc hleast hmost hb, round_eq hl' (by show m.weight + 1 + (m.keep true).marks.size ≤ 16777216; exact hwt)]
  exact h _
theorem wp_no_more {f : Frame} {r : List Frame} (ho : m.outcome = none) (ha : m.answer = some false) (hf : m.frames = f :: r) (hw : f.wait = .maxMore) (hk : 1 ≤ k)
    (h : Wp (afterLoop (setLoop (putBack (setLoop { m with answer := none, frames := r, weight := m.weight - (1 + f.kept.marks.size), pc := f.pc, pos := f.pos, outermost := f.outermost } f.loop fun l => { l with began := f.began }) f.kept) f.loop fun l => { l with count := f.count - 1 }) .maxTail f.loop f.count fun _ => false) (k - 1) R) : Wp m k R := by
  refine wp_step ho hk ?_
  rw [step_resume ho ha hf]
  unfold resume
  rw [hw]
  simp only [Bool.false_eq_true, if_false]
  exact h
theorem afterLoop_eq {i : Nat} {c : Int} {w : Wait} {whole : Option Nat → Bool} (hw : whole (m.loopAt i).outer = false) (hwt : m.weight + 1 ≤ 16777216) : m.afterLoop w i c whole =
    { m with inner := (m.loopAt i).outer, frames := { wait := w, pc := m.pc, pos := m.pos, outermost := m.outermost, loop := i, count := c, kept := { lastmark := m.lastmark, lastindex := m.lastindex, whole := false, marks := #[] } } :: m.frames, weight := m.weight + 1, handed := m.pos } := by
  unfold afterLoop attempt
  simp only [hw]
  rw [if_neg]
  · rfl
  · show ¬ (m.weight + 1 + 0 > 16777216)
    omega
end
end Re
end Mine
end
section
open PySem hiding Frame step resume exec run Kept
open PySem.Sre PySem.Sre.M
set_option linter.unusedSimpArgs false
namespace Mine
namespace Re
def cTok : Array Nat := #[14, 4, 0, 1, 4294967295, 24, 16, 1, 4294967295, 13, 11, 9, 0, 67071226, 3355443198, 1476395007, 0, 0, 0, 0, 0, 1, 1]
def cEsc : Array Nat := #[14, 9, 4, 1, 1, 16, 34, 16, 92, 0, 17, 0, 13, 6, 16, 34, 16, 92, 0, 17, 1, 1]
def cUne : Array Nat := #[14, 8, 1, 2, 2, 1, 1, 92, 0, 16, 92, 17, 0, 2, 17, 1, 1]
def cKey : Array Nat := #[14, 4, 0, 1, 4294967295, 6, 0, 24, 9, 0, 4294967295, 13, 4, 8, 12, 0, 1, 17, 0, 24, 19, 1, 4294967295, 13, 14, 21, 9, 0, 671092736, 0, 0, 0, 0, 0, 0, 8, 12, 0, 1, 17, 1, 1]
def cQuo : Array Nat := #[14, 4, 0, 3, 4294967295, 6, 0, 24, 9, 0, 4294967295, 13, 4, 8, 12, 0, 1, 16, 61, 24, 9, 0, 4294967295, 13, 4, 8, 12, 0, 1, 16, 34, 17, 0, 24, 12, 0, 4294967295, 13, 7, 21, 16, 34, 16, 92, 0, 1, 23, 19, 0, 4294967295, 16, 92, 2, 24, 12, 0, 4294967295, 13, 7, 21, 16, 34, 16, 92, 0, 1, 18, 17, 1, 16, 34, 1]
def cVal : Array Nat := #[14, 4, 0, 1, 4294967295, 6, 0, 24, 9, 0, 4294967295, 13, 4, 8, 12, 0, 1, 16, 61, 24, 9, 0, 4294967295, 13, 4, 8, 12, 0, 1, 17, 0, 24, 14, 0, 4294967295, 13, 9, 21, 8, 12, 16, 59, 16, 44, 0, 1, 17, 1, 1]
def cJunk : Array Nat := #[14, 4, 0, 0, 4294967295, 6, 0, 24, 13, 0, 4294967295, 13, 8, 16, 61, 8, 12, 16, 59, 0, 1, 1]

def tokOk (c : Nat) : Bool := decide (c < 256) && (cTok.getD (12 + c / 32) 0).testBit (c % 32)
theorem tok_takes : Takes cTok 9 tokOk := by
  intro c sn
  show ∃ sn', inSet cTok c 23 11 true sn = _
  unfold inSet
  show ∃ sn', (if (decide (c < 256) && (cTok.getD (11 + (1 + c / 32)) 0).testBit (c % 32)) = true then Except.ok (true, sn.add 9) else inSet cTok c 22 20 true (sn.add 9)) = _
  have e : cTok.getD (11 + (1 + c / 32)) 0 = cTok.getD (12 + c / 32) 0 := by rw [← Nat.add_assoc]
  rw [e]
  show ∃ sn', (if tokOk c = true then Except.ok (true, sn.add 9) else inSet cTok c 22 20 true (sn.add 9)) = _
  cases h : tokOk c
  · exact ⟨_, rfl⟩
  · exact ⟨_, rfl⟩
/-- in a set of two written signs, or not in it -/
theorem two_takes (code : Array Nat) (i a b : Nat) (h0 : ops[code.getD i 0]? = some .IN) (h1 : ops[code.getD (i + 2) 0]? = some .LITERAL) (h2 : code.getD (i + 3) 0 = a) (h3 : ops[code.getD (i + 4) 0]? = some .LITERAL) (h4 : code.getD (i + 5) 0 = b)
    (h5 : ops[code.getD (i + 6) 0]? = some .FAILURE) (hs : 3 ≤ code.size) : Takes code i (fun c => c == a || c == b) := by
  intro c sn
  obtain ⟨n, hn⟩ : ∃ n, code.size = n + 3 := ⟨code.size - 3, by omega⟩
  unfold accepts
  simp only [h0]
  rw [hn, inSet]
  simp only [Nat.add_zero, h1, h2]
  cases ha : (c == a)
  · simp only [Bool.false_eq_true, if_false, Bool.false_or]
    rw [inSet]
    simp only [Nat.add_zero, Nat.add_assoc, Nat.reduceAdd, h3, h4]
    cases hb : (c == b)
    · simp only [Bool.false_eq_true, if_false]
      rw [inSet]
      simp only [Nat.add_zero, Nat.add_assoc, Nat.reduceAdd, h5]
      exact ⟨_, rfl⟩
    · exact ⟨_, rfl⟩
  · exact ⟨_, rfl⟩
theorem nottwo_takes (code : Array Nat) (i a b : Nat) (h0 : ops[code.getD i 0]? = some .IN) (hn0 : ops[code.getD (i + 2) 0]? = some .NEGATE) (h1 : ops[code.getD (i + 3) 0]? = some .LITERAL) (h2 : code.getD (i + 4) 0 = a) (h3 : ops[code.getD (i + 5) 0]? = some .LITERAL) (h4 : code.getD (i + 6) 0 = b)
    (h5 : ops[code.getD (i + 7) 0]? = some .FAILURE) (hs : 4 ≤ code.size) : Takes code i (fun c => !(c == a || c == b)) := by
  intro c sn
  obtain ⟨n, hn⟩ : ∃ n, code.size = n + 4 := ⟨code.size - 4, by omega⟩
  unfold accepts
  simp only [h0]
  rw [hn, inSet]
  simp only [Nat.add_zero, hn0]
  rw [inSet]
  simp only [Nat.add_zero, Nat.add_assoc, Nat.reduceAdd, h1, h2]
  cases ha : (c == a)
  · simp only [Bool.false_eq_true, if_false, Bool.false_or]
    rw [inSet]
    simp only [Nat.add_zero, Nat.add_assoc, Nat.reduceAdd, h3, h4]
    cases hb : (c == b)
    · simp only [Bool.false_eq_true, if_false]
      rw [inSet]
      simp only [Nat.add_zero, Nat.add_assoc, Nat.reduceAdd, h5]
      exact ⟨_, rfl⟩
    · exact ⟨_, rfl⟩
  · exact ⟨_, rfl⟩
theorem esc_takes : Takes cEsc 12 (fun c => c == 34 || c == 92) := two_takes cEsc 12 34 92 rfl rfl rfl rfl rfl rfl (by decide)
theorem quo_takes1 : Takes cQuo 37 (fun c => !(c == 34 || c == 92)) := nottwo_takes cQuo 37 34 92 rfl rfl rfl rfl rfl rfl rfl (by decide)
theorem quo_takes2 : Takes cQuo 57 (fun c => !(c == 34 || c == 92)) := nottwo_takes cQuo 57 34 92 rfl rfl rfl rfl rfl rfl rfl (by decide)
theorem lit_takes (code : Array Nat) (i a : Nat) (h0 : ops[code.getD i 0]? = some .LITERAL) (h1 : code.getD (i + 1) 0 = a) : Takes code i (fun c => c == a) := by
  intro c sn
  unfold accepts
  simp only [h0, h1]
  exact ⟨_, rfl⟩
theorem any_takes (code : Array Nat) (i : Nat) (h0 : ops[code.getD i 0]? = some .ANY) : Takes code i (fun c => c != 10) := by
  intro c sn
  unfold accepts
  simp only [h0]
  exact ⟨_, rfl⟩
/-- the set of blanks -/
theorem space_takes (code : Array Nat) (i : Nat) (h0 : ops[code.getD i 0]? = some .IN) (h1 : ops[code.getD (i + 2) 0]? = some .CATEGORY) (h2 : code.getD (i + 3) 0 = 12) (h5 : ops[code.getD (i + 4) 0]? = some .FAILURE) (hs : 2 ≤ code.size) : Takes code i Unicode.isSpace := by
  intro c sn
  obtain ⟨n, hn⟩ : ∃ n, code.size = n + 2 := ⟨code.size - 2, by omega⟩
  unfold accepts
  simp only [h0]
  rw [hn, inSet]
  simp only [Nat.add_zero, h1, h2]
  have e : category 12 c = .ok (Unicode.isSpace c) := by
    have e0 : category 12 c = .ok (Unicode.isSpace c != false) := rfl
    rw [e0]
    cases Unicode.isSpace c <;> rfl
  rw [e]
  cases hb : Unicode.isSpace c
  · show ∃ sn', inSet code c (n + 1) (i + 2 + 2) true _ = _
    rw [inSet]
    simp only [Nat.add_zero, Nat.add_assoc, Nat.reduceAdd, h5]
    exact ⟨_, rfl⟩
  · exact ⟨_, rfl⟩

/-! fullmatch of the token pattern -/
theorem tok_mach (text : Array Nat) (h : 1 ≤ text.size) : forMatch cTok text 0 0 text.size true false =
    { code := cTok, text, lim := text.size, start := 0, pc := 5, pos := 0, handed := 0, marks := #[], wholeText := true, seen := ({} : Seen).add 14 } := by
  unfold forMatch
  have e : (header cTok).1 = 1 := rfl
  simp only [e]
  rw [if_neg]
  · rfl
  · intro h'
    simp only [Bool.and_eq_true, decide_eq_true_eq] at h'
    omega
theorem tok_mach0 (text : Array Nat) (h : text.size = 0) : forMatch cTok text 0 0 text.size true false =
    { code := cTok, text, lim := text.size, start := 0, pc := 5, pos := 0, handed := 0, marks := #[], wholeText := true, seen := ({} : Seen).add 14, answer := some false } := by
  unfold forMatch
  have e : (header cTok).1 = 1 := rfl
  simp only [e]
  rw [if_pos]
  · rfl
  · simp only [Bool.and_eq_true, decide_eq_true_eq]
    exact ⟨⟨rfl, by omega⟩, by omega⟩
theorem tok_yes (text : Array Nat) (h1 : 1 ≤ text.size) (hs : text.size < 1000000) (h : ∀ j, j < text.size → tokOk (text.getD j 0) = true) : Wp (forMatch cTok text 0 0 text.size true false) 100 (Hit 0 text.size (-1) (-1) #[]) := by
  rw [tok_mach text h1]
  refine wp_repeat_one (n := text.size) rfl rfl (Nat.le_of_ble_eq_true rfl) rfl tok_takes rfl (by show text.size < 4294967295; omega) (by show 0 + text.size ≤ text.size; omega) (fun j hj => by show tokOk (text.getD (0 + j) 0) = true; rw [Nat.zero_add]; exact h j hj) (.inl (by show 0 + text.size = text.size; omega)) h1 (by show 0 + 1 + 0 ≤ 16777216; decide) (by decide) fun sn => ?_
  refine wp_success rfl rfl (Nat.le_of_ble_eq_true rfl) rfl ?_ (by decide) fun sn => ?_
  · show (true && ((true && (0 + text.size) != text.size) || (false && (0 + text.size) == 0))) = false
    simp
  · have := wp_yes [{ wait := .giveBack, pc := 5, pos := 0 + text.size, outermost := true, count := (text.size : Int), kept := { marks := #[] } }] { code := cTok, text, lim := text.size, start := 0, pc := 22, pos := 0 + text.size, handed := 0 + text.size, marks := #[], wholeText := true, seen := sn, answer := some true, frames := [{ wait := .giveBack, pc := 5, pos := 0 + text.size, outermost := true, count := (text.size : Int), kept := { marks := #[] } }], weight := 1 } 98 rfl rfl rfl (fun f hf => by cases hf with | head => exact .inl rfl | tail _ h => cases h) (Nat.le_of_ble_eq_true rfl)
    dsimp only at this
    rw [Nat.zero_add] at this
    rw [show 0 + text.size = text.size from Nat.zero_add _]
    exact this

def tokAt (text : Array Nat) (c : Nat) (sn : Seen) : M :=
  { code := cTok, text, lim := text.size, start := 0, pc := 22, pos := c, handed := c, marks := #[], wholeText := true, seen := sn, weight := 1, frames := [{ wait := .giveBack, pc := 5, pos := c, outermost := true, count := (c : Int), kept := { marks := #[] } }] }
theorem tok_back (text : Array Nat) : ∀ (c : Nat) (sn : Seen), 1 ≤ c → c < text.size → Wp (tokAt text c sn) (2 * c + 2) Miss
  | 0, _, h, _ => absurd h (by decide)
  | c + 1, sn, _, hc => by
    refine wp_unsuccess rfl rfl (Nat.le_of_ble_eq_true rfl) rfl ?_ (by omega) fun sn' => ?_
    · show (true && ((true && (c + 1) != text.size) || (false && (c + 1) == 0))) = true
      have : ((c + 1) != text.size) = true := by rw [bne_iff_ne]; omega
      rw [this]; rfl
    · by_cases h0 : c = 0
      · subst h0
        refine wp_no_back_stop (f := { wait := .giveBack, pc := 5, pos := 0 + 1, outermost := true, count := ((0 + 1 : Nat) : Int), kept := { marks := #[] } }) rfl rfl rfl rfl (by show ((0 + 1 : Nat) : Int) - 1 < ((1 : Nat) : Int); decide) (by omega) ?_
        exact wp_no_end rfl rfl rfl (by omega)
      · refine wp_no_back (f := { wait := .giveBack, pc := 5, pos := c + 1, outermost := true, count := ((c + 1 : Nat) : Int), kept := { marks := #[] } }) rfl rfl rfl rfl ?_ (Nat.le_of_ble_eq_true rfl) (by omega) ?_
        · show ¬ (((c + 1 : Nat) : Int) - 1 < ((1 : Nat) : Int))
          omega
        · have := tok_back text c sn' (by omega) (by omega)
          have e : (((c + 1 : Nat) : Int) - 1) = (c : Int) := by omega
          refine wp_more (k := 2 * c + 2) (by omega) ?_
          show Wp { code := cTok, text, lim := text.size, start := 0, pc := 22, pos := c, handed := c, marks := #[], wholeText := true, seen := sn', weight := 1, frames := [{ wait := .giveBack, pc := 5, pos := c, outermost := true, count := (((c + 1 : Nat) : Int) - 1), kept := { marks := #[] } }] } (2 * c + 2) Miss
          rw [e]
          exact this
theorem tok_no (text : Array Nat) (n : Nat) (hs : text.size < 1000000) (hn : n < text.size) (h : ∀ j, j < n → tokOk (text.getD j 0) = true) (hx : tokOk (text.getD n 0) = false) : Wp (forMatch cTok text 0 0 text.size true false) 3000000 Miss := by
  rw [tok_mach text (by omega)]
  by_cases h0 : n = 0
  · subst h0
    refine wp_repeat_few rfl rfl (Nat.le_of_ble_eq_true rfl) rfl tok_takes rfl (.inr hx) (by decide) fun sn => ?_
    exact wp_no_end rfl rfl rfl (by decide)
  · refine wp_repeat_one (n := n) rfl rfl (Nat.le_of_ble_eq_true rfl) rfl tok_takes rfl (by show text.size < 4294967295; omega) (by show 0 + n ≤ text.size; omega) (fun j hj => by show tokOk (text.getD (0 + j) 0) = true; rw [Nat.zero_add]; exact h j hj) (.inr (by show tokOk (text.getD (0 + n) 0) = false; rw [Nat.zero_add]; exact hx)) (by show 1 ≤ n; omega) (by show 0 + 1 + 0 ≤ 16777216; decide) (by decide) fun sn => ?_
    refine wp_more (k := 2 * n + 2) (by omega) ?_
    have := tok_back text n sn (by omega) hn
    show Wp { code := cTok, text, lim := text.size, start := 0, pc := 22, pos := 0 + n, handed := 0 + n, marks := #[], wholeText := true, seen := sn, weight := 1, frames := [{ wait := .giveBack, pc := 5, pos := 0 + n, outermost := true, count := (n : Int), kept := { marks := #[] } }] } (2 * n + 2) Miss
    rw [Nat.zero_add]
    exact this

/-! the escaping search: a sign of two -/
def isQ (c : Nat) : Bool := c == 34 || c == 92
theorem esc_in (c : Nat) (sn : Seen) : ∃ sn', inSet cEsc c cEsc.size 5 true sn = .ok (isQ c, sn') := by
  show ∃ sn', inSet cEsc c 22 5 true sn = _
  unfold isQ
  rw [inSet]
  show ∃ sn', (if (c == 34) = true then Except.ok (true, sn.add 16) else inSet cEsc c 21 7 true (sn.add 16)) = _
  cases ha : (c == 34)
  · rw [if_neg (by decide), inSet]
    show ∃ sn', (if (c == 92) = true then Except.ok (true, (sn.add 16).add 16) else inSet cEsc c 20 9 true ((sn.add 16).add 16)) = _
    cases hb : (c == 92)
    · exact ⟨_, rfl⟩
    · exact ⟨_, rfl⟩
  · exact ⟨_, rfl⟩
theorem admitted_none (m : M) (hc : m.code = cEsc) : ∀ (fuel s : Nat) (sn : Seen), (∀ j, s ≤ j → j < m.lim → isQ (m.text.getD j 0) = false) → ∃ sn', admitted m fuel s sn = .ok (none, sn')
  | 0, _, sn, _ => ⟨sn, rfl⟩
  | fuel + 1, s, sn, h => by
    rw [admitted]
    by_cases hs : s ≥ m.lim
    · rw [if_pos hs]; exact ⟨_, rfl⟩
    · rw [if_neg hs, hc]
      obtain ⟨sn', e⟩ := esc_in (m.text.getD s 0) sn
      rw [h s (Nat.le_refl _) (by omega)] at e
      rw [e]
      exact admitted_none m hc fuel (s + 1) sn' fun j hj hl => h j (by omega) hl
theorem admitted_some (m : M) (hc : m.code = cEsc) : ∀ (fuel s n : Nat) (sn : Seen), s ≤ n → n < m.lim → m.lim + 1 ≤ s + fuel → (∀ j, s ≤ j → j < n → isQ (m.text.getD j 0) = false) → isQ (m.text.getD n 0) = true → ∃ sn', admitted m fuel s sn = .ok (some n, sn')
  | 0, _, _, _, _, _, _, _, _ => by omega
  | fuel + 1, s, n, sn, hsn, hn, hf, h, hq => by
    rw [admitted]
    rw [if_neg (by omega), hc]
    obtain ⟨sn', e⟩ := esc_in (m.text.getD s 0) sn
    by_cases he : s = n
    · subst he
      rw [hq] at e
      rw [e]
      exact ⟨_, rfl⟩
    · rw [h s (Nat.le_refl _) (by omega)] at e
      rw [e]
      exact admitted_some m hc fuel (s + 1) n sn' (by omega) hn (by omega) (fun j hj hl => h j (by omega) hl) hq
def escM (text : Array Nat) (pos : Nat) (mu : Bool) : M := { code := cEsc, text, lim := text.size, start := pos, lastStart := text.size, pc := 10, pos, handed := pos, marks := #[none, none], mustAdvance := mu, seen := ({} : Seen).add 14 }
theorem esc_mach (text : Array Nat) (pos : Nat) (mu : Bool) (h : pos < text.size) : forSearch cEsc text 1 pos text.size mu = (escM text pos mu).attemptFrom pos true := by
  unfold forSearch
  have e : (header cEsc).1 = 1 := rfl
  simp only [e]
  rw [if_neg]
  · rfl
  · intro h'
    simp only [Bool.or_eq_true, decide_eq_true_eq] at h'
    omega
theorem esc_mach0 (text : Array Nat) (pos : Nat) (mu : Bool) (h : text.size ≤ pos) : forSearch cEsc text 1 pos text.size mu = { escM text pos mu with lastStart := 0, answer := some false } := by
  unfold forSearch
  have e : (header cEsc).1 = 1 := rfl
  simp only [e]
  rw [if_pos]
  · rfl
  · simp only [Bool.or_eq_true, decide_eq_true_eq]
    omega
theorem esc_no (text : Array Nat) (pos : Nat) (mu : Bool) (h : ∀ j, pos ≤ j → j < text.size → isQ (text.getD j 0) = false) : Wp (forSearch cEsc text 1 pos text.size mu) 100 Miss := by
  by_cases hp : pos < text.size
  · rw [esc_mach text pos mu hp]
    obtain ⟨sn, e⟩ := admitted_none (escM text pos mu) rfl ((escM text pos mu).lim + 1 - pos) pos (escM text pos mu).seen h
    rw [from_none rfl e]
    exact wp_no_end rfl rfl rfl (by decide)
  · rw [esc_mach0 text pos mu (by omega)]
    exact wp_no_end rfl rfl rfl (by decide)
theorem esc_hit (text : Array Nat) (pos n : Nat) (mu : Bool) (hpn : pos ≤ n) (hn : n < text.size) (h : ∀ j, pos ≤ j → j < n → isQ (text.getD j 0) = false) (hq : isQ (text.getD n 0) = true) :
    Wp (forSearch cEsc text 1 pos text.size mu) 100 (Hit n (n + 1) 1 1 #[some n, some (n + 1)]) := by
  rw [esc_mach text pos mu (by omega)]
  obtain ⟨sn, e⟩ := admitted_some (escM text pos mu) rfl ((escM text pos mu).lim + 1 - pos) pos n (escM text pos mu).seen hpn hn (by show text.size + 1 ≤ pos + (text.size + 1 - pos); omega) h hq
  rw [from_first rfl e, attemptAt_eq (Nat.le_of_ble_eq_true rfl)]
  refine wp_mark (i := 0) rfl rfl (Nat.le_of_ble_eq_true rfl) rfl rfl rfl (by decide) fun sn => ?_
  refine wp_one_ok (op := .IN) (wd := 7) rfl rfl (Nat.le_of_ble_eq_true rfl) rfl (.inr (.inl rfl)) hn (esc_takes.at hq) rfl (by decide) fun sn => ?_
  refine wp_mark (i := 1) rfl rfl (Nat.le_of_ble_eq_true rfl) rfl rfl rfl (by decide) fun sn => ?_
  refine wp_success rfl rfl (Nat.le_of_ble_eq_true rfl) rfl ?_ (by decide) fun sn => ?_
  · show (true && ((false && (n + 1) != text.size) || (false && (n + 1) == n))) = false
    rfl
  · refine wp_yes _ _ 96 rfl rfl rfl (fun f hf => ?_) (Nat.le_of_ble_eq_true rfl)
    cases hf with
    | head => exact .inr (.inr (.inr (.inr rfl)))
    | tail _ h => cases h

/-! the unescaping search: a backslash and a sign -/
def stU (text : Array Nat) (s0 s pc pos : Nat) (om : Bool) (marks : Array (Option Nat)) (lm li : Int) (ans : Option Bool) (mu : Bool) (sn : Seen) : M :=
  { code := cUne, text, lim := text.size, start := s, lastStart := text.size, pc, pos, handed := s0, outermost := om, marks, lastmark := lm, lastindex := li, mustAdvance := mu, seen := sn, answer := ans, weight := 1,
    frames := [{ wait := .nextStart, pc := 9, pos := s, outermost := om }] }
theorem une_at (text : Array Nat) (n : Nat) (hn : n + 1 < text.size) (h : text.getD n 0 = 92) (h2 : text.getD (n + 1) 0 ≠ 10) (om : Bool) (mk : Array (Option Nat)) (hm : mk.size = 2) (mu : Bool) (sn : Seen) :
    Wp (stU text n n 9 n om mk (-1) (-1) none mu sn) 10 (Hit n (n + 2) 1 1 #[some (n + 1), some (n + 2)]) := by
  obtain ⟨mk⟩ := mk
  match mk, hm with
  | [a, b], _ =>
  refine wp_one_ok (op := .LITERAL) (wd := 2) rfl rfl (Nat.le_of_ble_eq_true rfl) rfl (.inl rfl) (by show n < text.size; omega) ((lit_takes cUne 9 92 rfl rfl).at (c := text.getD n 0) (by rw [h]; rfl)) rfl (by decide) fun sn => ?_
  show Wp (stU text n n 11 (n + 1) om #[a, b] (-1) (-1) none mu sn) 9 _
  refine wp_mark (i := 0) rfl rfl (Nat.le_of_ble_eq_true rfl) rfl rfl rfl (by decide) fun sn => ?_
  show Wp (stU text n n 13 (n + 1) om #[some (n + 1), b] 0 (-1) none mu sn) 8 _
  refine wp_one_ok (op := .ANY) (wd := 1) rfl rfl (Nat.le_of_ble_eq_true rfl) rfl (.inr (.inr rfl)) hn ((any_takes cUne 13 rfl).at (c := text.getD (n + 1) 0) (by rw [bne_iff_ne]; exact h2)) rfl (by decide) fun sn => ?_
  show Wp (stU text n n 14 (n + 2) om #[some (n + 1), b] 0 (-1) none mu sn) 7 _
  refine wp_mark (i := 1) rfl rfl (Nat.le_of_ble_eq_true rfl) rfl rfl rfl (by decide) fun sn => ?_
  show Wp (stU text n n 16 (n + 2) om #[some (n + 1), some (n + 2)] 1 1 none mu sn) 6 _
  refine wp_success rfl rfl (Nat.le_of_ble_eq_true rfl) rfl ?_ (by decide) fun sn => ?_
  · show (om && ((false && (n + 2) != text.size) || (mu && (n + 2) == n))) = false
    have : ((n + 2) == n) = false := by rw [beq_eq_false_iff_ne]; omega
    rw [this]
    cases om <;> cases mu <;> rfl
  · show Wp (stU text (n + 2) n 16 (n + 2) om #[some (n + 1), some (n + 2)] 1 1 (some true) mu sn) 5 _
    refine wp_yes _ _ 5 rfl rfl rfl (fun f hf => ?_) (Nat.le_of_ble_eq_true rfl)
    cases hf with
    | head => exact .inr (.inr (.inr (.inr rfl)))
    | tail _ h => cases h
theorem une_fail (text : Array Nat) (s : Nat) (om : Bool) (mk : Array (Option Nat)) (mu : Bool) (sn : Seen) (k : Nat) (hk : 2 ≤ k) (R : M → Prop) (hs : s < text.size) (hc : text.getD s 0 ≠ 92)
    (h : ∀ sn, Wp (stU text (s + 1) (s + 1) 9 (s + 1) false mk (-1) (-1) none false sn) (k - 2) R) : Wp (stU text s s 9 s om mk (-1) (-1) none mu sn) k R := by
  refine wp_one_no (op := .LITERAL) rfl rfl (Nat.le_of_ble_eq_true rfl) rfl (.inl rfl) (.inr ((lit_takes cUne 9 92 rfl rfl).at (c := text.getD s 0) (by rw [beq_eq_false_iff_ne]; exact hc))) (by omega) fun sn => ?_
  show Wp (stU text s s 9 s om mk (-1) (-1) (some false) mu sn) (k - 1) _
  refine wp_no_next (f := { wait := .nextStart, pc := 9, pos := s, outermost := om }) rfl rfl rfl rfl hs (by omega) ?_
  rw [from_plain rfl, attemptAt_eq (Nat.le_of_ble_eq_true rfl)]
  exact h sn
theorem une_last (text : Array Nat) (om : Bool) (mk : Array (Option Nat)) (mu : Bool) (sn : Seen) (k : Nat) (hk : 3 ≤ k) : Wp (stU text text.size text.size 9 text.size om mk (-1) (-1) none mu sn) k Miss := by
  refine wp_one_no (op := .LITERAL) rfl rfl (Nat.le_of_ble_eq_true rfl) rfl (.inl rfl) (.inl (Nat.le_refl _)) (by omega) fun sn => ?_
  show Wp (stU text text.size text.size 9 text.size om mk (-1) (-1) (some false) mu sn) (k - 1) _
  refine wp_no_last (f := { wait := .nextStart, pc := 9, pos := text.size, outermost := om }) rfl rfl rfl rfl (Nat.lt_irrefl _) (by omega) ?_
  exact wp_no_end rfl rfl rfl (by omega)
theorem une_scan_hit (text : Array Nat) (n : Nat) (hn : n + 1 < text.size) (hc : text.getD n 0 = 92) (h2 : text.getD (n + 1) 0 ≠ 10) (mk : Array (Option Nat)) (hm : mk.size = 2) : ∀ (d s : Nat) (om mu : Bool) (sn : Seen), s + d = n → (∀ j, s ≤ j → j < n → text.getD j 0 ≠ 92) →
    Wp (stU text s s 9 s om mk (-1) (-1) none mu sn) (2 * d + 10) (Hit n (n + 2) 1 1 #[some (n + 1), some (n + 2)])
  | 0, s, om, mu, sn, e, _ => by
    have : s = n := by omega
    subst this
    exact une_at text s hn hc h2 om mk hm mu sn
  | d + 1, s, om, mu, sn, e, h => by
    refine une_fail text s om mk mu sn _ (by omega) _ (by omega) (h s (Nat.le_refl _) (by omega)) fun sn => ?_
    exact wp_more (by omega) (une_scan_hit text n hn hc h2 mk hm d (s + 1) false false sn (by omega) fun j hj hl => h j (by omega) hl)
theorem une_scan_no (text : Array Nat) (mk : Array (Option Nat)) : ∀ (d s : Nat) (om mu : Bool) (sn : Seen), s + d = text.size → (∀ j, s ≤ j → j < text.size → text.getD j 0 ≠ 92) →
    Wp (stU text s s 9 s om mk (-1) (-1) none mu sn) (2 * d + 10) Miss
  | 0, s, om, mu, sn, e, _ => by
    have : s = text.size := by omega
    subst this
    exact une_last text om mk mu sn _ (by omega)
  | d + 1, s, om, mu, sn, e, h => by
    refine une_fail text s om mk mu sn _ (by omega) _ (by omega) (h s (Nat.le_refl _) (by omega)) fun sn => ?_
    exact wp_more (by omega) (une_scan_no text mk d (s + 1) false false sn (by omega) fun j hj hl => h j (by omega) hl)
theorem une_mach (text : Array Nat) (pos : Nat) (mu : Bool) (h : pos + 2 ≤ text.size) : forSearch cUne text 1 pos text.size mu = stU text pos pos 9 pos true #[none, none] (-1) (-1) none mu (({} : Seen).add 14) := by
  unfold forSearch
  have e : (header cUne).1 = 2 := rfl
  simp only [e]
  rw [if_neg]
  · rfl
  · intro h'
    simp only [Bool.or_eq_true, decide_eq_true_eq] at h'
    omega
theorem une_mach0 (text : Array Nat) (pos : Nat) (mu : Bool) (h : text.size < pos + 2) : Wp (forSearch cUne text 1 pos text.size mu) 10 Miss := by
  unfold forSearch
  have e : (header cUne).1 = 2 := rfl
  simp only [e]
  rw [if_pos]
  · exact wp_no_end rfl rfl rfl (by decide)
  · simp only [Bool.or_eq_true, decide_eq_true_eq]
    omega
theorem une_hit (text : Array Nat) (pos n : Nat) (mu : Bool) (hs : text.size < 1000000) (hpn : pos ≤ n) (hn : n + 1 < text.size) (h : ∀ j, pos ≤ j → j < n → text.getD j 0 ≠ 92) (hq : text.getD n 0 = 92) (h2 : text.getD (n + 1) 0 ≠ 10) :
    Wp (forSearch cUne text 1 pos text.size mu) 3000000 (Hit n (n + 2) 1 1 #[some (n + 1), some (n + 2)]) := by
  rw [une_mach text pos mu (by omega)]
  exact wp_more (by omega) (une_scan_hit text n hn hq h2 _ rfl (n - pos) pos true mu _ (by omega) h)
theorem une_no (text : Array Nat) (pos : Nat) (mu : Bool) (hs : text.size < 1000000) (h : ∀ j, pos ≤ j → j < text.size → text.getD j 0 ≠ 92) : Wp (forSearch cUne text 1 pos text.size mu) 3000000 Miss := by
  by_cases hp : pos + 2 ≤ text.size
  · rw [une_mach text pos mu hp]
    exact wp_more (by omega) (une_scan_no text _ (text.size - pos) pos true mu _ (by omega) h)
  · exact wp_more (by decide) (une_mach0 text pos mu (by omega))
end Re
end Mine
end
section
open PySem hiding Frame step resume exec run Kept
open PySem.Sre PySem.Sre.M
set_option linter.unusedSimpArgs false
namespace Mine
namespace Re
def keyOk (c : Nat) : Bool := !((decide (c < 256) && (cKey.getD (27 + c / 32) 0).testBit (c % 32)) || Unicode.isSpace c)
theorem cat12 (c : Nat) : category 12 c = .ok (Unicode.isSpace c) := by
  have e0 : category 12 c = .ok (Unicode.isSpace c != false) := rfl
  rw [e0]
  cases Unicode.isSpace c <;> rfl
theorem key_takes : Takes cKey 23 keyOk := by
  intro c sn
  show ∃ sn', inSet cKey c 42 25 true sn = _
  rw [inSet]
  show ∃ sn', inSet cKey c 41 26 false (sn.add 21) = _
  generalize sn.add 21 = sn
  rw [inSet]
  show ∃ sn', (if (decide (c < 256) && (cKey.getD (26 + (1 + c / 32)) 0).testBit (c % 32)) = true then Except.ok (false, sn.add 9) else inSet cKey c 40 35 false (sn.add 9)) = _
  have e : cKey.getD (26 + (1 + c / 32)) 0 = cKey.getD (27 + c / 32) 0 := by rw [← Nat.add_assoc]
  rw [e]
  unfold keyOk
  cases h : (decide (c < 256) && (cKey.getD (27 + c / 32) 0).testBit (c % 32))
  · rw [if_neg (by decide), inSet]
    show ∃ sn', (do if ← category 12 c then pure (false, ((sn.add 9).add 8).add 67) else inSet cKey c 39 37 false (((sn.add 9).add 8).add 67)) = _
    rw [cat12]
    cases hs : Unicode.isSpace c
    · exact ⟨_, rfl⟩
    · exact ⟨_, rfl⟩
  · exact ⟨_, rfl⟩
def valOk (c : Nat) : Bool := !(Unicode.isSpace c || c == 59 || c == 44)
theorem val_takes : Takes cVal 35 valOk := by
  intro c sn
  show ∃ sn', inSet cVal c 49 37 true sn = _
  rw [inSet]
  show ∃ sn', inSet cVal c 48 38 false (sn.add 21) = _
  generalize sn.add 21 = sn
  rw [inSet]
  show ∃ sn', (do if ← category 12 c then pure (false, (sn.add 8).add 67) else inSet cVal c 47 40 false ((sn.add 8).add 67)) = _
  rw [cat12]
  unfold valOk
  cases hs : Unicode.isSpace c
  · show ∃ sn', inSet cVal c 47 40 false _ = _
    generalize (sn.add 8).add 67 = sn
    rw [inSet]
    show ∃ sn', (if (c == 59) = true then Except.ok (false, sn.add 16) else inSet cVal c 46 42 false (sn.add 16)) = _
    generalize sn.add 16 = sn
    cases ha : (c == 59)
    · rw [if_neg (by decide), inSet]
      show ∃ sn', (if (c == 44) = true then Except.ok (false, sn.add 16) else inSet cVal c 45 44 false (sn.add 16)) = _
      cases hb : (c == 44)
      · exact ⟨_, rfl⟩
      · exact ⟨_, rfl⟩
    · exact ⟨_, rfl⟩
  · exact ⟨_, rfl⟩

/-- a state of a search's first attempt, from nought -/
def stA (code text : Array Nat) (pc pos hd : Nat) (marks : Array (Option Nat)) (lm li : Int) (loops : Array Loop) (inner : Option Nat) (frames : List Frame) (weight : Nat) (ans : Option Bool) (sn : Seen) : M :=
  { code, text, lim := text.size, start := 0, lastStart := text.size, pc, pos, handed := hd, marks, lastmark := lm, lastindex := li, loops, inner, seen := sn, answer := ans, weight, frames }
abbrev fN (pc : Nat) : Frame := { wait := .nextStart, pc, pos := 0, outermost := true }
abbrev fG (pc pos : Nat) (n : Int) (lm : Int) : Frame := { wait := .giveBack, pc, pos, outermost := true, count := n, kept := { lastmark := lm, marks := #[] } }
theorem passes_N (pc : Nat) : Passes (fN pc) := .inr (.inr (.inr (.inr rfl)))
theorem passes_G (pc pos : Nat) (n lm : Int) : Passes (fG pc pos n lm) := .inl rfl

theorem one_only {P : Nat → Prop} (h : P 0) : ∀ j, j < 1 → P j
  | 0, _ => h
  | _ + 1, h' => absurd h' (by omega)
theorem all2 {f : Frame} {r : List Frame} (h : Passes f) (h' : ∀ x ∈ r, Passes x) : ∀ x ∈ f :: r, Passes x := List.forall_mem_cons.mpr ⟨h, h'⟩
theorem all0 : ∀ x ∈ ([] : List Frame), Passes x := fun _ h => nomatch h
/-! the key: a k, then an = -/
theorem key_mach (text : Array Nat) (h : 2 ≤ text.size) : forSearch cKey text 1 0 text.size false = stA cKey text 5 0 0 #[none, none] (-1) (-1) #[] none [fN 5] 1 none (({} : Seen).add 14) := by
  unfold forSearch
  have e : (header cKey).1 = 1 := rfl
  simp only [e]
  rw [if_neg]
  · rfl
  · intro h'
    simp only [Bool.or_eq_true, decide_eq_true_eq] at h'
    omega
theorem key_hit (text : Array Nat) (hs : text.size < 1000000) (h2 : 2 ≤ text.size) (h0 : text.getD 0 0 = 107) (h1 : text.getD 1 0 = 61) : Wp (forSearch cKey text 1 0 text.size false) 100 (Hit 0 1 1 1 #[some 0, some 1]) := by
  rw [key_mach text h2]
  refine wp_at0_ok rfl rfl (Nat.le_of_ble_eq_true rfl) rfl rfl rfl (by decide) fun sn => ?_
  show Wp (stA cKey text 7 0 0 #[none, none] (-1) (-1) #[] none [fN 5] 1 none sn) 99 _
  refine wp_repeat_one (n := 0) rfl rfl (Nat.le_of_ble_eq_true rfl) rfl (space_takes cKey 11 rfl rfl rfl rfl (Nat.le_of_ble_eq_true rfl)) rfl (by show text.size < 4294967295; omega) (Nat.zero_le _) (fun j hj => absurd hj (Nat.not_lt_zero _)) (.inr (by show Unicode.isSpace (text.getD 0 0) = false; rw [h0]; decide)) (Nat.zero_le _) (Nat.le_of_ble_eq_true rfl) (by decide) fun sn => ?_
  show Wp (stA cKey text 17 0 0 #[none, none] (-1) (-1) #[] none [fG 7 0 0 (-1), fN 5] 2 none sn) 98 _
  refine wp_mark (i := 0) rfl rfl (Nat.le_of_ble_eq_true rfl) rfl rfl rfl (by decide) fun sn => ?_
  show Wp (stA cKey text 19 0 0 #[some 0, none] 0 (-1) #[] none [fG 7 0 0 (-1), fN 5] 2 none sn) 97 _
  refine wp_repeat_one (n := 1) rfl rfl (Nat.le_of_ble_eq_true rfl) rfl key_takes rfl (by show text.size < 4294967295; omega) (by show 0 + 1 ≤ text.size; omega) (one_only (by show keyOk (text.getD 0 0) = true; rw [h0]; decide)) (.inr (by show keyOk (text.getD 1 0) = false; rw [h1]; decide)) (Nat.le_of_ble_eq_true rfl) (Nat.le_of_ble_eq_true rfl) (by decide) fun sn => ?_
  show Wp (stA cKey text 39 1 1 #[some 0, none] 0 (-1) #[] none [fG 19 1 1 0, fG 7 0 0 (-1), fN 5] 3 none sn) 96 _
  refine wp_mark (i := 1) rfl rfl (Nat.le_of_ble_eq_true rfl) rfl rfl rfl (by decide) fun sn => ?_
  show Wp (stA cKey text 41 1 1 #[some 0, some 1] 1 1 #[] none [fG 19 1 1 0, fG 7 0 0 (-1), fN 5] 3 none sn) 95 _
  refine wp_success rfl rfl (Nat.le_of_ble_eq_true rfl) rfl rfl (by decide) fun sn => ?_
  show Wp (stA cKey text 41 1 1 #[some 0, some 1] 1 1 #[] none [fG 19 1 1 0, fG 7 0 0 (-1), fN 5] 3 (some true) sn) 94 _
  exact wp_yes _ _ 94 rfl rfl rfl (all2 (passes_G ..) (all2 (passes_G ..) (all2 (passes_N ..) all0))) (Nat.le_of_ble_eq_true rfl)

/-! a bare value: an =, then n signs that a value takes, then a sign that it does not -/
theorem val_mach (text : Array Nat) (h : 2 ≤ text.size) : forSearch cVal text 1 0 text.size false = stA cVal text 5 0 0 #[none, none] (-1) (-1) #[] none [fN 5] 1 none (({} : Seen).add 14) := by
  unfold forSearch
  have e : (header cVal).1 = 1 := rfl
  simp only [e]
  rw [if_neg]
  · rfl
  · intro h'
    simp only [Bool.or_eq_true, decide_eq_true_eq] at h'
    omega
theorem val_hit (text : Array Nat) (n : Nat) (hs : text.size < 1000000) (h0 : text.getD 0 0 = 61) (hn : n + 1 < text.size) (hn1 : 1 ≤ n) (hy : ∀ j, j < n → valOk (text.getD (1 + j) 0) = true ) (hx : valOk (text.getD (1 + n) 0) = false) :
    Wp (forSearch cVal text 1 0 text.size false) 100 (Hit 0 (1 + n) 1 1 #[some 1, some (1 + n)]) := by
  rw [val_mach text (by omega)]
  have hsp : Unicode.isSpace (text.getD 1 0) = false := by
    have := hy 0 (by omega)
    unfold valOk at this
    cases h : Unicode.isSpace (text.getD 1 0) with
    | false => rfl
    | true => rw [Nat.add_zero, h] at this; cases this
  refine wp_at0_ok rfl rfl (Nat.le_of_ble_eq_true rfl) rfl rfl rfl (by decide) fun sn => ?_
  show Wp (stA cVal text 7 0 0 #[none, none] (-1) (-1) #[] none [fN 5] 1 none sn) 99 _
  refine wp_repeat_one (n := 0) rfl rfl (Nat.le_of_ble_eq_true rfl) rfl (space_takes cVal 11 rfl rfl rfl rfl (Nat.le_of_ble_eq_true rfl)) rfl (by show text.size < 4294967295; omega) (Nat.zero_le _) (fun j hj => absurd hj (Nat.not_lt_zero _)) (.inr (by show Unicode.isSpace (text.getD 0 0) = false; rw [h0]; decide)) (Nat.zero_le _) (Nat.le_of_ble_eq_true rfl) (by decide) fun sn => ?_
  show Wp (stA cVal text 17 0 0 #[none, none] (-1) (-1) #[] none [fG 7 0 0 (-1), fN 5] 2 none sn) 98 _
  refine wp_one_ok (op := .LITERAL) (wd := 2) rfl rfl (Nat.le_of_ble_eq_true rfl) rfl (.inl rfl) (by show 0 < text.size; omega) ((lit_takes cVal 17 61 rfl rfl).at (c := text.getD 0 0) (by rw [h0]; rfl)) rfl (by decide) fun sn => ?_
  show Wp (stA cVal text 19 1 0 #[none, none] (-1) (-1) #[] none [fG 7 0 0 (-1), fN 5] 2 none sn) 97 _
  refine wp_repeat_one (n := 0) rfl rfl (Nat.le_of_ble_eq_true rfl) rfl (space_takes cVal 23 rfl rfl rfl rfl (Nat.le_of_ble_eq_true rfl)) rfl (by show text.size < 4294967295; omega) (by show 1 + 0 ≤ text.size; omega) (fun j hj => absurd hj (Nat.not_lt_zero _)) (.inr hsp) (Nat.zero_le _) (Nat.le_of_ble_eq_true rfl) (by decide) fun sn => ?_
  show Wp (stA cVal text 29 1 1 #[none, none] (-1) (-1) #[] none [fG 19 1 0 (-1), fG 7 0 0 (-1), fN 5] 3 none sn) 96 _
  refine wp_mark (i := 0) rfl rfl (Nat.le_of_ble_eq_true rfl) rfl rfl rfl (by decide) fun sn => ?_
  show Wp (stA cVal text 31 1 1 #[some 1, none] 0 (-1) #[] none [fG 19 1 0 (-1), fG 7 0 0 (-1), fN 5] 3 none sn) 95 _
  refine wp_repeat_one (n := n) rfl rfl (Nat.le_of_ble_eq_true rfl) rfl val_takes rfl (by show text.size < 4294967295; omega) (by show 1 + n ≤ text.size; omega) hy (.inr hx) (Nat.zero_le _) (Nat.le_of_ble_eq_true rfl) (by decide) fun sn => ?_
  show Wp (stA cVal text 46 (1 + n) (1 + n) #[some 1, none] 0 (-1) #[] none [fG 31 (1 + n) n 0, fG 19 1 0 (-1), fG 7 0 0 (-1), fN 5] 4 none sn) 94 _
  refine wp_mark (i := 1) rfl rfl (Nat.le_of_ble_eq_true rfl) rfl rfl rfl (by decide) fun sn => ?_
  show Wp (stA cVal text 48 (1 + n) (1 + n) #[some 1, some (1 + n)] 1 1 #[] none [fG 31 (1 + n) n 0, fG 19 1 0 (-1), fG 7 0 0 (-1), fN 5] 4 none sn) 93 _
  refine wp_success rfl rfl (Nat.le_of_ble_eq_true rfl) rfl rfl (by decide) fun sn => ?_
  show Wp (stA cVal text 48 (1 + n) (1 + n) #[some 1, some (1 + n)] 1 1 #[] none [fG 31 (1 + n) n 0, fG 19 1 0 (-1), fG 7 0 0 (-1), fN 5] 4 (some true) sn) 92 _
  exact wp_yes _ _ 92 rfl rfl rfl (all2 (passes_G ..) (all2 (passes_G ..) (all2 (passes_G ..) (all2 (passes_N ..) all0)))) (Nat.le_of_ble_eq_true rfl)

/-! the quoted value -/
def stQ (text : Array Nat) (st pc pos hd : Nat) (om : Bool) (marks : Array (Option Nat)) (lm li : Int) (loops : Array Loop) (inner : Option Nat) (frames : List Frame) (weight : Nat) (ans : Option Bool) (sn : Seen) : M :=
  { code := cQuo, text, lim := text.size, start := st, lastStart := max 0 (text.size - 2), pc, pos, handed := hd, outermost := om, marks, lastmark := lm, lastindex := li, loops, inner, seen := sn, answer := ans, weight, frames }
theorem quo_mach (text : Array Nat) (h : 3 ≤ text.size) : forSearch cQuo text 1 0 text.size false = stQ text 0 5 0 0 true #[none, none] (-1) (-1) #[] none [fN 5] 1 none (({} : Seen).add 14) := by
  unfold forSearch
  have e : (header cQuo).1 = 3 := rfl
  simp only [e]
  rw [if_neg]
  · rfl
  · intro h'
    simp only [Bool.or_eq_true, decide_eq_true_eq] at h'
    omega
theorem quo_rest (text : Array Nat) (mk : Array (Option Nat)) : ∀ (d s : Nat) (sn : Seen), 1 ≤ s → s + d = text.size - 2 →
    Wp (stQ text s 5 s s false mk (-1) (-1) #[] none [{ wait := .nextStart, pc := 5, pos := s, outermost := false }] 1 none sn) (2 * d + 10) Miss
  | 0, s, sn, h1, e => by
    refine wp_at0_no rfl rfl (Nat.le_of_ble_eq_true rfl) rfl rfl h1 (by omega) fun sn => ?_
    show Wp (stQ text s 5 s s false mk (-1) (-1) #[] none [{ wait := .nextStart, pc := 5, pos := s, outermost := false }] 1 (some false) sn) 9 _
    refine wp_no_last (f := { wait := .nextStart, pc := 5, pos := s, outermost := false }) rfl rfl rfl rfl (by show ¬ (s < max 0 (text.size - 2)); omega) (by omega) ?_
    exact wp_no_end rfl rfl rfl (by omega)
  | d + 1, s, sn, h1, e => by
    refine wp_at0_no rfl rfl (Nat.le_of_ble_eq_true rfl) rfl rfl h1 (by omega) fun sn => ?_
    show Wp (stQ text s 5 s s false mk (-1) (-1) #[] none [{ wait := .nextStart, pc := 5, pos := s, outermost := false }] 1 (some false) sn) (2 * (d + 1) + 10 - 1) _
    refine wp_no_next (f := { wait := .nextStart, pc := 5, pos := s, outermost := false }) rfl rfl rfl rfl (by show s < max 0 (text.size - 2); omega) (by omega) ?_
    rw [from_plain rfl, attemptAt_eq (Nat.le_of_ble_eq_true rfl)]
    exact wp_more (by omega) (quo_rest text mk d (s + 1) sn (by omega) (by omega))
theorem quo_no (text : Array Nat) (hs : text.size < 1000000) (h3 : 3 ≤ text.size) (h0 : text.getD 0 0 = 61) (h1 : text.getD 1 0 ≠ 34) (hsp : Unicode.isSpace (text.getD 1 0) = false) : Wp (forSearch cQuo text 1 0 text.size false) 3000000 Miss := by
  rw [quo_mach text h3]
  refine wp_at0_ok rfl rfl (Nat.le_of_ble_eq_true rfl) rfl rfl rfl (by decide) fun sn => ?_
  show Wp (stQ text 0 7 0 0 true #[none, none] (-1) (-1) #[] none [fN 5] 1 none sn) 2999999 _
  refine wp_repeat_one (n := 0) rfl rfl (Nat.le_of_ble_eq_true rfl) rfl (space_takes cQuo 11 rfl rfl rfl rfl (Nat.le_of_ble_eq_true rfl)) rfl (by show text.size < 4294967295; omega) (Nat.zero_le _) (fun j hj => absurd hj (Nat.not_lt_zero _)) (.inr (by show Unicode.isSpace (text.getD 0 0) = false; rw [h0]; decide)) (Nat.zero_le _) (Nat.le_of_ble_eq_true rfl) (by decide) fun sn => ?_
  show Wp (stQ text 0 17 0 0 true #[none, none] (-1) (-1) #[] none [fG 7 0 0 (-1), fN 5] 2 none sn) 2999998 _
  refine wp_one_ok (op := .LITERAL) (wd := 2) rfl rfl (Nat.le_of_ble_eq_true rfl) rfl (.inl rfl) (by show 0 < text.size; omega) ((lit_takes cQuo 17 61 rfl rfl).at (c := text.getD 0 0) (by rw [h0]; rfl)) rfl (by decide) fun sn => ?_
  show Wp (stQ text 0 19 1 0 true #[none, none] (-1) (-1) #[] none [fG 7 0 0 (-1), fN 5] 2 none sn) 2999997 _
  refine wp_repeat_one (n := 0) rfl rfl (Nat.le_of_ble_eq_true rfl) rfl (space_takes cQuo 23 rfl rfl rfl rfl (Nat.le_of_ble_eq_true rfl)) rfl (by show text.size < 4294967295; omega) (by show 1 + 0 ≤ text.size; omega) (fun j hj => absurd hj (Nat.not_lt_zero _)) (.inr hsp) (Nat.zero_le _) (Nat.le_of_ble_eq_true rfl) (by decide) fun sn => ?_
  show Wp (stQ text 0 29 1 1 true #[none, none] (-1) (-1) #[] none [fG 19 1 0 (-1), fG 7 0 0 (-1), fN 5] 3 none sn) 2999996 _
  refine wp_one_no (op := .LITERAL) rfl rfl (Nat.le_of_ble_eq_true rfl) rfl (.inl rfl) (.inr ((lit_takes cQuo 29 34 rfl rfl).at (c := text.getD 1 0) (by rw [beq_eq_false_iff_ne]; exact h1))) (by decide) fun sn => ?_
  show Wp (stQ text 0 29 1 1 true #[none, none] (-1) (-1) #[] none [fG 19 1 0 (-1), fG 7 0 0 (-1), fN 5] 3 (some false) sn) 2999995 _
  refine wp_no_back_stop (f := fG 19 1 0 (-1)) rfl rfl rfl rfl (of_decide_eq_true rfl) (by decide) ?_
  show Wp (stQ text 0 19 1 1 true #[none, none] (-1) (-1) #[] none [fG 7 0 0 (-1), fN 5] 2 (some false) sn) 2999994 _
  refine wp_no_back_stop (f := fG 7 0 0 (-1)) rfl rfl rfl rfl (of_decide_eq_true rfl) (by decide) ?_
  show Wp (stQ text 0 7 0 1 true #[none, none] (-1) (-1) #[] none [fN 5] 1 (some false) sn) 2999993 _
  by_cases hl : 0 < text.size - 2
  · refine wp_no_next (f := fN 5) rfl rfl rfl rfl (by show 0 < max 0 (text.size - 2); omega) (by decide) ?_
    rw [from_plain rfl, attemptAt_eq (Nat.le_of_ble_eq_true rfl)]
    exact wp_more (by omega) (quo_rest text #[none, none] (text.size - 3) 1 sn (by omega) (by omega))
  · omega

/-- from place q, where the loop looks for a backslash, to the closing mark at e, in n rounds -/
inductive Body (text : Array Nat) : Nat → Nat → Nat → Prop where
  | fin {q : Nat} : q < text.size → text.getD q 0 = 34 → Body text 0 q q
  | more {n q k e : Nat} : q + 1 < text.size → text.getD q 0 = 92 → text.getD (q + 1) 0 ≠ 10 → q + 2 + k < text.size → (∀ j, j < k → isQ (text.getD (q + 2 + j) 0) = false) → isQ (text.getD (q + 2 + k) 0) = true → Body text n (q + 2 + k) e → Body text (n + 1) q e
abbrev lp (c : Int) (b : Option Nat) : Array Loop := #[{ pc := 46, count := c, began := b, outer := none }]
theorem quo_loop (text : Array Nat) (hs : text.size < 1000000) : ∀ (n q e : Nat), Body text n q e → ∀ (c : Int) (b : Option Nat) (fs : List Frame) (wt : Nat) (hd : Nat) (sn : Seen), -1 ≤ c → (∀ x, b = some x → x < q) → (∀ f ∈ fs, Passes f) → wt + 4 * n + 10 ≤ 16777216 → ∀ len, fs.length = len →
    Wp (stQ text 0 66 q hd true #[some 2, none] 0 (-1) (lp c b) (some 0) fs wt none sn) (8 * n + len + 20) (Hit 0 (e + 1) 1 1 #[some 2, some e]) := by
  intro n q e hB
  induction hB with
  | @fin q hq h34 =>
    intro c b fs wt hd sn hc hb hp hw len hlen
    refine wp_until_more (i := 0) (l := { pc := 46, count := c, began := b, outer := none }) (c := c + 1) rfl rfl (Nat.le_of_ble_eq_true rfl) rfl rfl rfl rfl (by show ¬ (c + 1 < ((0 : Nat) : Int)); omega) rfl ?_ (by show wt + 1 + 1 ≤ 16777216; omega) (by omega) fun sn => ?_
    · rw [bne_iff_ne]
      intro e
      exact absurd (hb q e) (Nat.lt_irrefl _)
    show Wp (stQ text 0 50 q q true #[some 2, none] 0 (-1) (lp (c + 1) (some q)) (some 0) ({ wait := .maxMore, pc := 67, pos := q, outermost := true, loop := 0, count := c + 1, kept := { lastmark := 0, lastindex := -1, whole := true, marks := #[some 2] }, began := b } :: fs) (wt + 2) none sn) (8 * 0 + len + 19) _
    refine wp_one_no (op := .LITERAL) rfl rfl (Nat.le_of_ble_eq_true rfl) rfl (.inl rfl) (.inr ((lit_takes cQuo 50 92 rfl rfl).at (c := text.getD q 0) (by rw [h34]; rfl))) (by omega) fun sn => ?_
    show Wp (stQ text 0 50 q q true #[some 2, none] 0 (-1) (lp (c + 1) (some q)) (some 0) ({ wait := .maxMore, pc := 67, pos := q, outermost := true, loop := 0, count := c + 1, kept := { lastmark := 0, lastindex := -1, whole := true, marks := #[some 2] }, began := b } :: fs) (wt + 2) (some false) sn) (8 * 0 + len + 18) _
    refine wp_no_more (f := { wait := .maxMore, pc := 67, pos := q, outermost := true, loop := 0, count := c + 1, kept := { lastmark := 0, lastindex := -1, whole := true, marks := #[some 2] }, began := b }) rfl rfl rfl rfl (by omega) ?_
    rw [afterLoop_eq rfl (by show wt + 2 - 2 + 1 ≤ 16777216; omega)]
    show Wp (stQ text 0 67 q q true #[some 2, none] 0 (-1) (lp (c + 1 - 1) b) none ({ wait := .maxTail, pc := 67, pos := q, outermost := true, loop := 0, count := c + 1, kept := { lastmark := 0, lastindex := -1, whole := false, marks := #[] } } :: fs) (wt + 2 - 2 + 1) none sn) (8 * 0 + len + 17) _
    refine wp_mark (i := 1) rfl rfl (Nat.le_of_ble_eq_true rfl) rfl rfl rfl (by omega) fun sn => ?_
    show Wp (stQ text 0 69 q q true #[some 2, some q] 1 1 (lp (c + 1 - 1) b) none ({ wait := .maxTail, pc := 67, pos := q, outermost := true, loop := 0, count := c + 1, kept := { lastmark := 0, lastindex := -1, whole := false, marks := #[] } } :: fs) (wt + 2 - 2 + 1) none sn) (8 * 0 + len + 16) _
    refine wp_one_ok (op := .LITERAL) (wd := 2) rfl rfl (Nat.le_of_ble_eq_true rfl) rfl (.inl rfl) hq ((lit_takes cQuo 69 34 rfl rfl).at (c := text.getD q 0) (by rw [h34]; rfl)) rfl (by omega) fun sn => ?_
    show Wp (stQ text 0 71 (q + 1) q true #[some 2, some q] 1 1 (lp (c + 1 - 1) b) none ({ wait := .maxTail, pc := 67, pos := q, outermost := true, loop := 0, count := c + 1, kept := { lastmark := 0, lastindex := -1, whole := false, marks := #[] } } :: fs) (wt + 2 - 2 + 1) none sn) (8 * 0 + len + 15) _
    refine wp_success rfl rfl (Nat.le_of_ble_eq_true rfl) rfl rfl (by omega) fun sn => ?_
    show Wp (stQ text 0 71 (q + 1) (q + 1) true #[some 2, some q] 1 1 (lp (c + 1 - 1) b) none ({ wait := .maxTail, pc := 67, pos := q, outermost := true, loop := 0, count := c + 1, kept := { lastmark := 0, lastindex := -1, whole := false, marks := #[] } } :: fs) (wt + 2 - 2 + 1) (some true) sn) (8 * 0 + len + 14) _
    exact wp_yes _ _ _ rfl rfl rfl (all2 (.inr (.inr (.inl rfl))) hp) (by show fs.length + 1 + 1 ≤ 8 * 0 + len + 14; omega)
  | @more n q k e hq h92 h10 hk hy hx hB ih =>
    intro c b fs wt hd sn hc hb hp hw len hlen
    refine wp_until_more (i := 0) (l := { pc := 46, count := c, began := b, outer := none }) (c := c + 1) rfl rfl (Nat.le_of_ble_eq_true rfl) rfl rfl rfl rfl (by show ¬ (c + 1 < ((0 : Nat) : Int)); omega) rfl ?_ (by show wt + 1 + 1 ≤ 16777216; omega) (by omega) fun sn => ?_
    · rw [bne_iff_ne]
      intro e
      exact absurd (hb q e) (Nat.lt_irrefl _)
    show Wp (stQ text 0 50 q q true #[some 2, none] 0 (-1) (lp (c + 1) (some q)) (some 0) ({ wait := .maxMore, pc := 67, pos := q, outermost := true, loop := 0, count := c + 1, kept := { lastmark := 0, lastindex := -1, whole := true, marks := #[some 2] }, began := b } :: fs) (wt + 2) none sn) (8 * (n + 1) + len + 19) _
    refine wp_one_ok (op := .LITERAL) (wd := 2) rfl rfl (Nat.le_of_ble_eq_true rfl) rfl (.inl rfl) (by show q < text.size; omega) ((lit_takes cQuo 50 92 rfl rfl).at (c := text.getD q 0) (by rw [h92]; rfl)) rfl (by omega) fun sn => ?_
    show Wp (stQ text 0 52 (q + 1) q true #[some 2, none] 0 (-1) (lp (c + 1) (some q)) (some 0) ({ wait := .maxMore, pc := 67, pos := q, outermost := true, loop := 0, count := c + 1, kept := { lastmark := 0, lastindex := -1, whole := true, marks := #[some 2] }, began := b } :: fs) (wt + 2) none sn) (8 * (n + 1) + len + 18) _
    refine wp_one_ok (op := .ANY) (wd := 1) rfl rfl (Nat.le_of_ble_eq_true rfl) rfl (.inr (.inr rfl)) hq ((any_takes cQuo 52 rfl).at (c := text.getD (q + 1) 0) (by rw [bne_iff_ne]; exact h10)) rfl (by omega) fun sn => ?_
    show Wp (stQ text 0 53 (q + 2) q true #[some 2, none] 0 (-1) (lp (c + 1) (some q)) (some 0) ({ wait := .maxMore, pc := 67, pos := q, outermost := true, loop := 0, count := c + 1, kept := { lastmark := 0, lastindex := -1, whole := true, marks := #[some 2] }, began := b } :: fs) (wt + 2) none sn) (8 * (n + 1) + len + 17) _
    refine wp_repeat_one (n := k) rfl rfl (Nat.le_of_ble_eq_true rfl) rfl quo_takes2 rfl (by show text.size < 4294967295; omega) (by show q + 2 + k ≤ text.size; omega) (fun j hj => by show (!isQ (text.getD (q + 2 + j) 0)) = true; rw [hy j hj]; rfl) (.inr (by show (!isQ (text.getD (q + 2 + k) 0)) = false; rw [hx]; rfl)) (Nat.zero_le _) (by show wt + 2 + 1 + 1 ≤ 16777216; omega) (by omega) fun sn => ?_
    show Wp (stQ text 0 66 (q + 2 + k) (q + 2 + k) true #[some 2, none] 0 (-1) (lp (c + 1) (some q)) (some 0) ({ wait := .giveBack, pc := 53, pos := q + 2 + k, outermost := true, count := (k : Int), kept := { lastmark := 0, lastindex := -1, whole := true, marks := #[some 2] } } :: { wait := .maxMore, pc := 67, pos := q, outermost := true, loop := 0, count := c + 1, kept := { lastmark := 0, lastindex := -1, whole := true, marks := #[some 2] }, began := b } :: fs) (wt + 4) none sn) (8 * (n + 1) + len + 16) _
    refine wp_more ?_ (ih (c + 1) (some q) _ (wt + 4) (q + 2 + k) sn (by omega) (fun x hx => by cases hx; omega) (all2 (.inl rfl) (all2 (.inr (.inl rfl)) hp)) (by omega) (len + 2) (by simp only [List.length_cons]; omega))
    omega
theorem quo_hit (text : Array Nat) (n k e : Nat) (hs : text.size < 1000000) (hn : n < 1000000) (h0 : text.getD 0 0 = 61) (h1 : text.getD 1 0 = 34) (hk : 2 + k < text.size) (hy : ∀ j, j < k → isQ (text.getD (2 + j) 0) = false) (hx : isQ (text.getD (2 + k) 0) = true) (hB : Body text n (2 + k) e) :
    Wp (forSearch cQuo text 1 0 text.size false) 10000000 (Hit 0 (e + 1) 1 1 #[some 2, some e]) := by
  rw [quo_mach text (by omega)]
  refine wp_at0_ok rfl rfl (Nat.le_of_ble_eq_true rfl) rfl rfl rfl (by decide) fun sn => ?_
  show Wp (stQ text 0 7 0 0 true #[none, none] (-1) (-1) #[] none [fN 5] 1 none sn) 9999999 _
  refine wp_repeat_one (n := 0) rfl rfl (Nat.le_of_ble_eq_true rfl) rfl (space_takes cQuo 11 rfl rfl rfl rfl (Nat.le_of_ble_eq_true rfl)) rfl (by show text.size < 4294967295; omega) (Nat.zero_le _) (fun j hj => absurd hj (Nat.not_lt_zero _)) (.inr (by show Unicode.isSpace (text.getD 0 0) = false; rw [h0]; decide)) (Nat.zero_le _) (Nat.le_of_ble_eq_true rfl) (by decide) fun sn => ?_
  show Wp (stQ text 0 17 0 0 true #[none, none] (-1) (-1) #[] none [fG 7 0 0 (-1), fN 5] 2 none sn) 9999998 _
  refine wp_one_ok (op := .LITERAL) (wd := 2) rfl rfl (Nat.le_of_ble_eq_true rfl) rfl (.inl rfl) (by show 0 < text.size; omega) ((lit_takes cQuo 17 61 rfl rfl).at (c := text.getD 0 0) (by rw [h0]; rfl)) rfl (by decide) fun sn => ?_
  show Wp (stQ text 0 19 1 0 true #[none, none] (-1) (-1) #[] none [fG 7 0 0 (-1), fN 5] 2 none sn) 9999997 _
  refine wp_repeat_one (n := 0) rfl rfl (Nat.le_of_ble_eq_true rfl) rfl (space_takes cQuo 23 rfl rfl rfl rfl (Nat.le_of_ble_eq_true rfl)) rfl (by show text.size < 4294967295; omega) (by show 1 + 0 ≤ text.size; omega) (fun j hj => absurd hj (Nat.not_lt_zero _)) (.inr (by show Unicode.isSpace (text.getD 1 0) = false; rw [h1]; decide)) (Nat.zero_le _) (Nat.le_of_ble_eq_true rfl) (by decide) fun sn => ?_
  show Wp (stQ text 0 29 1 1 true #[none, none] (-1) (-1) #[] none [fG 19 1 0 (-1), fG 7 0 0 (-1), fN 5] 3 none sn) 9999996 _
  refine wp_one_ok (op := .LITERAL) (wd := 2) rfl rfl (Nat.le_of_ble_eq_true rfl) rfl (.inl rfl) (by show 1 < text.size; omega) ((lit_takes cQuo 29 34 rfl rfl).at (c := text.getD 1 0) (by rw [h1]; rfl)) rfl (by decide) fun sn => ?_
  show Wp (stQ text 0 31 2 1 true #[none, none] (-1) (-1) #[] none [fG 19 1 0 (-1), fG 7 0 0 (-1), fN 5] 3 none sn) 9999995 _
  refine wp_mark (i := 0) rfl rfl (Nat.le_of_ble_eq_true rfl) rfl rfl rfl (by decide) fun sn => ?_
  show Wp (stQ text 0 33 2 1 true #[some 2, none] 0 (-1) #[] none [fG 19 1 0 (-1), fG 7 0 0 (-1), fN 5] 3 none sn) 9999994 _
  refine wp_repeat_one (n := k) rfl rfl (Nat.le_of_ble_eq_true rfl) rfl quo_takes1 rfl (by show text.size < 4294967295; omega) (by show 2 + k ≤ text.size; omega) (fun j hj => by show (!isQ (text.getD (2 + j) 0)) = true; rw [hy j hj]; rfl) (.inr (by show (!isQ (text.getD (2 + k) 0)) = false; rw [hx]; rfl)) (Nat.zero_le _) (Nat.le_of_ble_eq_true rfl) (by decide) fun sn => ?_
  show Wp (stQ text 0 46 (2 + k) (2 + k) true #[some 2, none] 0 (-1) #[] none [fG 33 (2 + k) k 0, fG 19 1 0 (-1), fG 7 0 0 (-1), fN 5] 4 none sn) 9999993 _
  refine wp_repeat rfl rfl (Nat.le_of_ble_eq_true rfl) rfl (Nat.le_of_ble_eq_true rfl) (by decide) fun sn => ?_
  show Wp (stQ text 0 66 (2 + k) (2 + k) true #[some 2, none] 0 (-1) (lp (-1) none) (some 0) [{ wait := .closeLoop, pc := 46, pos := 2 + k, outermost := true, loop := 0 }, fG 33 (2 + k) k 0, fG 19 1 0 (-1), fG 7 0 0 (-1), fN 5] 5 none sn) 9999992 _
  refine wp_more ?_ (quo_loop text hs n (2 + k) e hB (-1) none _ 5 (2 + k) sn (by omega) (fun x hx => by cases hx) (all2 (.inr (.inr (.inr (.inl rfl)))) (all2 (passes_G ..) (all2 (passes_G ..) (all2 (passes_G ..) (all2 (passes_N ..) all0))))) (by omega) 5 rfl)
  omega

/-! written texts -/
theorem key_semi : Wp (forSearch cKey #[59, 32, 118] 1 0 3 false) 100 Miss := ⟨60, by decide, rfl⟩
theorem key_v : Wp (forSearch cKey #[118] 1 0 1 false) 100 (Hit 0 1 1 1 #[some 0, some 1]) := ⟨30, by decide, rfl, rfl, rfl, rfl, rfl, rfl⟩
theorem quo_empty : Wp (forSearch cQuo #[] 1 0 0 false) 100 Miss := ⟨60, by decide, rfl⟩
theorem val_empty : Wp (forSearch cVal #[] 1 0 0 false) 100 Miss := ⟨60, by decide, rfl⟩
theorem junk_one : Wp (forSearch cJunk #[59, 32, 118] 0 0 3 false) 100 (Hit 0 2 (-1) (-1) #[]) := ⟨30, by decide, rfl, rfl, rfl, rfl, rfl, rfl⟩
theorem junk_two : Wp (forSearch cJunk #[59, 32, 118] 0 2 3 false) 100 Miss := ⟨60, by decide, rfl⟩
end Re
end Mine
end
section
open PySem PySem.W PySem.Calls PyProof.Rows Builtin Builtin.Re
namespace Mine
namespace Fc
theorem plainAttrs_pat : PlainAttrs "re.Pattern" :=
  ⟨⟨"object.__getattribute__", by rw [typeLookup_type, builtinLookup_eq_fast]; kernel_rfl, by decide +kernel⟩, by rw [typeLookup_type, builtinLookup_eq_fast]; kernel_rfl⟩
theorem plainAttrs_mat : PlainAttrs "re.Match" :=
  ⟨⟨"object.__getattribute__", by rw [typeLookup_type, builtinLookup_eq_fast]; kernel_rfl, by decide +kernel⟩, by rw [typeLookup_type, builtinLookup_eq_fast]; kernel_rfl⟩
theorem slot_search : Slot "re.Pattern" "search" "re.Pattern.search" :=
  .of (owner := "re.Pattern") (n := "search") (by rw [typeLookup_type, builtinLookup_eq_fast]; kernel_rfl) (by decide +kernel) (by decide +kernel) (by decide +kernel)
    (by first | exact .inl (by decide +kernel) | exact .inr (by decide +kernel)) (by rw [isSubtype_type]; kernel_rfl)
theorem type_search : typeOf (.builtin "re.Pattern.search") = pure (.type "method_descriptor") := by show builtinType _ = _; rw [builtinType_eq_fast]; kernel_rfl
theorem entry_search : entryFor table "re.Pattern.search" = some Builtin.«re.Pattern.search» := entryFor_of_tree (by kernel_rfl)
theorem slot_fullmatch : Slot "re.Pattern" "fullmatch" "re.Pattern.fullmatch" :=
  .of (owner := "re.Pattern") (n := "fullmatch") (by rw [typeLookup_type, builtinLookup_eq_fast]; kernel_rfl) (by decide +kernel) (by decide +kernel) (by decide +kernel)
    (by first | exact .inl (by decide +kernel) | exact .inr (by decide +kernel)) (by rw [isSubtype_type]; kernel_rfl)
theorem type_fullmatch : typeOf (.builtin "re.Pattern.fullmatch") = pure (.type "method_descriptor") := by show builtinType _ = _; rw [builtinType_eq_fast]; kernel_rfl
theorem entry_fullmatch : entryFor table "re.Pattern.fullmatch" = some Builtin.«re.Pattern.fullmatch» := entryFor_of_tree (by kernel_rfl)
theorem slot_sub : Slot "re.Pattern" "sub" "re.Pattern.sub" :=
  .of (owner := "re.Pattern") (n := "sub") (by rw [typeLookup_type, builtinLookup_eq_fast]; kernel_rfl) (by decide +kernel) (by decide +kernel) (by decide +kernel)
    (by first | exact .inl (by decide +kernel) | exact .inr (by decide +kernel)) (by rw [isSubtype_type]; kernel_rfl)
theorem type_sub : typeOf (.builtin "re.Pattern.sub") = pure (.type "method_descriptor") := by show builtinType _ = _; rw [builtinType_eq_fast]; kernel_rfl
theorem entry_sub : entryFor table "re.Pattern.sub" = some Builtin.«re.Pattern.sub» := entryFor_of_tree (by kernel_rfl)
theorem slot_subn : Slot "re.Pattern" "subn" "re.Pattern.subn" :=
  .of (owner := "re.Pattern") (n := "subn") (by rw [typeLookup_type, builtinLookup_eq_fast]; kernel_rfl) (by decide +kernel) (by decide +kernel) (by decide +kernel)
    (by first | exact .inl (by decide +kernel) | exact .inr (by decide +kernel)) (by rw [isSubtype_type]; kernel_rfl)
theorem type_subn : typeOf (.builtin "re.Pattern.subn") = pure (.type "method_descriptor") := by show builtinType _ = _; rw [builtinType_eq_fast]; kernel_rfl
theorem entry_subn : entryFor table "re.Pattern.subn" = some Builtin.«re.Pattern.subn» := entryFor_of_tree (by kernel_rfl)
theorem slot_span : Slot "re.Match" "span" "re.Match.span" :=
  .of (owner := "re.Match") (n := "span") (by rw [typeLookup_type, builtinLookup_eq_fast]; kernel_rfl) (by decide +kernel) (by decide +kernel) (by decide +kernel)
    (by first | exact .inl (by decide +kernel) | exact .inr (by decide +kernel)) (by rw [isSubtype_type]; kernel_rfl)
theorem type_span : typeOf (.builtin "re.Match.span") = pure (.type "method_descriptor") := by show builtinType _ = _; rw [builtinType_eq_fast]; kernel_rfl
theorem entry_span : entryFor table "re.Match.span" = some Builtin.«re.Match.span» := entryFor_of_tree (by kernel_rfl)
theorem slot_group : Slot "re.Match" "group" "re.Match.group" :=
  .of (owner := "re.Match") (n := "group") (by rw [typeLookup_type, builtinLookup_eq_fast]; kernel_rfl) (by decide +kernel) (by decide +kernel) (by decide +kernel)
    (by first | exact .inl (by decide +kernel) | exact .inr (by decide +kernel)) (by rw [isSubtype_type]; kernel_rfl)
theorem type_group : typeOf (.builtin "re.Match.group") = pure (.type "method_descriptor") := by show builtinType _ = _; rw [builtinType_eq_fast]; kernel_rfl
theorem entry_group : entryFor table "re.Match.group" = some Builtin.«re.Match.group» := entryFor_of_tree (by kernel_rfl)
theorem entry_subloop : entryFor table "re.Pattern.sub.loop" = some Builtin.«re.Pattern.sub.loop» := entryFor_of_tree (by kernel_rfl)
theorem entry_string : entryFor table "re.Match.string" = some Builtin.«re.Match.string» := entryFor_of_tree (by kernel_rfl)
theorem args_search (a b : Value) : argsOk "re.Pattern.search" ⟨[a, b], []⟩ := by unfold argsOk; kernel_rfl
theorem args_fullmatch (a b : Value) : argsOk "re.Pattern.fullmatch" ⟨[a, b], []⟩ := by unfold argsOk; kernel_rfl
theorem args_sub (a b c : Value) : argsOk "re.Pattern.sub" ⟨[a, b, c], []⟩ := by unfold argsOk; kernel_rfl
theorem args_subn (a b c : Value) : argsOk "re.Pattern.subn" ⟨[a, b, c], []⟩ := by unfold argsOk; kernel_rfl
theorem args_span (a b : Value) : argsOk "re.Match.span" ⟨[a, b], []⟩ := by unfold argsOk; kernel_rfl
theorem args_group (a b : Value) : argsOk "re.Match.group" ⟨[a, b], []⟩ := by unfold argsOk; kernel_rfl
end Fc
end Mine
end
section
open PySem PySem.W PySem.Calls PyProof.Rows Builtin Builtin.Re
namespace Mine
section
variable {M : Model} {A : Around} {E : Value → Shared → Prop} {s : Shared}
open Sre Sre.M in
theorem runFor_stable {m : Sre.M} (h : m.outcome.isSome = true) : ∀ n, runFor n m = m
  | 0 => rfl
  | n + 1 => by rw [runFor, if_pos h]
open Sre Sre.M in
theorem runFor_add (b : Nat) : ∀ (a : Nat) (m : Sre.M), runFor (a + b) m = runFor b (runFor a m)
  | 0, m => by rw [Nat.zero_add]; rfl
  | a + 1, m => by
    rw [show a + 1 + b = (a + b) + 1 by omega, runFor, runFor]
    cases h : m.outcome.isSome with
    | true => simp only [if_true]; rw [runFor_stable h]
    | false => simp only [Bool.false_eq_true, if_false]; exact runFor_add b a m.step
open Sre Sre.M in
theorem drive_spec {Q : Sre.M → Shared → Prop} : ∀ (turns j : Nat) (m : Sre.M), (runFor j m).outcome.isSome = true → j ≤ 4 * turns → Q (runFor j m) s → wpAny M A (reDrive (turns + 1) m) Q E s
  | 0, j, m, ho, hj, h => by
    have : j = 0 := by omega
    subst this
    have ho : m.outcome.isSome = true := ho
    rw [reDrive]
    simp only [runFor_stable ho, ho, if_true]
    exact wpAny_pure h
  | turns + 1, j, m, ho, hj, h => by
    rw [reDrive]
    cases h1 : (runFor reTurnSteps m).outcome.isSome with
    | true =>
      simp only [h1, if_true]
      refine wpAny_pure ?_
      have e : runFor reTurnSteps m = runFor j m := by
        by_cases hle : j ≤ 4
        · have := runFor_add (4 - j) j m
          rw [runFor_stable ho, show j + (4 - j) = 4 by omega] at this
          exact this
        · have := runFor_add (j - 4) 4 m
          rw [show 4 + (j - 4) = j by omega] at this
          rw [this]
          exact (runFor_stable h1 _).symm
      rw [e]; exact h
    | false =>
      simp only [h1, Bool.false_eq_true, if_false]
      have hgt : ¬ j ≤ 4 := fun hle => by
        have := runFor_add (4 - j) j m
        rw [runFor_stable ho, show j + (4 - j) = 4 by omega] at this
        have h1' : (runFor 4 m).outcome.isSome = false := h1
        rw [this, ho] at h1'
        cases h1'
      have := runFor_add (j - 4) 4 m
      rw [show 4 + (j - 4) = j by omega] at this
      refine wpAny_bind (wpAny_rule ?_)
      refine drive_spec turns (j - 4) (runFor reTurnSteps m) ?_ (by omega) ?_
      · rw [show runFor (j - 4) (runFor reTurnSteps m) = runFor j m from this.symm]; exact ho
      · rw [show runFor (j - 4) (runFor reTurnSteps m) = runFor j m from this.symm]; exact h
theorem drive64 {k : Nat} {m : Sre.M} {R : Sre.M → Prop} {Q : Sre.M → Shared → Prop} (h : Re.Wp m k R) (hk : k ≤ 4 * (2 ^ 64 - 1)) (ho : ∀ m', R m' → m'.outcome.isSome = true) (hQ : ∀ m', R m' → Q m' s) : wpAny M A (reDrive (2 ^ 64) m) Q E s := by
  obtain ⟨j, hj, hr⟩ := h
  have := drive_spec (M := M) (A := A) (E := E) (s := s) (Q := Q) (2 ^ 64 - 1) j m (ho _ hr) (Nat.le_trans hj hk) (hQ _ hr)
  exact this
theorem wp_rules {f : Nat → String} {p : Nat → Bool} {Q : PUnit → Shared → Prop} (h : Q ⟨⟩ s) : ∀ l : List Nat, wpAny M A (forIn l PUnit.unit fun i _ => do
      if p i = true then rule (f i)
      pure (ForInStep.yield PUnit.unit)) Q E s
  | [] => by
    rw [List.forIn_nil]
    exact wpAny_pure h
  | i :: r => by
    rw [List.forIn_cons]
    refine wpAny_bind ?_
    cases hp : p i with
    | true =>
      simp only [if_true]
      exact wpAny_bind (wpAny_rule (wpAny_pure (wp_rules h r)))
    | false =>
      simp only [Bool.false_eq_true, if_false]
      exact wpAny_pure (wp_rules h r)
theorem end_hit {k st hd : Nat} {lm li : Int} {mk : Array (Option Nat)} {m : Sre.M} {Q : Option Sre.M → Shared → Prop} (h : Re.Wp m k (Re.Hit st hd lm li mk)) (hk : k ≤ 4 * (2 ^ 64 - 1)) (hQ : ∀ m', Re.Hit st hd lm li mk m' → Q (some m') s) : wpAny M A (reRunToEnd m) Q E s := by
  unfold reRunToEnd
  refine wpAny_bind (drive64 h hk (fun m' x => by rw [x.1]; rfl) fun m' x => ?_)
  refine wpAny_bind (wp_rules ?_ _)
  rw [x.1]
  exact wpAny_pure (hQ m' x)
theorem end_miss {k : Nat} {m : Sre.M} {Q : Option Sre.M → Shared → Prop} (h : Re.Wp m k Re.Miss) (hk : k ≤ 4 * (2 ^ 64 - 1)) (hQ : Q none s) : wpAny M A (reRunToEnd m) Q E s := by
  unfold reRunToEnd
  refine wpAny_bind (drive64 h hk (fun m' (x : m'.outcome = _) => by rw [x]; rfl) fun m' (x : m'.outcome = _) => ?_)
  refine wpAny_bind (wp_rules ?_ _)
  rw [x]
  exact wpAny_pure hQ

/-- a compiled pattern that stands in the heap -/
structure PatAt (h : Heap) (pa : Addr) (code : Array Nat) (groups : Nat) : Prop where
  obj : ∃ fs po, h.get? pa = some po ∧ po.cls = .type "re.Pattern" ∧ po.dict = none ∧ po.data = .fields fs ∧ reRawNat (fs.getD 6 .none) = 0 ∧ reRawNat (fs.getD 2 .none) = groups ∧
    ∃ ca co items n, fs.getD 5 .none = .ref ca ∧ h.get? ca = some co ∧ co.data = .seq items n ∧ (items.map reRawOf).map (·.toNat) = code
theorem PatAt.keeps {h h' : Heap} {pa : Addr} {code : Array Nat} {groups : Nat} (P : PatAt h pa code groups) (k : Stays h h') : PatAt h' pa code groups := by
  obtain ⟨fs, po, h1, h2, h3, h4, h5, h6, ca, co, items, n, h7, h8, h9, h10⟩ := P.obj
  exact ⟨fs, po, k _ _ h1, h2, h3, h4, h5, h6, ca, co, items, n, h7, k _ _ h8, h9, h10⟩
theorem PatAt.typeIs {pa : Addr} {code : Array Nat} {groups : Nat} (P : PatAt s.heap pa code groups) : s.TypeIs (.ref pa) "re.Pattern" := by
  obtain ⟨fs, po, h1, h2, _⟩ := P.obj
  exact ⟨po, h1, h2⟩

theorem rawItems_at {ca : Addr} {co : Obj} {items : Array Value} {n : Nat} {Q : Array Int → Shared → Prop} (ho : s.heap.get? ca = some co) (hd : co.data = .seq items n) (h : Q (items.map reRawOf) s) : wpAny M A (reRawItems (.ref ca)) Q E s := by
  unfold reRawItems
  exact wpAny_bind (wpAny_seqItems ho hd (wpAny_pure h))
theorem target_at {id f : String} {pa : Addr} {code : Array Nat} {groups : Nat} {x : Str} {t : Tok} {Q : ReTarget → Shared → Prop} (P : PatAt s.heap pa code groups) (hx : x.length < 2 ^ 62)
    (hn : reNamed id f ["string", "pos", "endpos"] 1 [.str x t] [] = pure [some (.str x t), none, none])
    (h : Q { pattern := .ref pa, string := .str x t, code, text := x.cps, kind := 0, groups, pos := 0, lim := x.cps.size } s) : wpAny M A (reTarget id f ⟨[.ref pa, .str x t], []⟩) Q E s := by
  obtain ⟨fs, po, h1, h2, h3, h4, h5, h6, ca, co, items, n, h7, h8, h9, h10⟩ := P.obj
  unfold reTarget
  dsimp only
  rw [hn]
  refine wpAny_bind (wpAny_pure ?_)
  refine wpAny_bind (wpAny_pure ?_)
  refine wpAny_bind (wpAny_pure ?_)
  refine wpAny_bind (wpAny_fieldsOf h1 h4 ?_)
  unfold reTextOf
  refine wpAny_bind (wpAny_bind (wpAny_pure (wpAny_pure ?_)))
  dsimp only
  rw [h5, h6, h7, if_neg (by decide), if_neg (by decide)]
  refine wpAny_bind (wpAny_pure ?_)
  refine wpAny_bind (rawItems_at h8 h9 (wpAny_pure ?_))
  rw [h10]
  have e1 : Min.min (Int.toNat 0) x.cps.size = 0 := Nat.zero_min _
  have e2 : Min.min (2 ^ 63 - 1 : Int).toNat x.cps.size = x.cps.size := Nat.min_eq_right (by show x.length ≤ 9223372036854775807; omega)
  rw [e1, e2]
  exact h
theorem whole_at {pa : Addr} {code : Array Nat} {groups : Nat} {x : Str} {t : Tok} {Q : ReTarget → Shared → Prop} (P : PatAt s.heap pa code groups)
    (h : Q { pattern := .ref pa, string := .str x t, code, text := x.cps, kind := 0, groups, pos := 0, lim := x.cps.size } s) : wpAny M A (reWholeTarget (.ref pa) (.str x t)) Q E s := by
  obtain ⟨fs, po, h1, h2, h3, h4, h5, h6, ca, co, items, n, h7, h8, h9, h10⟩ := P.obj
  unfold reWholeTarget
  refine wpAny_bind (wpAny_fieldsOf h1 h4 ?_)
  unfold reTextOf
  refine wpAny_bind (wpAny_bind (wpAny_pure (wpAny_pure ?_)))
  dsimp only
  rw [h5, h6, h7, if_neg (by decide), if_neg (by decide)]
  refine wpAny_bind (wpAny_pure ?_)
  refine wpAny_bind (rawItems_at h8 h9 (wpAny_pure ?_))
  rw [h10]
  exact h

/-- a match that has been made: its text and its spans -/
structure MatAt (h : Heap) (mo : Addr) (x : Str) (spans : Array Int) : Prop where
  obj : ∃ fs oo t, h.get? mo = some oo ∧ oo.cls = .type "re.Match" ∧ oo.dict = none ∧ oo.data = .fields fs ∧ fs.getD 0 .none = .str x t ∧
    ∃ ta to items n, fs.getD 5 .none = .ref ta ∧ h.get? ta = some to ∧ to.data = .seq items n ∧ items.map reRawOf = spans
theorem MatAt.keeps {h h' : Heap} {mo : Addr} {x : Str} {sp : Array Int} (P : MatAt h mo x sp) (k : Stays h h') : MatAt h' mo x sp := by
  obtain ⟨fs, oo, t, h1, h2, h3, h4, h5, ta, to, items, n, h7, h8, h9, h10⟩ := P.obj
  exact ⟨fs, oo, t, k _ _ h1, h2, h3, h4, h5, ta, to, items, n, h7, k _ _ h8, h9, h10⟩
theorem MatAt.typeIs {mo : Addr} {x : Str} {sp : Array Int} (P : MatAt s.heap mo x sp) : s.TypeIs (.ref mo) "re.Match" := by
  obtain ⟨fs, oo, t, h1, h2, _⟩ := P.obj
  exact ⟨oo, h1, h2⟩
theorem stays_push (h : Heap) (o : Obj) : Stays h (h.push o) := fun _ _ e => Heap.get?_push_of_some _ e
theorem get_push_self (h : Heap) (o : Obj) (hf : o.isFreed = false) : (h.push o).get? h.objs.size = some o := Heap.get?_push_size h hf
theorem newMatch_with {pa : Addr} {x : Str} {t : Tok} {lim : Nat} {li : Int} {items : List Value} {sp : Array Int} {Q : Value → Shared → Prop} (hl : items.length ≤ 4) (hsp : items.toArray.map reRawOf = sp)
    (h : ∀ mo h', Stays s.heap h' → s.heap.get? mo = none → MatAt h' mo x sp → Q (.ref mo) { s with heap := h' }) :
    wpAny M A (do
      let tp ← newTuple items
      newFields "re.Match" [Value.str x t, Value.ref pa, rawInt (0 : Nat), rawInt (lim : Nat), rawInt li, tp]) Q E s := by
  refine wpAny_bind (wpAny_newTuple ?_ (by rw [sizeLine_eq]; omega))
  unfold newFields
  refine wpAny_newObj_type ?_
  refine h _ _ (fun b o e => stays_push _ _ _ _ (stays_push _ _ _ _ e)) ?_ ?_
  · cases q : s.heap.get? (s.heap.push { cls := .type "tuple", data := .seq items.toArray }).objs.size with
    | none => rfl
    | some o =>
      have := Heap.lt_size (stays_push _ { cls := .type "tuple", data := .seq items.toArray } _ _ q)
      exact absurd this (Nat.lt_irrefl _)
  · refine ⟨_, _, t, get_push_self _ _ rfl, rfl, rfl, rfl, rfl, s.heap.objs.size, _, items.toArray, 0, rfl, stays_push _ _ _ _ (get_push_self _ _ rfl), rfl, hsp⟩
theorem newMatch_one {pa : Addr} {x : Str} {t : Tok} {lim st hd b e : Nat} {li : Int} {m : Sre.M} {Q : Value → Shared → Prop} (hm : Re.Hit st hd 1 li #[some b, some e] m) (hbe : b ≤ e)
    (h : ∀ mo h', Stays s.heap h' → s.heap.get? mo = none → MatAt h' mo x #[(st : Int), hd, b, e] → Q (.ref mo) { s with heap := h' }) : wpAny M A (reNewMatch (.ref pa) (.str x t) 1 0 lim m) Q E s := by
  obtain ⟨h0, h1, h2, h3, h4, h5⟩ := hm
  unfold reNewMatch
  dsimp only
  rw [if_neg]
  · rw [h1, h2, h3, h5]
    exact newMatch_with (items := [rawInt st, rawInt hd, rawInt b, rawInt e]) (Nat.le_of_ble_eq_true rfl) (by simp [reRawOf, rawInt]) h
  · rw [h3, h5]
    show ¬ ((decide (((1 : Nat) : Int) ≤ 1) && decide (e < b) || false) = true)
    rw [decide_eq_false (show ¬ e < b by omega)]
    decide
theorem newMatch_none {pa : Addr} {x : Str} {t : Tok} {lim st hd : Nat} {lm li : Int} {mk : Array (Option Nat)} {m : Sre.M} {Q : Value → Shared → Prop} (hm : Re.Hit st hd lm li mk m)
    (h : ∀ mo h', Stays s.heap h' → s.heap.get? mo = none → MatAt h' mo x #[(st : Int), hd] → Q (.ref mo) { s with heap := h' }) : wpAny M A (reNewMatch (.ref pa) (.str x t) 0 0 lim m) Q E s := by
  obtain ⟨h0, h1, h2, h3, h4, h5⟩ := hm
  unfold reNewMatch
  dsimp only
  rw [if_neg]
  · rw [h1, h2]
    exact newMatch_with (items := [rawInt st, rawInt hd]) (Nat.le_of_ble_eq_true rfl) (by simp [reRawOf, rawInt]) h
  · show ¬ (false = true)
    decide
end
end Mine
end
section
open PySem PySem.W PySem.Calls PyProof.Rows Builtin Builtin.Re
namespace Mine
section
variable {prog : Program} {w : World} {A : Around} {E : Value → Shared → Prop} {s : Shared} {pa mo : Addr} {code : Array Nat} {x : Str} {t : Tok} {k st hd b e : Nat} {li : Int} {Q : Value → Shared → Prop}
theorem call_slot {T : String} {name : Str} {id : String} {bi : Builtin} {self : Value} {rest : List Value} (slot : Slot T name id) (entry : entryFor table id = some bi) (hT : s.TypeIs self T) (args : argsOk id ⟨self :: rest, []⟩)
    (h : wpAny (model prog w) A.in1 (bi ⟨self :: rest, []⟩) (fun fin s' => match fin with
      | .done (.ret v) => Q v s'
      | .done _ => False
      | .again c' => c'.quiet = true ∧ codeAny (model prog w) A c' (fun r s' => match r with | .ok (.ret v) => Q v s' | .ok _ => False | .error e => E e s') s') E s) : wpAny (model prog w) A (call (.builtin id) (self :: rest)) Q E s :=
  wpAny_call (codeAny_call_builtin slot.plain entry (slot.check _ _ _ _ _ _ _ _ hT args (wpAny_mono h (fun fin s' h' => by
    cases fin with
    | done f => cases f <;> exact h'
    | again c => exact h') fun _ _ x => x)))
theorem call_search_hit (P : PatAt s.heap pa code 1) (hx : x.length < 2 ^ 62) (hk : k ≤ 4 * (2 ^ 64 - 1)) (hbe : b ≤ e) (hw : Re.Wp (Sre.forSearch code x.cps 1 0 x.cps.size false) k (Re.Hit st hd 1 li #[some b, some e]))
    (h : ∀ mo h', Stays s.heap h' → s.heap.get? mo = none → MatAt h' mo x #[(st : Int), hd, b, e] → Q (.ref mo) { s with heap := h' }) : wpAny (model prog w) A (call (.builtin "re.Pattern.search") [.ref pa, .str x t]) Q E s := by
  refine call_slot Fc.slot_search Fc.entry_search P.typeIs (Fc.args_search _ _) ?_
  unfold Builtin.«re.Pattern.search»
  refine wpAny_bind (target_at P hx rfl ?_)
  unfold reAnswer
  refine wpAny_bind (end_hit hw hk fun m' hm => ?_)
  refine wpAny_bind (newMatch_one hm hbe fun mo h' k1 k2 k3 => ?_)
  exact wpAny_pure (h mo h' k1 k2 k3)
theorem call_search_miss (P : PatAt s.heap pa code 1) (hx : x.length < 2 ^ 62) (hk : k ≤ 4 * (2 ^ 64 - 1)) (hw : Re.Wp (Sre.forSearch code x.cps 1 0 x.cps.size false) k Re.Miss)
    (h : Q .none s) : wpAny (model prog w) A (call (.builtin "re.Pattern.search") [.ref pa, .str x t]) Q E s := by
  refine call_slot Fc.slot_search Fc.entry_search P.typeIs (Fc.args_search _ _) ?_
  unfold Builtin.«re.Pattern.search»
  refine wpAny_bind (target_at P hx rfl ?_)
  unfold reAnswer
  refine wpAny_bind (end_miss hw hk ?_)
  exact wpAny_pure h
theorem call_full_hit (P : PatAt s.heap pa code 0) (hx : x.length < 2 ^ 62) (hk : k ≤ 4 * (2 ^ 64 - 1)) {lm : Int} {mk : Array (Option Nat)} (hw : Re.Wp (Sre.forMatch code x.cps 0 0 x.cps.size true false) k (Re.Hit st hd lm li mk))
    (h : ∀ mo h', Stays s.heap h' → s.heap.get? mo = none → MatAt h' mo x #[(st : Int), hd] → Q (.ref mo) { s with heap := h' }) : wpAny (model prog w) A (call (.builtin "re.Pattern.fullmatch") [.ref pa, .str x t]) Q E s := by
  refine call_slot Fc.slot_fullmatch Fc.entry_fullmatch P.typeIs (Fc.args_fullmatch _ _) ?_
  unfold Builtin.«re.Pattern.fullmatch»
  refine wpAny_bind (target_at P hx rfl ?_)
  unfold reAnswer
  refine wpAny_bind (end_hit hw hk fun m' hm => ?_)
  refine wpAny_bind (newMatch_none hm fun mo h' k1 k2 k3 => ?_)
  exact wpAny_pure (h mo h' k1 k2 k3)
theorem call_full_miss (P : PatAt s.heap pa code 0) (hx : x.length < 2 ^ 62) (hk : k ≤ 4 * (2 ^ 64 - 1)) (hw : Re.Wp (Sre.forMatch code x.cps 0 0 x.cps.size true false) k Re.Miss)
    (h : Q .none s) : wpAny (model prog w) A (call (.builtin "re.Pattern.fullmatch") [.ref pa, .str x t]) Q E s := by
  refine call_slot Fc.slot_fullmatch Fc.entry_fullmatch P.typeIs (Fc.args_fullmatch _ _) ?_
  unfold Builtin.«re.Pattern.fullmatch»
  refine wpAny_bind (target_at P hx rfl ?_)
  unfold reAnswer
  refine wpAny_bind (end_miss hw hk ?_)
  exact wpAny_pure h
theorem found_at {sp : Array Int} {Q : ReFound → Shared → Prop} (P : MatAt s.heap mo x sp) (h : ∀ fs t, fs.getD 0 .none = .str x t → Q ⟨fs, sp⟩ s) : wpAny (model prog w) A (reFound (.ref mo)) Q E s := by
  obtain ⟨fs, oo, t, h1, h2, h3, h4, h5, ta, to, items, n, h7, h8, h9, h10⟩ := P.obj
  unfold reFound
  refine wpAny_bind (wpAny_fieldsOf h1 h4 ?_)
  rw [h7]
  refine wpAny_bind (rawItems_at h8 h9 ?_)
  rw [h10]
  exact wpAny_pure (h fs t h5)
theorem groupNumber_at {X : ReFound} {i : Nat} {u : Tok} {Q : Nat → Shared → Prop} (hi : 2 * i < X.spans.size) (hs : i < 2 ^ 62) (h : Q i s) : wpAny (model prog w) A (reGroupNumber X (.int i u)) Q E s := by
  unfold reGroupNumber
  refine wpAny_bind (wpAny_pure ?_)
  simp only [Option.isSome_some, if_true]
  refine wpAny_bind (wpAny_pure ?_)
  rw [if_neg]
  · exact wpAny_pure h
  · simp only [Bool.or_eq_true, decide_eq_true_eq]
    omega
theorem groupText_at {X : ReFound} {g : Nat} {b e : Nat} {dflt : Value} {t : Tok} {Q : Value → Shared → Prop} (h0 : X.fields.getD 0 .none = .str x t) (hb : X.spans.getD (2 * g) (-1) = (b : Int)) (he : X.spans.getD (2 * g + 1) (-1) = (e : Int)) (hx : x.length ≤ sizeLine)
    (h : Q (.str ⟨x.cps.extract b e⟩ s.toks) { s with toks := s.toks + 1 }) : wpAny (model prog w) A (reGroupText X g dflt) Q E s := by
  unfold reGroupText
  simp only [hb, he]
  rw [if_neg]
  · rw [h0]
    unfold reTextOf
    refine wpAny_bind (wpAny_bind (wpAny_pure (wpAny_pure ?_)))
    show wpAny _ _ (mkStr ⟨x.cps.extract (b : Int).toNat (e : Int).toNat⟩) _ _ _
    refine wpAny_mkStr h ?_
    show (x.cps.extract b e).size ≤ sizeLine
    rw [Array.size_extract]
    have : x.cps.size ≤ sizeLine := hx
    omega
  · simp only [Bool.or_eq_true, decide_eq_true_eq]
    omega
theorem call_group {sp : Array Int} {g b e : Nat} {u : Tok} (P : MatAt s.heap mo x sp) (hg : 2 * g < sp.size) (hg' : g < 2 ^ 62) (hb : sp.getD (2 * g) (-1) = (b : Int)) (he : sp.getD (2 * g + 1) (-1) = (e : Int)) (hx : x.length ≤ sizeLine)
    (h : Q (.str ⟨x.cps.extract b e⟩ s.toks) { s with toks := s.toks + 1 }) : wpAny (model prog w) A (call (.builtin "re.Match.group") [.ref mo, .int g u]) Q E s := by
  refine call_slot Fc.slot_group Fc.entry_group P.typeIs (Fc.args_group _ _) ?_
  unfold Builtin.«re.Match.group»
  refine wpAny_bind (wpAny_pure ?_)
  refine wpAny_bind (found_at P fun fs t h0 => ?_)
  refine wpAny_bind (groupNumber_at hg hg' ?_)
  refine wpAny_bind (groupText_at h0 hb he hx ?_)
  exact wpAny_pure h
theorem call_span {sp : Array Int} {g b e : Nat} {u : Tok} (P : MatAt s.heap mo x sp) (hg : 2 * g < sp.size) (hg' : g < 2 ^ 62) (hb : sp.getD (2 * g) (-1) = (b : Int)) (he : sp.getD (2 * g + 1) (-1) = (e : Int))
    (h : ∀ ta h', Stays s.heap h' → s.heap.get? ta = none → h'.get? ta = some { cls := .type "tuple", data := .seq #[.int b s.toks, .int e (s.toks + 1)] } → Q (.ref ta) { s with heap := h', toks := s.toks + 2 }) : wpAny (model prog w) A (call (.builtin "re.Match.span") [.ref mo, .int g u]) Q E s := by
  refine call_slot Fc.slot_span Fc.entry_span P.typeIs (Fc.args_span _ _) ?_
  unfold Builtin.«re.Match.span»
  unfold reOneGroup
  refine wpAny_bind (wpAny_bind (wpAny_pure ?_))
  refine wpAny_bind (found_at P fun fs t h0 => ?_)
  refine wpAny_bind (groupNumber_at hg hg' ?_)
  refine wpAny_pure ?_
  dsimp only
  rw [hb, he]
  refine wpAny_bind (wpAny_mkInt (wpAny_bind (wpAny_mkInt (wpAny_bind (wpAny_newTuple ?_)))))
  exact wpAny_pure (h _ _ (stays_push _ _) (by
    cases q : s.heap.get? s.heap.objs.size with
    | none => rfl
    | some o => exact absurd (Heap.lt_size q) (Nat.lt_irrefl _)) (get_push_self _ _ rfl))
end
end Mine
end
section
open PySem PySem.W PySem.Calls PyProof.Rows Builtin Builtin.Re
namespace Mine
namespace Fc
theorem lk_string : typeLookup (.type "re.Match") "string" = pure (some (.builtin "re.Match.string")) := by rw [typeLookup_type, builtinLookup_eq_fast]; kernel_rfl
theorem typeOf_string : typeOf (.builtin "re.Match.string") = pure (.type "member_descriptor") := by show builtinType _ = _; rw [builtinType_eq_fast]; kernel_rfl
theorem owner_string : ".".intercalate ("re.Match.string".cutAt '.').dropLast = "re.Match" := by decide +kernel
theorem sub_string : isSubtype (.type "re.Match") (.type (".".intercalate ("re.Match.string".cutAt '.').dropLast)) = pure true := by
  rw [owner_string, isSubtype_type]; kernel_rfl
theorem slot_mga : Slot "re.Match" "__getattribute__" "object.__getattribute__" :=
  .of (owner := "object") (n := "__getattribute__") (by rw [typeLookup_type, builtinLookup_eq_fast]; kernel_rfl) (by decide +kernel) (by decide +kernel) (by decide +kernel)
    (by first | exact .inl (by decide +kernel) | exact .inr (by decide +kernel)) (by rw [isSubtype_type]; kernel_rfl)
theorem slot_mset : Slot "member_descriptor" "__set__" "member_descriptor.__set__" := KF.slot_mset
end Fc
section
variable {prog : Program} {w : World} {A : Around} {E : Value → Shared → Prop} {h : Heap} {g : Array GenState} {d : Drawn} {t : Nat} {os : OsState} {mo : Addr} {x : Str} {sp : Array Int}
theorem string_get {R : Result → Shared → Prop} {fs : Array Value} {oo : Obj} (h1 : h.get? mo = some oo) (h2 : oo.cls = .type "re.Match") (h4 : oo.data = .fields fs) {v : Value} (h5 : fs[0]? = some v) (hq : R (.ok (.ret v)) ⟨h, g, d, t, os⟩) :
    codeAny (model prog w) A (.call (.builtin "member_descriptor.__get__") ⟨[.builtin "re.Match.string", .ref mo, .type "re.Match"], []⟩) R ⟨h, g, d, t, os⟩ := by
  have hT : (⟨h, g, d, t, os⟩ : Shared).TypeIs (.ref mo) "re.Match" := ⟨_, h1, h2⟩
  have hT5 : (⟨h, g, d, t, os⟩ : Shared).TypeIs (.builtin "re.Match.string") "member_descriptor" := Fc.typeOf_string
  have f8 := Fc.sub_string
  refine codeAny_call_builtin KF.slot_mem.plain KF.entry_mem (KF.slot_mem.check _ _ _ _ _ _ _ _ hT5 (KF.args_mem _ _ _) ?_)
  repeat (any_goals (first | assumption | wp_step))
  refine ⟨Code.quiet_builtin _ (by decide +kernel), codeAny_builtin Fc.entry_string ?_⟩
  unfold Builtin.«re.Match.string»
  show wpAny _ _ (field (.ref mo) 0 >>= fun v => ret v) _ _ _
  exact wpAny_bind (wpAny_field h1 h4 h5 (wpAny_pure hq))
theorem string_entry {tk : Tok} {Q : Fin → Shared → Prop} {fs : Array Value} {oo : Obj} (h1 : h.get? mo = some oo) (h2 : oo.cls = .type "re.Match") (h3 : oo.dict = none) (h4 : oo.data = .fields fs) {v : Value} (h5 : fs[0]? = some v) (hq : Q (.done (.ret v)) ⟨h, g, d, t, os⟩) :
    wpAny (model prog w) A (Builtin.«object.__getattribute__» ⟨[.ref mo, .str "string" tk], []⟩) Q E ⟨h, g, d, t, os⟩ := by
  have hT : (⟨h, g, d, t, os⟩ : Shared).TypeIs (.ref mo) "re.Match" := ⟨_, h1, h2⟩
  have hT5 : (⟨h, g, d, t, os⟩ : Shared).TypeIs (.builtin "re.Match.string") "member_descriptor" := Fc.typeOf_string
  have f4 := Fc.lk_string
  have f5 := Fc.typeOf_string
  have f6 := KF.slot_mem.lookup
  have f7 := Fc.slot_mset.lookup
  repeat (any_goals (first | assumption | wp_step))
  refine string_get h1 h2 h4 h5 ?_
  repeat (any_goals (first | assumption | wp_step))
theorem string_call {tk : Tok} {R : Result → Shared → Prop} {fs : Array Value} {oo : Obj} (h1 : h.get? mo = some oo) (h2 : oo.cls = .type "re.Match") (h3 : oo.dict = none) (h4 : oo.data = .fields fs) {v : Value} (h5 : fs[0]? = some v) (hq : R (.ok (.ret v)) ⟨h, g, d, t, os⟩) :
    codeAny (model prog w) A (.call (.builtin "object.__getattribute__") ⟨[.ref mo, .str "string" tk], []⟩) R ⟨h, g, d, t, os⟩ :=
  codeAny_call_builtin Fc.slot_mga.plain F.entry_object_getattribute (Fc.slot_mga.check _ _ _ _ _ _ _ _ (show (⟨h, g, d, t, os⟩ : Shared).TypeIs (.ref mo) "re.Match" from ⟨_, h1, h2⟩) (F.args_object_getattribute_2 _ _) (string_entry h1 h2 h3 h4 h5 hq))
theorem string_by {tk : Tok} {Q : Value → Shared → Prop} {ex : Bool} {x : Str} {tx : Tok} {fs : Array Value} {oo : Obj} (h1 : h.get? mo = some oo) (h2 : oo.cls = .type "re.Match") (h3 : oo.dict = none) (h4 : oo.data = .fields fs) (h5 : fs[0]? = some (.str x tx)) (hq : Q (.str x tx) ⟨h, g, d, t, os⟩) :
    wpAny (model prog w) A (getAttrBy (.ref mo) (.str "string" tk) true ex) Q E ⟨h, g, d, t, os⟩ := by
  have hT : (⟨h, g, d, t, os⟩ : Shared).TypeIs (.ref mo) "re.Match" := ⟨_, h1, h2⟩
  have f2 := Fc.slot_mga.lookup
  have f3 := Fc.slot_mga.bind (.ref mo)
  cases ex
  · repeat (any_goals (first | assumption | wp_step))
    refine string_call h1 h2 h3 h4 h5 ?_
    repeat (any_goals (first | assumption | wp_step))
  · repeat (any_goals (first | assumption | wp_step))
    refine string_call h1 h2 h3 h4 h5 ?_
    repeat (any_goals (first | assumption | wp_step))
theorem string_attr {Q : Value → Shared → Prop} {s : Shared} {ex : Bool} (P : MatAt s.heap mo x sp) (hq : ∀ t, Q (.str x t) { s with toks := s.toks + 1 }) : wpAny (model prog w) A (getAttr (.ref mo) "string" ex) Q E s := by
  obtain ⟨fs, oo, t, h1, h2, h3, h4, h5, _⟩ := P.obj
  have h5' : fs[0]? = some (.str x t) := by
    rw [Array.getD_eq_getD_getElem?] at h5
    cases q : fs[0]? with
    | none => rw [q] at h5; cases h5
    | some v => rw [q] at h5; exact congrArg some h5
  unfold getAttr
  refine wpAny_bind (wpAny_mkText ?_)
  exact string_by h1 h2 h3 h4 h5' (hq t)

theorem call_span0 {Q : Value → Shared → Prop} {s : Shared} {e b c : Nat} {u : Tok} (P : MatAt s.heap mo x #[0, (e : Int), b, c])
    (h : ∀ ta h', Stays s.heap h' → s.heap.get? ta = none → h'.get? ta = some { cls := .type "tuple", data := .seq #[.int 0 s.toks, .int e (s.toks + 1)] } → Q (.ref ta) { s with heap := h', toks := s.toks + 2 }) : wpAny (model prog w) A (call (.builtin "re.Match.span") [.ref mo, .int 0 u]) Q E s :=
  call_span (g := 0) (b := 0) P (Nat.le_of_ble_eq_true rfl) (by decide) rfl rfl h
theorem call_group1 {Q : Value → Shared → Prop} {s : Shared} {st hd b e : Nat} {u : Tok} (P : MatAt s.heap mo x #[(st : Int), hd, b, e]) (hx : x.length ≤ sizeLine)
    (h : Q (.str ⟨x.cps.extract b e⟩ s.toks) { s with toks := s.toks + 1 }) : wpAny (model prog w) A (call (.builtin "re.Match.group") [.ref mo, .int 1 u]) Q E s :=
  call_group (g := 1) P (Nat.le_of_ble_eq_true rfl) (by decide) rfl rfl hx h
end
end Mine
end
section
open PySem PySem.W PySem.Calls PyProof.Rows Builtin
namespace Mine
namespace Fc
theorem entry_unchain : entryFor table "proto.unchain" = some Builtin.«proto.unchain» := entryFor_of_tree (by kernel_rfl)
end Fc
/-- an exception object without a context -/
def ExcAt (h : Heap) (ea : Addr) : Prop := ∃ o vs, h.get? ea = some o ∧ o.data = .fields vs ∧ vs[2]? = some .none
theorem ExcAt.keeps {h h' : Heap} {ea : Addr} (x : ExcAt h ea) (k : Stays h h') : ExcAt h' ea := by
  obtain ⟨o, vs, h1, h2, h3⟩ := x
  exact ⟨o, vs, k _ _ h1, h2, h3⟩
/-- what is being handled, if anything, is such an object -/
def HandOk (hd : Option Value) (h : Heap) : Prop := hd = none ∨ ∃ ea, hd = some (.ref ea) ∧ ExcAt h ea
theorem HandOk.keeps {hd : Option Value} {h h' : Heap} (x : HandOk hd h) (k : Stays h h') : HandOk hd h' := by
  rcases x with x | ⟨ea, e, x⟩
  · exact .inl x
  · exact .inr ⟨ea, e, x.keeps k⟩
section
variable {prog : Program} {w : World} {A : Around} {E : Value → Shared → Prop} {s : Shared}
theorem raiseNew_h {α : Type} {e : Addr} {eo : Obj} {evs : Array Value} {Q : α → Shared → Prop} (hh : HandOk A.handled s.heap) (h1 : s.heap.get? e = some eo) (h2 : eo.data = .fields evs) (h3 : 2 < evs.size) (hne : ∀ ea, A.handled = some (.ref ea) → ea ≠ e)
    (h : ∀ h', Heap.ExtBut e s.heap h' → (∃ o', h'.get? e = some o' ∧ o'.cls = eo.cls) → E (.ref e) { s with heap := h' }) : wpAny (model prog w) A (raiseNew (.ref e) : Sem α) Q E s := by
  unfold raiseNew
  refine wpAny_bind (wpAny_handled ?_)
  rcases hh with hh | ⟨ea, hh, o, vs, x1, x2, x3⟩
  · rw [hh]
    exact wpAny_bind (wpAny_pure (wpAny_throw (h s.heap (fun _ _ _ x => x) ⟨eo, h1, rfl⟩)))
  · have hn := hne ea hh
    rw [hh]
    have hb : (Value.ref ea != Value.ref e) = true := by
      rw [bne_iff_ne]
      intro q
      exact hn (Value.ref.inj q)
    dsimp only
    rw [if_pos hb]
    refine wpAny_bind (wpAny_holding (wpAny_runValue (codeAny_builtin Fc.entry_unchain ?_)))
    unfold Builtin.«proto.unchain»
    dsimp only
    refine wpAny_bind (wpAny_field x1 x2 x3 ?_)
    rw [if_pos (show (Value.none == Value.none) = true from rfl)]
    refine wpAny_pure ?_
    dsimp only
    unfold updateField
    refine wpAny_bind (wpAny_bind (wpAny_load h1 ?_))
    rw [h2]
    dsimp only
    rw [if_pos h3]
    refine wpAny_update h1 (wpAny_throw (h _ (Heap.SameBut.update ..).extBut ⟨_, Heap.get?_update_self _ h1 (Obj.isFreed_of_fields (Obj.data_mapFields h2 _)), Obj.cls_mapFields ..⟩))
theorem push_le (h : Heap) (o : Obj) : h.objs.size ≤ (h.push o).objs.size := by rw [Heap.size_push]; omega
theorem new_ne {h : Heap} {a : Addr} {o : Obj} (e : h.get? a = some o) : a ≠ h.objs.size := Nat.ne_of_lt (Heap.lt_size e)
theorem stop_h {α : Type} {Q : α → Shared → Prop} (hh : HandOk A.handled s.heap) (h : ∀ e h', Stays s.heap h' → (∃ o', h'.get? e = some o' ∧ o'.cls = .type "StopIteration") → E (.ref e) { s with heap := h' }) :
    wpAny (model prog w) A (do raiseNew (← newExc (.type "StopIteration") []) : Sem α) Q E s := by
  refine wpAny_bind ?_
  simp only [newExc, newTuple]
  refine wpAny_bind (wpAny_newObj_type ?_ (by size_fits))
  refine wpAny_bind (m := firstArgMember _ _) (wpAny_of_eq (a := Value.none) (by first | rfl | (simp only [firstArgMember]; rfl)) ?_)
  refine wpAny_newObj_type ?_ (by size_fits)
  refine raiseNew_h (hh.keeps fun b o e => stays_push _ _ _ _ (stays_push _ _ _ _ e)) (get_push_self _ _ rfl) rfl (Nat.le_of_ble_eq_true rfl) ?_ ?_
  · intro ea hea
    rcases hh with hh | ⟨ea', hh, o, vs, x1, _⟩
    · rw [hh] at hea; cases hea
    · rw [hh] at hea
      cases hea
      exact Nat.ne_of_lt (Nat.lt_of_lt_of_le (Heap.lt_size x1) (push_le _ _))
  · intro h' hx ho
    refine h _ h' (fun b o e => hx b o ?_ (stays_push _ _ _ _ (stays_push _ _ _ _ e))) ho
    exact Nat.ne_of_lt (Nat.lt_of_lt_of_le (Heap.lt_size e) (push_le _ _))

theorem HandOk.but {hd : Option Value} {h h' : Heap} {it : Addr} {o : Obj} {a b : Value} (x : HandOk hd h) (ho : h.get? it = some o) (hd' : o.data = .fields #[a, b]) (k : Heap.ExtBut it h h') : HandOk hd h' := by
  rcases x with x | ⟨ea, e, o', vs, x1, x2, x3⟩
  · exact .inl x
  · refine .inr ⟨ea, e, o', vs, k ea o' (fun q => ?_) x1, x2, x3⟩
    rw [q, ho] at x1
    cases x1
    rw [hd'] at x2
    cases x2
    cases x3
theorem next_tuple_end {it t : Addr} {i : Nat} {items : Array Value} {Q : Option Value → Shared → Prop} (hh : HandOk A.handled s.heap) (hit : s.heap.IsTupleIter it t i) (ht : s.heap.IsTuple t items) (hx : items[i]? = none)
    (hQ : ∀ h', Heap.ExtBut it s.heap h' → Q none { s with heap := h' }) : wpAny (model prog w) A (pyNext (.ref it)) Q E s := by
  obtain ⟨o, ho, hc, hd⟩ := id hit
  obtain ⟨ol, hol, _, nl, hdl⟩ := ht
  unfold pyNext
  refine wpAny_bind (wpAny_attempt (wpAny_callSpecial?_slot (name := Str.ofString "__next__") hit.typeIs F.slot_tuple_iterator_next (wpAny_call_entry F.slot_tuple_iterator_next hit.typeIs F.entry_tuple_iterator_next ?_ (F.args_tuple_iterator_next_1 _))))
  show wpAny _ _ (field (.ref it) 0 >>= _) _ _ s
  refine wpAny_bind (wpAny_field ho hd (x := .ref t) rfl ?_)
  show wpAny _ _ (if (Value.ref t == Value.none) = true then _ else _) _ _ s
  rw [if_neg (show ¬ ((Value.ref t == Value.none) = true) from Bool.false_ne_true)]
  show wpAny _ _ (field (.ref it) 1 >>= _) _ _ s
  refine wpAny_bind (wpAny_field ho hd (x := .int i 0) rfl ?_)
  show wpAny _ _ (seqItems? (.ref t) >>= _) _ _ s
  refine wpAny_bind (wpAny_seqItems hol hdl ?_)
  simp only [Int.toNat_natCast, hx]
  refine wpAny_bind (wpAny_rule (wpAny_bind (wpAny_setField ho hd (by simp) ?_)))
  refine stop_h (hh.but ho hd (Heap.SameBut.update ..).extBut) fun e h' k ⟨o', q1, q2⟩ => ?_
  refine wpAny_bind (wpAny_isInstance (T := "StopIteration") (b := true) ⟨o', q1, q2⟩ isSubtype_stop ?_)
  exact wpAny_pure (hQ _ fun b ob hb eb => k b ob ((Heap.SameBut.update ..).extBut b ob hb eb))
theorem next_list_end {it l : Addr} {i : Nat} {items : Array Value} {Q : Option Value → Shared → Prop} (hh : HandOk A.handled s.heap) (hit : s.heap.IsListIter it l i) (hl : s.heap.IsList l items) (hx : items[i]? = none)
    (hQ : ∀ h', Heap.ExtBut it s.heap h' → Q none { s with heap := h' }) : wpAny (model prog w) A (pyNext (.ref it)) Q E s := by
  obtain ⟨o, ho, hc, hd⟩ := id hit
  obtain ⟨ol, hol, _, nl, hdl⟩ := hl
  unfold pyNext
  refine wpAny_bind (wpAny_attempt (wpAny_callSpecial?_slot (name := Str.ofString "__next__") hit.typeIs slot_listiter_next (wpAny_call_entry slot_listiter_next hit.typeIs entry_listiter_next ?_ (args_listiter_next _))))
  show wpAny _ _ (field (.ref it) 0 >>= _) _ _ s
  refine wpAny_bind (wpAny_field ho hd (x := .ref l) rfl ?_)
  show wpAny _ _ (if (Value.ref l == Value.none) = true then _ else _) _ _ s
  rw [if_neg (show ¬ ((Value.ref l == Value.none) = true) from Bool.false_ne_true)]
  show wpAny _ _ (field (.ref it) 1 >>= _) _ _ s
  refine wpAny_bind (wpAny_field ho hd (x := .int i 0) rfl ?_)
  show wpAny _ _ (seqItems? (.ref l) >>= _) _ _ s
  refine wpAny_bind (wpAny_seqItems hol hdl ?_)
  simp only [Int.toNat_natCast, hx]
  refine wpAny_bind (wpAny_rule (wpAny_bind (wpAny_setField ho hd (by simp) ?_)))
  refine stop_h (hh.but ho hd (Heap.SameBut.update ..).extBut) fun e h' k ⟨o', q1, q2⟩ => ?_
  refine wpAny_bind (wpAny_isInstance (T := "StopIteration") (b := true) ⟨o', q1, q2⟩ isSubtype_stop ?_)
  exact wpAny_pure (hQ _ fun b ob hb eb => k b ob ((Heap.SameBut.update ..).extBut b ob hb eb))
theorem stays_new {h h' : Heap} (k : Heap.ExtBut h.objs.size h h') : Stays h h' := fun b o e => k b o (new_ne e) e
theorem unpack_pair {t : Addr} {x y : Value} {Q : List Value → Shared → Prop} (hh : HandOk A.handled s.heap) (ht : s.heap.IsTuple t #[x, y])
    (hQ : ∀ h', Stays s.heap h' → Q [x, y] { s with heap := h' }) : wpAny (model prog w) A (unpackItems (.ref t) 2 none) Q E s := by
  have hlt : t ≠ s.heap.objs.size := by obtain ⟨o, ho, _⟩ := ht; exact new_ne ho
  unfold unpackItems notIterableAtAll
  refine wpAny_bind (wpAny_bind (wpAny_specialOf ht.typeIs F.slot_tuple_iter.lookup (wpAny_pure ?_)))
  simp only [Bool.false_eq_true, if_false]
  refine wpAny_bind (wpAny_holding (wpAny_pyIter_tuple ht ?_))
  refine wpAny_bind (wpAny_holding (wpAny_draw_tuple hlt 2 0 _ _ ⟨_, Heap.get?_push_size _ rfl, rfl, rfl⟩ (ht.push _) (Nat.le_refl 2) fun h₁ hit₁ hs₁ => ?_))
  show wpAny _ _ (if (2 : Nat) < 2 then _ else _) _ _ _
  rw [if_neg (by decide)]
  have k1 : Stays s.heap h₁ := fun b o e => (hs₁.extBut b o (new_ne e) (stays_push _ _ _ _ e))
  refine wpAny_bind (wpAny_holding (next_tuple_end (hh.keeps k1) hit₁ ⟨_, k1 _ _ ht.choose_spec.1, ht.choose_spec.2⟩ rfl fun h' hx => ?_))
  simp only [Option.isSome_none, Bool.false_eq_true, if_false]
  refine wpAny_pure (hQ h' fun b o e => hx b o (new_ne e) (k1 b o e))
theorem assign_pair {env : Env} {a b : Expr} {x1 : Nat} {pos : Pos} {t : Addr} {x y : Value} {Q : Unit → Shared → Prop} (hh : HandOk A.handled s.heap) (ht : s.heap.IsTuple t #[x, y])
    (hns : assignEach [a, b] env = [(false, assign a env), (false, assign b env)])
    (h : ∀ h', Stays s.heap h' → wpAny (model prog w) A (assign a env x) (fun _ s₁ => wpAny (model prog w) A (assign b env y) Q E s₁) E { s with heap := h' }) :
    wpAny (model prog w) A (assign (.Tuple [a, b] x1 pos) env (.ref t)) Q E s := by
  rw [arm_assign_Tuple]
  refine wpAny_bind (wpAny_standAt ?_)
  unfold unpack
  rw [hns]
  refine wpAny_bind (wpAny_holding (unpack_pair hh ht fun h' k => ?_))
  show wpAny _ _ (assignInOrder [assign a env, assign b env] [x, y]) _ _ _
  unfold assignInOrder
  refine wpAny_bind (wpAny_holding (wpAny_mono (h h' k) (fun _ s₁ h₁ => ?_) fun _ _ x => x))
  unfold assignInOrder
  refine wpAny_bind (wpAny_holding (wpAny_mono h₁ (fun _ s₂ h₂ => ?_) fun _ _ x => x))
  unfold assignInOrder
  exact wpAny_pure h₂
end
end Mine
end
section
open PySem PySem.W PySem.Calls PyProof.Rows Builtin
namespace Mine
def itL (l : Addr) (i : Nat) : Obj := { cls := .type "list_iterator", data := .fields #[.ref l, .int i 0] }
section
variable {prog : Program} {w : World} {A : Around} {E : Value → Shared → Prop} {s : Shared} {h₀ : Heap} {L I l : Addr} {m : Str → Option Value} {news news' : List (Addr × Obj)} {i : Nat} {items : Array Value} {x : Value}
theorem next_item {Q : Option Value → Shared → Prop} (ho : s.heap.get? I = some (itL l i)) (hl : s.heap.IsList l items) (hx : items[i]? = some x)
    (hQ : ∀ h', Heap.SameBut I s.heap h' → h'.get? I = some (itL l (i + 1)) → Q (some x) { s with heap := h' }) : wpAny (model prog w) A (pyNext (.ref I)) Q E s := by
  have hit : s.heap.IsListIter I l i := ⟨_, ho, rfl, rfl⟩
  obtain ⟨ol, hol, _, nl, hdl⟩ := hl
  have hd : (itL l i).data = .fields #[.ref l, .int i 0] := rfl
  unfold pyNext
  refine wpAny_bind (wpAny_attempt (wpAny_callSpecial?_slot (name := Str.ofString "__next__") hit.typeIs slot_listiter_next (wpAny_call_entry slot_listiter_next hit.typeIs entry_listiter_next ?_ (args_listiter_next _))))
  show wpAny _ _ (field (.ref I) 0 >>= _) _ _ s
  refine wpAny_bind (wpAny_field ho hd (x := .ref l) rfl ?_)
  show wpAny _ _ (if (Value.ref l == Value.none) = true then _ else _) _ _ s
  rw [if_neg (show ¬ ((Value.ref l == Value.none) = true) from Bool.false_ne_true)]
  show wpAny _ _ (field (.ref I) 1 >>= _) _ _ s
  refine wpAny_bind (wpAny_field ho hd (x := .int i 0) rfl ?_)
  show wpAny _ _ (seqItems? (.ref l) >>= _) _ _ s
  refine wpAny_bind (wpAny_seqItems hol hdl ?_)
  simp only [Int.toNat_natCast, hx]
  refine wpAny_bind (wpAny_setField ho hd (by simp) (wpAny_pure ⟨x, rfl, wpAny_pure (hQ _ (Heap.SameBut.update ..) ?_)⟩))
  rw [Heap.get?_update_self _ ho rfl]
  rfl

theorem forLoop_step {R : Result → Shared → Prop} {target : Expr} {it : Value} {body orelse : List Stmt} {env : Env}
    (h : wpAny (model prog w) A (pyNext it) (fun r s₁ => match r with
      | none => wpAny (model prog w) A (execs orelse env) (fun f s₃ => R (.ok f) s₃) (notedBy (model prog w) A env fun e s' => R (.error e) s') s₁
      | some v => wpAny (model prog w) A (letOwnedTupleGo target it v) (fun _ s₁ => wpAny (model prog w) A (assign target env v) (fun _ s₂ => wpAny (model prog w) A (execs body env) (fun f s₃ => match f with
          | .next | .cont => codeAny (model prog w) A (.forLoop target it body orelse env) R s₃
          | .brk => R (.ok .next) s₃
          | .ret v => R (.ok (.ret v)) s₃) (notedBy (model prog w) A env fun e s' => R (.error e) s') s₂) (notedBy (model prog w) A env fun e s' => R (.error e) s') s₁) (notedBy (model prog w) A env fun e s' => R (.error e) s') s₁) (notedBy (model prog w) A env fun e s' => R (.error e) s') s) : codeAny (model prog w) A (.forLoop target it body orelse env) R s := by
  refine codeAny_of_tree ?_
  show wpAny _ _ ((forTurn target it body orelse env).onRaise (fun x => do noteFrame x env; theTreesLotGoes x)) _ _ s
  refine wpAny_noted ?_
  simp only [forTurn]
  refine wpAny_bind (wpAny_standAt (wpAny_bind (wpAny_onRaise (wpAny_mono h (fun r s₁ h₁ => ?_) fun _ _ h' => wpAny_standAt h'))))
  cases r with
  | none => exact wpAny_pure ⟨rfl, codeAny_block h₁⟩
  | some v =>
    refine wpAny_bind (wpAny_mono h₁ (fun _ s₂ h₁ => ?_) fun _ _ h' => h')
    refine wpAny_bind (wpAny_mono h₁ (fun _ s₂ h₂ => wpAny_bind (wpAny_mono h₂ (fun f s₃ h₃ => ?_) fun _ _ h' => h')) fun _ _ h' => h')
    cases f with
    | next => exact wpAny_pure ⟨rfl, h₃⟩
    | cont => exact wpAny_pure ⟨rfl, h₃⟩
    | brk => exact wpAny_pure h₃
    | ret v => exact wpAny_pure h₃

/-- a for over a list, between two turns: the iterator I stands at some item -/
def ForAt (prog : Program) (w : World) (A : Around) (target : Expr) (I : Addr) (body : List Stmt) (env : Env) (E : Value → Shared → Prop) (Q : Flow → Shared → Prop) (s : Shared) : Prop :=
  codeAny (model prog w) A (.forLoop target (.ref I) body [] env) (fun r s' => match r with | .ok f => Q f s' | .error e => cameBackBy (model prog w) A env E e s') s
/-- how a turn ends -/
def ForEnd (prog : Program) (w : World) (A : Around) (target : Expr) (I : Addr) (body : List Stmt) (env : Env) (E : Value → Shared → Prop) (Q : Flow → Shared → Prop) (f : Flow) (s : Shared) : Prop :=
  match f with
  | .next | .cont => ForAt prog w A target I body env E Q s
  | .brk => Q .next s
  | .ret v => Q (.ret v) s
/-- what an exception out of a turn meets -/
def ForErr (prog : Program) (w : World) (A : Around) (env : Env) (E : Value → Shared → Prop) : Value → Shared → Prop :=
  notedBy (model prog w) A env fun e s' => cameBackBy (model prog w) A env E e s'
variable {target iter : Expr} {body : List Stmt} {env : Env} {Q : Flow → Shared → Prop} {pos : Pos}
theorem forAt_item {vs : List Value} (F : Fr h₀ L s.heap m) (N : News h₀ L s.heap news) (U : Upd I (itL l i) (itL l (i + 1)) news news') (hl : s.heap.IsList l vs.toArray) (hx : vs[i]? = some x) (ht : ∀ v, letOwnedTupleGo target (.ref I) v = pure ())
    (h : ∀ h', Fr h₀ L h' m → News h₀ L h' news' → wpAny (model prog w) A (assign target env x) (fun _ s₂ => wpAny (model prog w) A (execs body env) (ForEnd prog w A target I body env E Q) (ForErr prog w A env E) s₂) (ForErr prog w A env E) { s with heap := h' }) :
    ForAt prog w A target I body env E Q s := by
  obtain ⟨pre, post, rfl, rfl, a, b⟩ := U.split
  have z := N (I, itL l i) (List.mem_append.mpr (.inr (.head _)))
  refine forLoop_step (next_item z.1 hl (by rw [List.getElem?_toArray]; exact hx) fun h' hs ho => wpAny_of_eq (ht x) ?_)
  refine wpAny_mono (h h' (F.change hs z.2.1 z.2.2) (news_set N a b hs ho)) (fun _ s₂ h₂ => wpAny_mono h₂ (fun f s₃ h₃ => ?_) fun _ _ e => e) fun _ _ e => e
  cases f <;> exact h₃
theorem forAt_itemT {vs : List Value} {elts : List Expr} {x1 : Nat} {tpos : Pos} {T : Addr} (F : Fr h₀ L s.heap m) (N : News h₀ L s.heap news) (U : Upd I (itL l i) (itL l (i + 1)) news news') (hl : s.heap.IsList l vs.toArray) (hx : vs[i]? = some (.ref T))
    (h : ∀ h', Fr h₀ L h' m → News h₀ L h' news' → wpAny (model prog w) A (assign (.Tuple elts x1 tpos) env (.ref T)) (fun _ s₂ => wpAny (model prog w) A (execs body env) (ForEnd prog w A (.Tuple elts x1 tpos) I body env E Q) (ForErr prog w A env E) s₂) (ForErr prog w A env E) { s with heap := h' }) :
    ForAt prog w A (.Tuple elts x1 tpos) I body env E Q s := by
  obtain ⟨pre, post, rfl, rfl, a, b⟩ := U.split
  have z := N (I, itL l i) (List.mem_append.mpr (.inr (.head _)))
  refine forLoop_step (next_item z.1 hl (by rw [List.getElem?_toArray]; exact hx) fun h' hs ho => wpAny_letOwnedTupleGo_listiter ⟨_, ho, rfl, rfl⟩ ?_)
  refine wpAny_mono (h h' (F.change hs z.2.1 z.2.2) (news_set N a b hs ho)) (fun _ s₂ h₂ => wpAny_mono h₂ (fun f s₃ h₃ => ?_) fun _ _ e => e) fun _ _ e => e
  cases f <;> exact h₃
inductive Del (d : Addr) : List (Addr × Obj) → List (Addr × Obj) → Prop
  | nil : Del d [] []
  | skip {o : Obj} {r r' : List (Addr × Obj)} : Del d r r' → Del d ((d, o) :: r) r'
  | keep {p : Addr × Obj} {r r' : List (Addr × Obj)} : p.1 ≠ d → Del d r r' → Del d (p :: r) (p :: r')
theorem Del.mem {d : Addr} {l l' : List (Addr × Obj)} (h : Del d l l') : ∀ p ∈ l', p ∈ l ∧ p.1 ≠ d := by
  induction h with
  | nil => intro p hp; cases hp
  | skip _ ih => intro p hp; exact ⟨.tail _ (ih p hp).1, (ih p hp).2⟩
  | keep hn _ ih =>
    intro p hp
    rcases List.mem_cons.mp hp with rfl | hp
    · exact ⟨.head _, hn⟩
    · exact ⟨.tail _ (ih p hp).1, (ih p hp).2⟩
theorem forAt_end {vs : List Value} (F : Fr h₀ L s.heap m) (N : News h₀ L s.heap news) (U : (I, itL l i) ∈ news) (D : Del I news news') (hl : s.heap.IsList l vs.toArray) (hx : vs[i]? = none) (hh : HandOk A.handled s.heap)
    (h : ∀ h', Fr h₀ L h' m → News h₀ L h' news' → Q .next { s with heap := h' }) : ForAt prog w A target I body env E Q s := by
  have z := N (I, itL l i) U
  refine forLoop_step (next_list_end hh ⟨_, z.1, rfl, rfl⟩ hl (by rw [List.getElem?_toArray]; exact hx) fun h' hx' => ?_)
  refine wpAny_execs_nil (h h' ?_ ?_)
  · obtain ⟨oL, es, ep, hL, r⟩ := F.ns
    exact ⟨⟨oL, es, ep, hx' _ _ (fun q => z.2.1 q.symm) hL, r⟩, fun b o e => hx' _ _ (fun q => by have := z.2.2; rw [← q, e] at this; cases this) (F.keep b o e), F.above⟩
  · intro p hp
    obtain ⟨hp1, hp2⟩ := D.mem p hp
    have q := N p hp1
    exact ⟨hx' _ _ hp2 q.1, q.2⟩
theorem for_list (F : Fr h₀ L s.heap m) (N : News h₀ L s.heap news) (hl : s.heap.IsList l items)
    (h : ∀ I h', Fr h₀ L h' m → News h₀ L h' ((I, itL l 0) :: news) → (∀ q ∈ news, q.1 < I) → ForAt prog w A target I body env E Q { s with heap := h' }) :
    wpAny (model prog w) A (pyIter (.ref l)) (fun it s₂ => codeAny (model prog w) A (.forLoop target it body [] env) (fun r s' => match r with | .ok f => Q f s' | .error e => cameBackBy (model prog w) A env E e s') s₂) E s := by
  refine wpAny_pyIter_list hl (h _ _ (fr_on F (stays_push _ _)) (news_more F N (stays_push _ _) ?_ (get_push_self _ _ rfl)) ?_)
  · cases q : s.heap.get? s.heap.objs.size with
    | none => rfl
    | some o => exact absurd (Heap.lt_size q) (Nat.lt_irrefl _)
  · exact fun q hq => Heap.lt_size (N q hq).1
end
end Mine
end
section
open PySem PySem.W PySem.Calls PyProof.Rows Builtin
namespace Mine
/-- an exception on its way through the frames l: not in base, its context none, its newest entry's flight fl -/
def FlyAt (base : Heap) (l : List Env) (e : Addr) (cls fl : Value) (h : Heap) : Prop :=
  base.StaysIn h ∧ base.get? e = none ∧ h.FunFrames base l ∧ ∃ oe vs T oT ts, h.get? e = some oe ∧ oe.cls = cls ∧ oe.data = .fields vs ∧ vs[1]? = some (.ref T) ∧ vs[2]? = some .none ∧
    base.get? T = none ∧ T ≠ e ∧ h.get? T = some oT ∧ oT.data = .fields ts ∧ ts[3]? = some fl
theorem FlyAt.exc {base h : Heap} {l : List Env} {e : Addr} {cls fl : Value} (x : FlyAt base l e cls fl h) : ExcAt h e := by
  obtain ⟨_, _, _, oe, vs, _, _, _, he, _, hd, _, h2, _⟩ := x
  exact ⟨oe, vs, he, hd, h2⟩
theorem FlyAt.there {base h : Heap} {l : List Env} {e : Addr} {cls fl : Value} (x : FlyAt base l e cls fl h) : ∃ ob, h.get? e = some ob ∧ ob.cls = cls := by
  obtain ⟨_, _, _, oe, vs, _, _, _, he, hc, _⟩ := x
  exact ⟨oe, he, hc⟩
theorem fly_entry {base h h₁ : Heap} {l : List Env} {e : Addr} {oe o₂ : Obj} {vs ts : Array Value} {fl : Value} (hl : h.FunFrames base l) (hs : Heap.SlotsOnly (l.filterMap (·.frame)) h h₁) (hkb : base.StaysIn h) (hen : base.get? e = none)
    (he : h.get? e = some oe) (hd : oe.data = .fields vs) (h2 : vs[2]? = some .none) (hd2 : o₂.data = .fields ts) (h3 : ts[3]? = some fl) :
    FlyAt base l e oe.cls fl ((h₁.push o₂).update e (Obj.mapFields (·.setIfInBounds 1 (Value.ref h₁.objs.size)))) ∧ h.UpToSlots ((h₁.push o₂).update e (Obj.mapFields (·.setIfInBounds 1 (Value.ref h₁.objs.size)))) := by
  have hsz : 2 < vs.size := (Array.getElem?_eq_some_iff.mp h2).1
  have hnf : e ∉ l.filterMap (·.frame) := fun hm => by
    obtain ⟨_, o, ho, hn⟩ := hl.mem hm
    rw [he] at ho
    cases ho
    exact hn vs hd
  have he1 : h₁.get? e = some oe := (hs.2.1 e hnf).trans he
  have hdm := Obj.data_mapFields hd (·.setIfInBounds 1 (Value.ref h₁.objs.size))
  have he3 := Heap.get?_update_self (Obj.mapFields (·.setIfInBounds 1 (Value.ref h₁.objs.size))) (Heap.get?_push_of_some (h := h₁) o₂ he1) (Obj.isFreed_of_fields hdm)
  have hTe : h₁.objs.size ≠ e := fun q => by have := Heap.lt_size he1; rw [q] at this; exact Nat.lt_irrefl _ this
  have other : ∀ b o, b ≠ e → h₁.get? b = some o → ((h₁.push o₂).update e (Obj.mapFields (·.setIfInBounds 1 (Value.ref h₁.objs.size)))).get? b = some o := fun b o hb ho => by
    rw [Heap.get?_update_other _ _ (Ne.symm hb)]
    exact Heap.get?_push_of_some _ ho
  have up : h.UpToSlots ((h₁.push o₂).update e (Obj.mapFields (·.setIfInBounds 1 (Value.ref h₁.objs.size)))) := fun b o ho hn => by
    obtain ⟨sl, q⟩ := hs.2.2 b o ho
    exact ⟨sl, other b _ (fun z => by rw [z, he] at ho; cases ho; exact hn vs hd) q⟩
  have kb : base.StaysIn h₁ := fun b o ho => (hs.2.1 b fun hm => by rw [(hl.mem hm).1] at ho; cases ho).trans (hkb b o ho)
  have hT : ((h₁.push o₂).update e (Obj.mapFields (·.setIfInBounds 1 (Value.ref h₁.objs.size)))).get? h₁.objs.size = some o₂ := by
    rw [Heap.get?_update_other _ _ (Ne.symm hTe)]
    exact Heap.get?_push_size h₁ (Obj.isFreed_of_fields hd2)
  refine ⟨⟨fun b o ho => other b o (fun q => by rw [q, hen] at ho; cases ho) (kb b o ho), hen, hl.of_keeps fun b o hb hn => ?_, _, _, h₁.objs.size, o₂, ts, he3, Obj.cls_mapFields _ _, hdm, ?_, ?_, kb.fresh, hTe, hT, hd2, h3⟩, up⟩
  · obtain ⟨sl, q⟩ := up b o hb hn
    exact ⟨_, q, rfl⟩
  · simp only [Array.getElem?_setIfInBounds_self]
    rw [if_pos (by omega)]
  · rw [Array.getElem?_setIfInBounds_ne (by decide)]
    exact h2
section
variable {M : Model} {A : Around} {E : Value → Shared → Prop} {s : Shared} {base : Heap} {env : Env} {outer : List Env} {L e : Addr} {cls fl : Value} {Q : Unit → Shared → Prop}
theorem place3 {pl : List Value} {a b c d x : Value} (hpl : IsPlace pl) : (([a, b, c, d, x] ++ (if pl.isEmpty then List.replicate 6 Value.none else pl)).toArray)[3]? = some d := by simp
theorem note_new {oe : Obj} {vs : Array Value} {head : Value} {hadNext : Bool} (hfr : A.frames = some (env :: outer)) (hl : s.heap.FunFrames base (env :: outer)) (hf : env.frame = some L) (hkb : base.StaysIn s.heap) (hen : base.get? e = none)
    (he : s.heap.get? e = some oe) (hd : oe.data = .fields vs) (h2 : vs[2]? = some .none)
    (h : ∀ h', FlyAt base (env :: outer) e oe.cls (rawInt L) h' → s.heap.UpToSlots h' → Q () { s with heap := h' }) :
    wpAny M A (do let a ← frameOf env; let pl ← entryPlaceOf L hadNext; let b ← EntryCells.newEntry head a .none (rawInt L) .none pl; setField (.ref e) 1 b) Q E s := by
  have hsz : 2 < vs.size := (Array.getElem?_eq_some_iff.mp h2).1
  refine wpAny_bind (wpAny_frameOf_fun hfr hl hf fun h₁ hs => ?_)
  refine wpAny_bind (wpAny_entryPlaceOf fun pl hpl => ?_)
  unfold EntryCells.newEntry newFields
  refine wpAny_bind (wpAny_newObj_type ?_ (hpl.sizeOk5 _ _ _ _ _))
  have hnf : e ∉ (env :: outer).filterMap (·.frame) := fun hm => by
    obtain ⟨_, o, ho, hn⟩ := hl.mem hm
    rw [he] at ho
    cases ho
    exact hn vs hd
  refine wpAny_setField (Heap.get?_push_of_some (h := h₁) _ ((hs.2.1 e hnf).trans he)) hd (by omega) ?_
  have z := fly_entry (fl := rawInt L) (o₂ := { cls := .type "traceback", dict := none, data := .fields ([head, .ref L, .none, rawInt L, .none] ++ (if pl.isEmpty then List.replicate 6 Value.none else pl)).toArray }) hl hs hkb hen he hd h2 rfl (place3 hpl)
  exact h _ z.1 z.2
theorem note_first {oe : Obj} {vs : Array Value} (hfr : A.frames = some (env :: outer)) (hl : s.heap.FunFrames base (env :: outer)) (hf : env.frame = some L) (hkb : base.StaysIn s.heap) (hen : base.get? e = none)
    (he : s.heap.get? e = some oe) (hd : oe.data = .fields vs) (h1 : vs[1]? = some .none) (h2 : vs[2]? = some .none)
    (h : ∀ h', FlyAt base (env :: outer) e oe.cls (rawInt L) h' → s.heap.UpToSlots h' → Q () { s with heap := h' }) : wpAny M A (noteFrame (.ref e) env) Q E s := by
  unfold noteFrame
  simp only [hf]
  refine wpAny_bind (wpAny_field he hd h1 ?_)
  rw [if_neg (by decide)]
  exact note_new hfr hl hf hkb hen he hd h2 h
theorem land (x : FlyAt base (env :: outer) e cls fl s.heap) (h : ∀ h', FlyAt base (env :: outer) e cls .none h' → s.heap.UpToSlots h' → Q () { s with heap := h' }) : wpAny M A (setFlight (.ref e) none) Q E s := by
  obtain ⟨hkb, hen, hl, oe, vs, T, oT, ts, he, hc, hd, h1, h2, hnT, hTe, hT, hdT, h3⟩ := x
  have hsz : 3 < ts.size := (Array.getElem?_eq_some_iff.mp h3).1
  unfold setFlight
  refine wpAny_bind (wpAny_field he hd h1 ?_)
  rw [if_pos (show (Value.ref T != Value.none) = true from by simp)]
  have other : ∀ b, b ≠ T → (s.heap.update T (Obj.mapFields (·.setIfInBounds 3 Value.none))).get? b = s.heap.get? b := fun b hb => Heap.get?_update_other _ _ (Ne.symm hb)
  have up : s.heap.UpToSlots (s.heap.update T (Obj.mapFields (·.setIfInBounds 3 Value.none))) := fun b o ho hn => ⟨o.slots, (other b fun q => by rw [q, hT] at ho; cases ho; exact hn ts hdT).trans ho⟩
  refine wpAny_setField hT hdT hsz (h _ ⟨fun b o ho => (other b fun q => by rw [q, hnT] at ho; cases ho).trans (hkb b o ho), hen, hl.of_keeps fun b o hb hn => ?_, oe, vs, T, _, _, (other e (Ne.symm hTe)).trans he, hc, hd, h1, h2, hnT, hTe, Heap.get?_update_self _ hT (Obj.isFreed_of_fields (Obj.data_mapFields hdT _)), Obj.data_mapFields hdT _, ?_⟩ up)
  · obtain ⟨sl, q⟩ := up b o hb hn
    exact ⟨_, q, rfl⟩
  · simp [hsz]
theorem note_on (hfr : A.frames = some (env :: outer)) (hf : env.frame = some L) (x : FlyAt base (env :: outer) e cls .none s.heap)
    (h : ∀ h', FlyAt base (env :: outer) e cls (rawInt L) h' → s.heap.UpToSlots h' → Q () { s with heap := h' }) : wpAny M A (noteFrame (.ref e) env) Q E s := by
  obtain ⟨hkb, hen, hl, oe, vs, T, oT, ts, he, hc, hd, h1, h2, hnT, hTe, hT, hdT, h3⟩ := x
  subst hc
  have hsz : 3 < ts.size := (Array.getElem?_eq_some_iff.mp h3).1
  unfold noteFrame
  simp only [hf]
  refine wpAny_bind (wpAny_field he hd h1 ?_)
  rw [if_pos (show (Value.ref T != Value.none) = true from by simp)]
  refine wpAny_bind (wpAny_field hT hdT h3 ?_)
  rw [if_neg (show ¬ ((Value.none == rawInt L) = true) from by simp [rawInt])]
  have other : ∀ b, b ≠ T → (s.heap.update T (Obj.mapFields (·.setIfInBounds 3 Value.none))).get? b = s.heap.get? b := fun b hb => Heap.get?_update_other _ _ (Ne.symm hb)
  have up : s.heap.UpToSlots (s.heap.update T (Obj.mapFields (·.setIfInBounds 3 Value.none))) := fun b o ho hn => ⟨o.slots, (other b fun q => by rw [q, hT] at ho; cases ho; exact hn ts hdT).trans ho⟩
  refine wpAny_bind (wpAny_setField hT hdT hsz ?_)
  refine note_new hfr (hl.of_keeps fun b o hb hn => ?_) hf (fun b o ho => (other b fun q => by rw [q, hnT] at ho; cases ho).trans (hkb b o ho)) hen ((other e (Ne.symm hTe)).trans he) hd h2 fun h' x u => h h' x (up.trans u)
  obtain ⟨sl, q⟩ := up b o hb hn
  exact ⟨_, q, rfl⟩
end
end Mine
end
section
open PySem PySem.W PySem.Calls PyProof.Rows
set_option maxHeartbeats 0
namespace Mine
def putI (mark slash : Str) (l : List Int) : Str := l.foldl (fun acc c => acc ++ (if c = 34 then mark else if c = 92 then slash else ⟨#[c.toNat]⟩)) (Str.ofString "")

theorem str_one {n : Nat} {c : Nat} {x : Str} (hx : x = ⟨#[c]⟩) : ((⟨#[n]⟩ : Str) == x) = decide (n = c) := by
  subst hx
  by_cases h : n = c
  · subst h; simp
  · rw [decide_eq_false h, beq_eq_false_iff_ne]
    intro e
    injection e with e
    simp at e
    exact h e
theorem putI_snoc (mark slash : Str) (l : List Int) (c : Int) : putI mark slash (l ++ [c]) = putI mark slash l ++ (if c = 34 then mark else if c = 92 then slash else ⟨#[c.toNat]⟩) := by
  unfold putI
  rw [List.foldl_append]
  rfl
theorem len_one (n : Nat) : (⟨#[n]⟩ : Str).length = 1 := rfl
theorem put_q {mark slash acc : Str} {pre : List Int} {n : Nat} (e : acc = putI mark slash pre) (l : acc.length ≤ 1000 * pre.length) (h2 : mark.length ≤ 1000) (t : ((⟨#[n]⟩ : Str) == Str.ofString "\"") = true) :
    acc ++ mark = putI mark slash (pre ++ [(n : Int)]) ∧ (acc ++ mark).length ≤ 1000 * (pre ++ [(n : Int)]).length := by
  rw [str_one (c := 34) (by decide), decide_eq_true_eq] at t
  subst t
  refine ⟨by rw [putI_snoc, e]; rfl, ?_⟩
  rw [Str.length_append, List.length_append, List.length_singleton]
  omega
theorem put_b {mark slash acc : Str} {pre : List Int} {n : Nat} (e : acc = putI mark slash pre) (l : acc.length ≤ 1000 * pre.length) (h2 : slash.length ≤ 1000) (t0 : ((⟨#[n]⟩ : Str) == Str.ofString "\"") = false) (t : ((⟨#[n]⟩ : Str) == Str.ofString "\\") = true) :
    acc ++ slash = putI mark slash (pre ++ [(n : Int)]) ∧ (acc ++ slash).length ≤ 1000 * (pre ++ [(n : Int)]).length := by
  rw [str_one (c := 92) (by decide), decide_eq_true_eq] at t
  subst t
  refine ⟨by rw [putI_snoc, e]; rfl, ?_⟩
  rw [Str.length_append, List.length_append, List.length_singleton]
  omega
theorem put_o {mark slash acc : Str} {pre : List Int} {n : Nat} (e : acc = putI mark slash pre) (l : acc.length ≤ 1000 * pre.length) (t0 : ((⟨#[n]⟩ : Str) == Str.ofString "\"") = false) (t : ((⟨#[n]⟩ : Str) == Str.ofString "\\") = false) :
    acc ++ (⟨#[n]⟩ : Str) = putI mark slash (pre ++ [(n : Int)]) ∧ (acc ++ (⟨#[n]⟩ : Str)).length ≤ 1000 * (pre ++ [(n : Int)]).length := by
  rw [str_one (c := 34) (by decide), decide_eq_false_iff_not] at t0
  rw [str_one (c := 92) (by decide), decide_eq_false_iff_not] at t
  refine ⟨?_, ?_⟩
  · rw [putI_snoc, e, if_neg (by omega), if_neg (by omega)]; rfl
  rw [Str.length_append, List.length_append, List.length_singleton, len_one]
  omega

theorem put_spec {prog : Program} {w : World} {hd9 : Option Value} {dp un : Nat} {gd : Option (List Code)} {cn : Str} {cs : Scope} {a : Addr} {ccd : Value} {cl : List (Str × Addr)} {outer : List Env} {A₀ : Around} {base h₀ : Heap} {L : Addr} {m mg mb : Str → Option Value} {p : Program} {loose : List Str} {mean : ExcName → Option Value}
   {s : Shared} {Q E : Value → Shared → Prop} {part mark slash : Str} {t1 t2 t3 : Tok}
   (B : Below A₀ base outer h₀) (F : Fr h₀ L s.heap m) (X : (hd.heap_39 w.params).In h₀) (T : Top p loose mean mg mb h₀) (hk : cs.kind = .function)
   (hdp : dp + 1 < recursionLimit) (_hun : un + 8 < cLine) (hn : hd9 = none)
   (h1 : part.length ≤ 1000) (h2 : mark.length ≤ 1000) (h3 : slash.length ≤ 1000)
   (hret : ∀ r t h' tk', Stays s.heap h' → r = putI mark slash (KStt.codes part) → r.length ≤ 1000 * part.length → Q (.str r t) { s with heap := h', toks := tk' }) :
   wpAny (model prog w) (topA hd9 dp un gd cn cs L a ccd cl outer) (call (.ref 126) [.str part t1, .str mark t2, .str slash t3]) Q E s := by
  subst hn
  k_with_none
  w_top off
  (k_with "my ne" => (first | exact Nat.ne_of_beq_eq_false rfl | exact Nat.ne_of_lt (by with_reducible assumption) | exact Nat.ne_of_gt (by with_reducible assumption) | with_reducible assumption | exact Ne.symm (by with_reducible assumption) | exact Nat.ne_of_gt (cj0 (by with_reducible assumption)) | exact Nat.ne_of_gt (cj1 (by with_reducible assumption)) | exact Nat.ne_of_gt (ck1 (by with_reducible assumption)) | exact Nat.ne_of_gt (cj2 (by with_reducible assumption)) | exact Nat.ne_of_gt (ck2 (by with_reducible assumption)) | exact Nat.ne_of_gt (cj3 (by with_reducible assumption)) | exact Nat.ne_of_gt (ck3 (by with_reducible assumption)) | exact Nat.ne_of_gt (cj4 (by with_reducible assumption)) | exact Nat.ne_of_gt (ck4 (by with_reducible assumption)) | exact Nat.ne_of_gt (cj5 (by with_reducible assumption)) | exact Nat.ne_of_gt (ck5 (by with_reducible assumption)) | exact Nat.ne_of_gt (cj6 (by with_reducible assumption)) | exact Nat.ne_of_gt (ck6 (by with_reducible assumption)) | exact Nat.ne_of_gt (cj7 (by with_reducible assumption)) | exact Nat.ne_of_gt (ck7 (by with_reducible assumption)) | exact Nat.ne_of_gt (cj8 (by with_reducible assumption)) | exact Nat.ne_of_gt (ck8 (by with_reducible assumption)) | exact Nat.ne_of_gt (cj9 (by with_reducible assumption)) | exact Nat.ne_of_gt (ck9 (by with_reducible assumption)) | exact Nat.ne_of_gt (cj10 (by with_reducible assumption)) | exact Nat.ne_of_gt (ck10 (by with_reducible assumption)) | exact Nat.ne_of_gt (cj11 (by with_reducible assumption)) | exact Nat.ne_of_gt (ck11 (by with_reducible assumption)) | exact Nat.ne_of_gt (cj12 (by with_reducible assumption)) | exact Nat.ne_of_gt (ck12 (by with_reducible assumption)) | exact Nat.ne_of_gt (cj13 (by with_reducible assumption)) | exact Nat.ne_of_gt (ck13 (by with_reducible assumption)) | exact Nat.ne_of_gt (cj14 (by with_reducible assumption)) | exact Nat.ne_of_gt (ck14 (by with_reducible assumption)) | exact Nat.ne_of_gt (cj15 (by with_reducible assumption)) | exact Nat.ne_of_gt (ck15 (by with_reducible assumption)) | exact Nat.ne_of_gt (cj16 (by with_reducible assumption)) | exact Nat.ne_of_gt (ck16 (by with_reducible assumption)) | exact Nat.ne_of_lt (cj0 (by with_reducible assumption)) | exact Nat.ne_of_lt (cj1 (by with_reducible assumption)) | exact Nat.ne_of_lt (ck1 (by with_reducible assumption)) | exact Nat.ne_of_lt (cj2 (by with_reducible assumption)) | exact Nat.ne_of_lt (ck2 (by with_reducible assumption)) | exact Nat.ne_of_lt (cj3 (by with_reducible assumption)) | exact Nat.ne_of_lt (ck3 (by with_reducible assumption)) | exact Nat.ne_of_lt (cj4 (by with_reducible assumption)) | exact Nat.ne_of_lt (ck4 (by with_reducible assumption)) | exact Nat.ne_of_lt (cj5 (by with_reducible assumption)) | exact Nat.ne_of_lt (ck5 (by with_reducible assumption)) | exact Nat.ne_of_lt (cj6 (by with_reducible assumption)) | exact Nat.ne_of_lt (ck6 (by with_reducible assumption)) | exact Nat.ne_of_lt (cj7 (by with_reducible assumption)) | exact Nat.ne_of_lt (ck7 (by with_reducible assumption)) | exact Nat.ne_of_lt (cj8 (by with_reducible assumption)) | exact Nat.ne_of_lt (ck8 (by with_reducible assumption)) | exact Nat.ne_of_lt (cj9 (by with_reducible assumption)) | exact Nat.ne_of_lt (ck9 (by with_reducible assumption)) | exact Nat.ne_of_lt (cj10 (by with_reducible assumption)) | exact Nat.ne_of_lt (ck10 (by with_reducible assumption)) | exact Nat.ne_of_lt (cj11 (by with_reducible assumption)) | exact Nat.ne_of_lt (ck11 (by with_reducible assumption)) | exact Nat.ne_of_lt (cj12 (by with_reducible assumption)) | exact Nat.ne_of_lt (ck12 (by with_reducible assumption)) | exact Nat.ne_of_lt (cj13 (by with_reducible assumption)) | exact Nat.ne_of_lt (ck13 (by with_reducible assumption)) | exact Nat.ne_of_lt (cj14 (by with_reducible assumption)) | exact Nat.ne_of_lt (ck14 (by with_reducible assumption)) | exact Nat.ne_of_lt (cj15 (by with_reducible assumption)) | exact Nat.ne_of_lt (ck15 (by with_reducible assumption)) | exact Nat.ne_of_lt (cj16 (by with_reducible assumption)) | exact Nat.ne_of_lt (ck16 (by with_reducible assumption)) | exact ne_gtt (by with_reducible assumption) (cj0 (by with_reducible assumption)) | exact ne_gtt (by with_reducible assumption) (cj1 (by with_reducible assumption)) | exact ne_gtt (by with_reducible assumption) (ck1 (by with_reducible assumption)) | exact ne_gtt (by with_reducible assumption) (cj2 (by with_reducible assumption)) | exact ne_gtt (by with_reducible assumption) (ck2 (by with_reducible assumption)) | exact ne_gtt (by with_reducible assumption) (cj3 (by with_reducible assumption)) | exact ne_gtt (by with_reducible assumption) (ck3 (by with_reducible assumption)) | exact ne_gtt (by with_reducible assumption) (cj4 (by with_reducible assumption)) | exact ne_gtt (by with_reducible assumption) (ck4 (by with_reducible assumption)) | exact ne_gtt (by with_reducible assumption) (cj5 (by with_reducible assumption)) | exact ne_gtt (by with_reducible assumption) (ck5 (by with_reducible assumption)) | exact ne_gtt (by with_reducible assumption) (cj6 (by with_reducible assumption)) | exact ne_gtt (by with_reducible assumption) (ck6 (by with_reducible assumption)) | exact ne_gtt (by with_reducible assumption) (cj7 (by with_reducible assumption)) | exact ne_gtt (by with_reducible assumption) (ck7 (by with_reducible assumption)) | exact ne_gtt (by with_reducible assumption) (cj8 (by with_reducible assumption)) | exact ne_gtt (by with_reducible assumption) (ck8 (by with_reducible assumption)) | exact ne_gtt (by with_reducible assumption) (cj9 (by with_reducible assumption)) | exact ne_gtt (by with_reducible assumption) (ck9 (by with_reducible assumption)) | exact ne_gtt (by with_reducible assumption) (cj10 (by with_reducible assumption)) | exact ne_gtt (by with_reducible assumption) (ck10 (by with_reducible assumption)) | exact ne_gtt (by with_reducible assumption) (cj11 (by with_reducible assumption)) | exact ne_gtt (by with_reducible assumption) (ck11 (by with_reducible assumption)) | exact ne_gtt (by with_reducible assumption) (cj12 (by with_reducible assumption)) | exact ne_gtt (by with_reducible assumption) (ck12 (by with_reducible assumption)) | exact ne_gtt (by with_reducible assumption) (cj13 (by with_reducible assumption)) | exact ne_gtt (by with_reducible assumption) (ck13 (by with_reducible assumption)) | exact ne_gtt (by with_reducible assumption) (cj14 (by with_reducible assumption)) | exact ne_gtt (by with_reducible assumption) (ck14 (by with_reducible assumption)) | exact ne_gtt (by with_reducible assumption) (cj15 (by with_reducible assumption)) | exact ne_gtt (by with_reducible assumption) (ck15 (by with_reducible assumption)) | exact ne_gtt (by with_reducible assumption) (cj16 (by with_reducible assumption)) | exact ne_gtt (by with_reducible assumption) (ck16 (by with_reducible assumption)) | exact ne_ltt (by with_reducible assumption) (cj0 (by with_reducible assumption)) | exact ne_ltt (by with_reducible assumption) (cj1 (by with_reducible assumption)) | exact ne_ltt (by with_reducible assumption) (ck1 (by with_reducible assumption)) | exact ne_ltt (by with_reducible assumption) (cj2 (by with_reducible assumption)) | exact ne_ltt (by with_reducible assumption) (ck2 (by with_reducible assumption)) | exact ne_ltt (by with_reducible assumption) (cj3 (by with_reducible assumption)) | exact ne_ltt (by with_reducible assumption) (ck3 (by with_reducible assumption)) | exact ne_ltt (by with_reducible assumption) (cj4 (by with_reducible assumption)) | exact ne_ltt (by with_reducible assumption) (ck4 (by with_reducible assumption)) | exact ne_ltt (by with_reducible assumption) (cj5 (by with_reducible assumption)) | exact ne_ltt (by with_reducible assumption) (ck5 (by with_reducible assumption)) | exact ne_ltt (by with_reducible assumption) (cj6 (by with_reducible assumption)) | exact ne_ltt (by with_reducible assumption) (ck6 (by with_reducible assumption)) | exact ne_ltt (by with_reducible assumption) (cj7 (by with_reducible assumption)) | exact ne_ltt (by with_reducible assumption) (ck7 (by with_reducible assumption)) | exact ne_ltt (by with_reducible assumption) (cj8 (by with_reducible assumption)) | exact ne_ltt (by with_reducible assumption) (ck8 (by with_reducible assumption)) | exact ne_ltt (by with_reducible assumption) (cj9 (by with_reducible assumption)) | exact ne_ltt (by with_reducible assumption) (ck9 (by with_reducible assumption)) | exact ne_ltt (by with_reducible assumption) (cj10 (by with_reducible assumption)) | exact ne_ltt (by with_reducible assumption) (ck10 (by with_reducible assumption)) | exact ne_ltt (by with_reducible assumption) (cj11 (by with_reducible assumption)) | exact ne_ltt (by with_reducible assumption) (ck11 (by with_reducible assumption)) | exact ne_ltt (by with_reducible assumption) (cj12 (by with_reducible assumption)) | exact ne_ltt (by with_reducible assumption) (ck12 (by with_reducible assumption)) | exact ne_ltt (by with_reducible assumption) (cj13 (by with_reducible assumption)) | exact ne_ltt (by with_reducible assumption) (ck13 (by with_reducible assumption)) | exact ne_ltt (by with_reducible assumption) (cj14 (by with_reducible assumption)) | exact ne_ltt (by with_reducible assumption) (ck14 (by with_reducible assumption)) | exact ne_ltt (by with_reducible assumption) (cj15 (by with_reducible assumption)) | exact ne_ltt (by with_reducible assumption) (ck15 (by with_reducible assumption)) | exact ne_ltt (by with_reducible assumption) (cj16 (by with_reducible assumption)) | exact ne_ltt (by with_reducible assumption) (ck16 (by with_reducible assumption)) | exact (cj0 (by with_reducible assumption)) | exact (cj1 (by with_reducible assumption)) | exact (ck1 (by with_reducible assumption)) | exact (cj2 (by with_reducible assumption)) | exact (ck2 (by with_reducible assumption)) | exact (cj3 (by with_reducible assumption)) | exact (ck3 (by with_reducible assumption)) | exact (cj4 (by with_reducible assumption)) | exact (ck4 (by with_reducible assumption)) | exact (cj5 (by with_reducible assumption)) | exact (ck5 (by with_reducible assumption)) | exact (cj6 (by with_reducible assumption)) | exact (ck6 (by with_reducible assumption)) | exact (cj7 (by with_reducible assumption)) | exact (ck7 (by with_reducible assumption)) | exact (cj8 (by with_reducible assumption)) | exact (ck8 (by with_reducible assumption)) | exact (cj9 (by with_reducible assumption)) | exact (ck9 (by with_reducible assumption)) | exact (cj10 (by with_reducible assumption)) | exact (ck10 (by with_reducible assumption)) | exact (cj11 (by with_reducible assumption)) | exact (ck11 (by with_reducible assumption)) | exact (cj12 (by with_reducible assumption)) | exact (ck12 (by with_reducible assumption)) | exact (cj13 (by with_reducible assumption)) | exact (ck13 (by with_reducible assumption)) | exact (cj14 (by with_reducible assumption)) | exact (ck14 (by with_reducible assumption)) | exact (cj15 (by with_reducible assumption)) | exact (ck15 (by with_reducible assumption)) | exact (cj16 (by with_reducible assumption)) | exact (ck16 (by with_reducible assumption)) | exact Ne.symm (cj0 (by with_reducible assumption)) | exact Ne.symm (cj1 (by with_reducible assumption)) | exact Ne.symm (ck1 (by with_reducible assumption)) | exact Ne.symm (cj2 (by with_reducible assumption)) | exact Ne.symm (ck2 (by with_reducible assumption)) | exact Ne.symm (cj3 (by with_reducible assumption)) | exact Ne.symm (ck3 (by with_reducible assumption)) | exact Ne.symm (cj4 (by with_reducible assumption)) | exact Ne.symm (ck4 (by with_reducible assumption)) | exact Ne.symm (cj5 (by with_reducible assumption)) | exact Ne.symm (ck5 (by with_reducible assumption)) | exact Ne.symm (cj6 (by with_reducible assumption)) | exact Ne.symm (ck6 (by with_reducible assumption)) | exact Ne.symm (cj7 (by with_reducible assumption)) | exact Ne.symm (ck7 (by with_reducible assumption)) | exact Ne.symm (cj8 (by with_reducible assumption)) | exact Ne.symm (ck8 (by with_reducible assumption)) | exact Ne.symm (cj9 (by with_reducible assumption)) | exact Ne.symm (ck9 (by with_reducible assumption)) | exact Ne.symm (cj10 (by with_reducible assumption)) | exact Ne.symm (ck10 (by with_reducible assumption)) | exact Ne.symm (cj11 (by with_reducible assumption)) | exact Ne.symm (ck11 (by with_reducible assumption)) | exact Ne.symm (cj12 (by with_reducible assumption)) | exact Ne.symm (ck12 (by with_reducible assumption)) | exact Ne.symm (cj13 (by with_reducible assumption)) | exact Ne.symm (ck13 (by with_reducible assumption)) | exact Ne.symm (cj14 (by with_reducible assumption)) | exact Ne.symm (ck14 (by with_reducible assumption)) | exact Ne.symm (cj15 (by with_reducible assumption)) | exact Ne.symm (ck15 (by with_reducible assumption)) | exact Ne.symm (cj16 (by with_reducible assumption)) | exact Ne.symm (ck16 (by with_reducible assumption)) | exact (cj0 (cj0 (by with_reducible assumption))) | exact (cj1 (cj0 (by with_reducible assumption))) | exact (ck2 (cj0 (by with_reducible assumption))) | exact (cj0 (cj1 (by with_reducible assumption))) | exact (cj1 (cj1 (by with_reducible assumption))) | exact (ck2 (cj1 (by with_reducible assumption))) | exact (cj0 (ck1 (by with_reducible assumption))) | exact (cj1 (ck1 (by with_reducible assumption))) | exact (ck2 (ck1 (by with_reducible assumption))) | exact (cj0 (cj2 (by with_reducible assumption))) | exact (cj1 (cj2 (by with_reducible assumption))) | exact (ck2 (cj2 (by with_reducible assumption))) | exact (cj0 (ck2 (by with_reducible assumption))) | exact (cj1 (ck2 (by with_reducible assumption))) | exact (ck2 (ck2 (by with_reducible assumption))) | exact (cj0 (cj3 (by with_reducible assumption))) | exact (cj1 (cj3 (by with_reducible assumption))) | exact (ck2 (cj3 (by with_reducible assumption))) | exact (cj0 (ck3 (by with_reducible assumption))) | exact (cj1 (ck3 (by with_reducible assumption))) | exact (ck2 (ck3 (by with_reducible assumption))) | exact (cj0 (cj4 (by with_reducible assumption))) | exact (cj1 (cj4 (by with_reducible assumption))) | exact (ck2 (cj4 (by with_reducible assumption))) | exact (cj0 (ck4 (by with_reducible assumption))) | exact (cj1 (ck4 (by with_reducible assumption))) | exact (ck2 (ck4 (by with_reducible assumption))) | exact (cj0 (cj5 (by with_reducible assumption))) | exact (cj1 (cj5 (by with_reducible assumption))) | exact (ck2 (cj5 (by with_reducible assumption))) | exact (cj0 (ck5 (by with_reducible assumption))) | exact (cj1 (ck5 (by with_reducible assumption))) | exact (ck2 (ck5 (by with_reducible assumption))) | exact (cj0 (cj6 (by with_reducible assumption))) | exact (cj1 (cj6 (by with_reducible assumption))) | exact (ck2 (cj6 (by with_reducible assumption))) | exact (cj0 (ck6 (by with_reducible assumption))) | exact (cj1 (ck6 (by with_reducible assumption))) | exact (ck2 (ck6 (by with_reducible assumption))) | exact (cj0 (cj7 (by with_reducible assumption))) | exact (cj1 (cj7 (by with_reducible assumption))) | exact (ck2 (cj7 (by with_reducible assumption))) | exact (cj0 (ck7 (by with_reducible assumption))) | exact (cj1 (ck7 (by with_reducible assumption))) | exact (ck2 (ck7 (by with_reducible assumption))) | exact (cj0 (cj8 (by with_reducible assumption))) | exact (cj1 (cj8 (by with_reducible assumption))) | exact (ck2 (cj8 (by with_reducible assumption))) | exact (cj0 (ck8 (by with_reducible assumption))) | exact (cj1 (ck8 (by with_reducible assumption))) | exact (ck2 (ck8 (by with_reducible assumption))) | exact Ne.symm (cj0 (cj0 (by with_reducible assumption))) | exact Ne.symm (cj1 (cj0 (by with_reducible assumption))) | exact Ne.symm (ck2 (cj0 (by with_reducible assumption))) | exact Ne.symm (cj0 (cj1 (by with_reducible assumption))) | exact Ne.symm (cj1 (cj1 (by with_reducible assumption))) | exact Ne.symm (ck2 (cj1 (by with_reducible assumption))) | exact Ne.symm (cj0 (ck1 (by with_reducible assumption))) | exact Ne.symm (cj1 (ck1 (by with_reducible assumption))) | exact Ne.symm (ck2 (ck1 (by with_reducible assumption))) | exact Ne.symm (cj0 (cj2 (by with_reducible assumption))) | exact Ne.symm (cj1 (cj2 (by with_reducible assumption))) | exact Ne.symm (ck2 (cj2 (by with_reducible assumption))) | exact Ne.symm (cj0 (ck2 (by with_reducible assumption))) | exact Ne.symm (cj1 (ck2 (by with_reducible assumption))) | exact Ne.symm (ck2 (ck2 (by with_reducible assumption))) | exact Ne.symm (cj0 (cj3 (by with_reducible assumption))) | exact Ne.symm (cj1 (cj3 (by with_reducible assumption))) | exact Ne.symm (ck2 (cj3 (by with_reducible assumption))) | exact Ne.symm (cj0 (ck3 (by with_reducible assumption))) | exact Ne.symm (cj1 (ck3 (by with_reducible assumption))) | exact Ne.symm (ck2 (ck3 (by with_reducible assumption))) | exact Ne.symm (cj0 (cj4 (by with_reducible assumption))) | exact Ne.symm (cj1 (cj4 (by with_reducible assumption))) | exact Ne.symm (ck2 (cj4 (by with_reducible assumption))) | exact Ne.symm (cj0 (ck4 (by with_reducible assumption))) | exact Ne.symm (cj1 (ck4 (by with_reducible assumption))) | exact Ne.symm (ck2 (ck4 (by with_reducible assumption))) | exact Ne.symm (cj0 (cj5 (by with_reducible assumption))) | exact Ne.symm (cj1 (cj5 (by with_reducible assumption))) | exact Ne.symm (ck2 (cj5 (by with_reducible assumption))) | exact Ne.symm (cj0 (ck5 (by with_reducible assumption))) | exact Ne.symm (cj1 (ck5 (by with_reducible assumption))) | exact Ne.symm (ck2 (ck5 (by with_reducible assumption))) | exact Ne.symm (cj0 (cj6 (by with_reducible assumption))) | exact Ne.symm (cj1 (cj6 (by with_reducible assumption))) | exact Ne.symm (ck2 (cj6 (by with_reducible assumption))) | exact Ne.symm (cj0 (ck6 (by with_reducible assumption))) | exact Ne.symm (cj1 (ck6 (by with_reducible assumption))) | exact Ne.symm (ck2 (ck6 (by with_reducible assumption))) | exact Ne.symm (cj0 (cj7 (by with_reducible assumption))) | exact Ne.symm (cj1 (cj7 (by with_reducible assumption))) | exact Ne.symm (ck2 (cj7 (by with_reducible assumption))) | exact Ne.symm (cj0 (ck7 (by with_reducible assumption))) | exact Ne.symm (cj1 (ck7 (by with_reducible assumption))) | exact Ne.symm (ck2 (ck7 (by with_reducible assumption))) | exact Ne.symm (cj0 (cj8 (by with_reducible assumption))) | exact Ne.symm (cj1 (cj8 (by with_reducible assumption))) | exact Ne.symm (ck2 (cj8 (by with_reducible assumption))) | exact Ne.symm (cj0 (ck8 (by with_reducible assumption))) | exact Ne.symm (cj1 (ck8 (by with_reducible assumption))) | exact Ne.symm (ck2 (ck8 (by with_reducible assumption)))))
  refine wpAny_call ?_
  k_dflt (refine' code_pure (binds := [(Str.ofString "part", Value.str part t1), (Str.ofString "mark", Value.str mark t2), (Str.ofString "slash", Value.str slash t3)]) ?k1 ?k2 ?k3 ?k5 ?kA ?kF ?kK ?k6 ?k7 ?k8 ?k9 ?kB ?_ ?c2 ?c3 ?c4 ?c5; (case kA => exact rfl); (case kF => exact rfl); (case kK => assumption); (case k1 => k_asm); (case k2 => k_asm); (case k3 => k_asm); (case k5 => k_asm); (case k6 => k_is); (case k7 => k_is); (case k8 => ktr_room); (case k9 => exact BindsTo.of_eq rfl); (case c5 => decide); (case kB => exact locs rfl); (case c2 => exact rfl); (case c3 => exact rfl); (case c4 => exact rfl); k_whole; intro L' h' F' N' B' X' T'; (try dsimp only); (try k_fold))
  (k_with "pyIter str" => k_state (fun pre put => put = putI mark slash pre ∧ put.length ≤ 1000 * pre.length) "put")
  (k_with "state" => first | exact put_q (by assumption) (by assumption) (by assumption) (by assumption) | exact put_b (by assumption) (by assumption) (by assumption) (by assumption) (by assumption) | exact put_o (by assumption) (by assumption) (by assumption) (by assumption))
  k_steps
  all_goals (refine hret _ _ _ _ (Fr.keep (by assumption)) (by assumption) (by assumption))

def frameF (hand : Int) (bare : Bool) : Str × Str :=
  if hand = 0 then (Str.ofString "257 \"", Str.ofString "\" is \"\\") else if bare then (Str.ofString "k=", Str.ofString "; v") else (Str.ofString "k=\"", Str.ofString "\"; v")

theorem frame_spec {prog : Program} {w : World} {hd9 : Option Value} {dp un : Nat} {gd : Option (List Code)} {cn : Str} {cs : Scope} {a : Addr} {ccd : Value} {cl : List (Str × Addr)} {outer : List Env} {A₀ : Around} {base h₀ : Heap} {L : Addr} {m mg mb : Str → Option Value} {p : Program} {loose : List Str} {mean : ExcName → Option Value}
   {s : Shared} {Q E : Value → Shared → Prop} {hand : Int} {bare : Bool} {t1 : Tok}
   (B : Below A₀ base outer h₀) (F : Fr h₀ L s.heap m) (X : (hd.heap_39 w.params).In h₀) (T : Top p loose mean mg mb h₀) (hk : cs.kind = .function)
   (hdp : dp + 1 < recursionLimit) (_hun : un + 8 < cLine) (hn : hd9 = none)
   (hret : ∀ x b1 b2 u1 u2 n h' tk', Stays s.heap h' → s.heap.get? x = none → h'.get? x = some { cls := .type "tuple", data := .seq #[.str b1 u1, .str b2 u2] n } → (b1, b2) = frameF hand bare → b1.length ≤ 10 → b2.length ≤ 10 → Q (.ref x) { s with heap := h', toks := tk' }) :
   wpAny (model prog w) (topA hd9 dp un gd cn cs L a ccd cl outer) (call (.ref 133) [.int hand t1, .bool bare]) Q E s := by
  subst hn
  k_with_none
  w_top off
  (k_with "my ne" => (first | exact Nat.ne_of_beq_eq_false rfl | exact Nat.ne_of_lt (by with_reducible assumption) | exact Nat.ne_of_gt (by with_reducible assumption) | with_reducible assumption | exact Ne.symm (by with_reducible assumption) | exact Nat.ne_of_gt (cj0 (by with_reducible assumption)) | exact Nat.ne_of_gt (cj1 (by with_reducible assumption)) | exact Nat.ne_of_gt (ck1 (by with_reducible assumption)) | exact Nat.ne_of_gt (cj2 (by with_reducible assumption)) | exact Nat.ne_of_gt (ck2 (by with_reducible assumption)) | exact Nat.ne_of_gt (cj3 (by with_reducible assumption)) | exact Nat.ne_of_gt (ck3 (by with_reducible assumption)) | exact Nat.ne_of_gt (cj4 (by with_reducible assumption)) | exact Nat.ne_of_gt (ck4 (by with_reducible assumption)) | exact Nat.ne_of_gt (cj5 (by with_reducible assumption)) | exact Nat.ne_of_gt (ck5 (by with_reducible assumption)) | exact Nat.ne_of_gt (cj6 (by with_reducible assumption)) | exact Nat.ne_of_gt (ck6 (by with_reducible assumption)) | exact Nat.ne_of_gt (cj7 (by with_reducible assumption)) | exact Nat.ne_of_gt (ck7 (by with_reducible assumption)) | exact Nat.ne_of_gt (cj8 (by with_reducible assumption)) | exact Nat.ne_of_gt (ck8 (by with_reducible assumption)) | exact Nat.ne_of_gt (cj9 (by with_reducible assumption)) | exact Nat.ne_of_gt (ck9 (by with_reducible assumption)) | exact Nat.ne_of_gt (cj10 (by with_reducible assumption)) | exact Nat.ne_of_gt (ck10 (by with_reducible assumption)) | exact Nat.ne_of_gt (cj11 (by with_reducible assumption)) | exact Nat.ne_of_gt (ck11 (by with_reducible assumption)) | exact Nat.ne_of_gt (cj12 (by with_reducible assumption)) | exact Nat.ne_of_gt (ck12 (by with_reducible assumption)) | exact Nat.ne_of_gt (cj13 (by with_reducible assumption)) | exact Nat.ne_of_gt (ck13 (by with_reducible assumption)) | exact Nat.ne_of_gt (cj14 (by with_reducible assumption)) | exact Nat.ne_of_gt (ck14 (by with_reducible assumption)) | exact Nat.ne_of_gt (cj15 (by with_reducible assumption)) | exact Nat.ne_of_gt (ck15 (by with_reducible assumption)) | exact Nat.ne_of_gt (cj16 (by with_reducible assumption)) | exact Nat.ne_of_gt (ck16 (by with_reducible assumption)) | exact Nat.ne_of_lt (cj0 (by with_reducible assumption)) | exact Nat.ne_of_lt (cj1 (by with_reducible assumption)) | exact Nat.ne_of_lt (ck1 (by with_reducible assumption)) | exact Nat.ne_of_lt (cj2 (by with_reducible assumption)) | exact Nat.ne_of_lt (ck2 (by with_reducible assumption)) | exact Nat.ne_of_lt (cj3 (by with_reducible assumption)) | exact Nat.ne_of_lt (ck3 (by with_reducible assumption)) | exact Nat.ne_of_lt (cj4 (by with_reducible assumption)) | exact Nat.ne_of_lt (ck4 (by with_reducible assumption)) | exact Nat.ne_of_lt (cj5 (by with_reducible assumption)) | exact Nat.ne_of_lt (ck5 (by with_reducible assumption)) | exact Nat.ne_of_lt (cj6 (by with_reducible assumption)) | exact Nat.ne_of_lt (ck6 (by with_reducible assumption)) | exact Nat.ne_of_lt (cj7 (by with_reducible assumption)) | exact Nat.ne_of_lt (ck7 (by with_reducible assumption)) | exact Nat.ne_of_lt (cj8 (by with_reducible assumption)) | exact Nat.ne_of_lt (ck8 (by with_reducible assumption)) | exact Nat.ne_of_lt (cj9 (by with_reducible assumption)) | exact Nat.ne_of_lt (ck9 (by with_reducible assumption)) | exact Nat.ne_of_lt (cj10 (by with_reducible assumption)) | exact Nat.ne_of_lt (ck10 (by with_reducible assumption)) | exact Nat.ne_of_lt (cj11 (by with_reducible assumption)) | exact Nat.ne_of_lt (ck11 (by with_reducible assumption)) | exact Nat.ne_of_lt (cj12 (by with_reducible assumption)) | exact Nat.ne_of_lt (ck12 (by with_reducible assumption)) | exact Nat.ne_of_lt (cj13 (by with_reducible assumption)) | exact Nat.ne_of_lt (ck13 (by with_reducible assumption)) | exact Nat.ne_of_lt (cj14 (by with_reducible assumption)) | exact Nat.ne_of_lt (ck14 (by with_reducible assumption)) | exact Nat.ne_of_lt (cj15 (by with_reducible assumption)) | exact Nat.ne_of_lt (ck15 (by with_reducible assumption)) | exact Nat.ne_of_lt (cj16 (by with_reducible assumption)) | exact Nat.ne_of_lt (ck16 (by with_reducible assumption)) | exact ne_gtt (by with_reducible assumption) (cj0 (by with_reducible assumption)) | exact ne_gtt (by with_reducible assumption) (cj1 (by with_reducible assumption)) | exact ne_gtt (by with_reducible assumption) (ck1 (by with_reducible assumption)) | exact ne_gtt (by with_reducible assumption) (cj2 (by with_reducible assumption)) | exact ne_gtt (by with_reducible assumption) (ck2 (by with_reducible assumption)) | exact ne_gtt (by with_reducible assumption) (cj3 (by with_reducible assumption)) | exact ne_gtt (by with_reducible assumption) (ck3 (by with_reducible assumption)) | exact ne_gtt (by with_reducible assumption) (cj4 (by with_reducible assumption)) | exact ne_gtt (by with_reducible assumption) (ck4 (by with_reducible assumption)) | exact ne_gtt (by with_reducible assumption) (cj5 (by with_reducible assumption)) | exact ne_gtt (by with_reducible assumption) (ck5 (by with_reducible assumption)) | exact ne_gtt (by with_reducible assumption) (cj6 (by with_reducible assumption)) | exact ne_gtt (by with_reducible assumption) (ck6 (by with_reducible assumption)) | exact ne_gtt (by with_reducible assumption) (cj7 (by with_reducible assumption)) | exact ne_gtt (by with_reducible assumption) (ck7 (by with_reducible assumption)) | exact ne_gtt (by with_reducible assumption) (cj8 (by with_reducible assumption)) | exact ne_gtt (by with_reducible assumption) (ck8 (by with_reducible assumption)) | exact ne_gtt (by with_reducible assumption) (cj9 (by with_reducible assumption)) | exact ne_gtt (by with_reducible assumption) (ck9 (by with_reducible assumption)) | exact ne_gtt (by with_reducible assumption) (cj10 (by with_reducible assumption)) | exact ne_gtt (by with_reducible assumption) (ck10 (by with_reducible assumption)) | exact ne_gtt (by with_reducible assumption) (cj11 (by with_reducible assumption)) | exact ne_gtt (by with_reducible assumption) (ck11 (by with_reducible assumption)) | exact ne_gtt (by with_reducible assumption) (cj12 (by with_reducible assumption)) | exact ne_gtt (by with_reducible assumption) (ck12 (by with_reducible assumption)) | exact ne_gtt (by with_reducible assumption) (cj13 (by with_reducible assumption)) | exact ne_gtt (by with_reducible assumption) (ck13 (by with_reducible assumption)) | exact ne_gtt (by with_reducible assumption) (cj14 (by with_reducible assumption)) | exact ne_gtt (by with_reducible assumption) (ck14 (by with_reducible assumption)) | exact ne_gtt (by with_reducible assumption) (cj15 (by with_reducible assumption)) | exact ne_gtt (by with_reducible assumption) (ck15 (by with_reducible assumption)) | exact ne_gtt (by with_reducible assumption) (cj16 (by with_reducible assumption)) | exact ne_gtt (by with_reducible assumption) (ck16 (by with_reducible assumption)) | exact ne_ltt (by with_reducible assumption) (cj0 (by with_reducible assumption)) | exact ne_ltt (by with_reducible assumption) (cj1 (by with_reducible assumption)) | exact ne_ltt (by with_reducible assumption) (ck1 (by with_reducible assumption)) | exact ne_ltt (by with_reducible assumption) (cj2 (by with_reducible assumption)) | exact ne_ltt (by with_reducible assumption) (ck2 (by with_reducible assumption)) | exact ne_ltt (by with_reducible assumption) (cj3 (by with_reducible assumption)) | exact ne_ltt (by with_reducible assumption) (ck3 (by with_reducible assumption)) | exact ne_ltt (by with_reducible assumption) (cj4 (by with_reducible assumption)) | exact ne_ltt (by with_reducible assumption) (ck4 (by with_reducible assumption)) | exact ne_ltt (by with_reducible assumption) (cj5 (by with_reducible assumption)) | exact ne_ltt (by with_reducible assumption) (ck5 (by with_reducible assumption)) | exact ne_ltt (by with_reducible assumption) (cj6 (by with_reducible assumption)) | exact ne_ltt (by with_reducible assumption) (ck6 (by with_reducible assumption)) | exact ne_ltt (by with_reducible assumption) (cj7 (by with_reducible assumption)) | exact ne_ltt (by with_reducible assumption) (ck7 (by with_reducible assumption)) | exact ne_ltt (by with_reducible assumption) (cj8 (by with_reducible assumption)) | exact ne_ltt (by with_reducible assumption) (ck8 (by with_reducible assumption)) | exact ne_ltt (by with_reducible assumption) (cj9 (by with_reducible assumption)) | exact ne_ltt (by with_reducible assumption) (ck9 (by with_reducible assumption)) | exact ne_ltt (by with_reducible assumption) (cj10 (by with_reducible assumption)) | exact ne_ltt (by with_reducible assumption) (ck10 (by with_reducible assumption)) | exact ne_ltt (by with_reducible assumption) (cj11 (by with_reducible assumption)) | exact ne_ltt (by with_reducible assumption) (ck11 (by with_reducible assumption)) | exact ne_ltt (by with_reducible assumption) (cj12 (by with_reducible assumption)) | exact ne_ltt (by with_reducible assumption) (ck12 (by with_reducible assumption)) | exact ne_ltt (by with_reducible assumption) (cj13 (by with_reducible assumption)) | exact ne_ltt (by with_reducible assumption) (ck13 (by with_reducible assumption)) | exact ne_ltt (by with_reducible assumption) (cj14 (by with_reducible assumption)) | exact ne_ltt (by with_reducible assumption) (ck14 (by with_reducible assumption)) | exact ne_ltt (by with_reducible assumption) (cj15 (by with_reducible assumption)) | exact ne_ltt (by with_reducible assumption) (ck15 (by with_reducible assumption)) | exact ne_ltt (by with_reducible assumption) (cj16 (by with_reducible assumption)) | exact ne_ltt (by with_reducible assumption) (ck16 (by with_reducible assumption)) | exact (cj0 (by with_reducible assumption)) | exact (cj1 (by with_reducible assumption)) | exact (ck1 (by with_reducible assumption)) | exact (cj2 (by with_reducible assumption)) | exact (ck2 (by with_reducible assumption)) | exact (cj3 (by with_reducible assumption)) | exact (ck3 (by with_reducible assumption)) | exact (cj4 (by with_reducible assumption)) | exact (ck4 (by with_reducible assumption)) | exact (cj5 (by with_reducible assumption)) | exact (ck5 (by with_reducible assumption)) | exact (cj6 (by with_reducible assumption)) | exact (ck6 (by with_reducible assumption)) | exact (cj7 (by with_reducible assumption)) | exact (ck7 (by with_reducible assumption)) | exact (cj8 (by with_reducible assumption)) | exact (ck8 (by with_reducible assumption)) | exact (cj9 (by with_reducible assumption)) | exact (ck9 (by with_reducible assumption)) | exact (cj10 (by with_reducible assumption)) | exact (ck10 (by with_reducible assumption)) | exact (cj11 (by with_reducible assumption)) | exact (ck11 (by with_reducible assumption)) | exact (cj12 (by with_reducible assumption)) | exact (ck12 (by with_reducible assumption)) | exact (cj13 (by with_reducible assumption)) | exact (ck13 (by with_reducible assumption)) | exact (cj14 (by with_reducible assumption)) | exact (ck14 (by with_reducible assumption)) | exact (cj15 (by with_reducible assumption)) | exact (ck15 (by with_reducible assumption)) | exact (cj16 (by with_reducible assumption)) | exact (ck16 (by with_reducible assumption)) | exact Ne.symm (cj0 (by with_reducible assumption)) | exact Ne.symm (cj1 (by with_reducible assumption)) | exact Ne.symm (ck1 (by with_reducible assumption)) | exact Ne.symm (cj2 (by with_reducible assumption)) | exact Ne.symm (ck2 (by with_reducible assumption)) | exact Ne.symm (cj3 (by with_reducible assumption)) | exact Ne.symm (ck3 (by with_reducible assumption)) | exact Ne.symm (cj4 (by with_reducible assumption)) | exact Ne.symm (ck4 (by with_reducible assumption)) | exact Ne.symm (cj5 (by with_reducible assumption)) | exact Ne.symm (ck5 (by with_reducible assumption)) | exact Ne.symm (cj6 (by with_reducible assumption)) | exact Ne.symm (ck6 (by with_reducible assumption)) | exact Ne.symm (cj7 (by with_reducible assumption)) | exact Ne.symm (ck7 (by with_reducible assumption)) | exact Ne.symm (cj8 (by with_reducible assumption)) | exact Ne.symm (ck8 (by with_reducible assumption)) | exact Ne.symm (cj9 (by with_reducible assumption)) | exact Ne.symm (ck9 (by with_reducible assumption)) | exact Ne.symm (cj10 (by with_reducible assumption)) | exact Ne.symm (ck10 (by with_reducible assumption)) | exact Ne.symm (cj11 (by with_reducible assumption)) | exact Ne.symm (ck11 (by with_reducible assumption)) | exact Ne.symm (cj12 (by with_reducible assumption)) | exact Ne.symm (ck12 (by with_reducible assumption)) | exact Ne.symm (cj13 (by with_reducible assumption)) | exact Ne.symm (ck13 (by with_reducible assumption)) | exact Ne.symm (cj14 (by with_reducible assumption)) | exact Ne.symm (ck14 (by with_reducible assumption)) | exact Ne.symm (cj15 (by with_reducible assumption)) | exact Ne.symm (ck15 (by with_reducible assumption)) | exact Ne.symm (cj16 (by with_reducible assumption)) | exact Ne.symm (ck16 (by with_reducible assumption)) | exact (cj0 (cj0 (by with_reducible assumption))) | exact (cj1 (cj0 (by with_reducible assumption))) | exact (ck2 (cj0 (by with_reducible assumption))) | exact (cj0 (cj1 (by with_reducible assumption))) | exact (cj1 (cj1 (by with_reducible assumption))) | exact (ck2 (cj1 (by with_reducible assumption))) | exact (cj0 (ck1 (by with_reducible assumption))) | exact (cj1 (ck1 (by with_reducible assumption))) | exact (ck2 (ck1 (by with_reducible assumption))) | exact (cj0 (cj2 (by with_reducible assumption))) | exact (cj1 (cj2 (by with_reducible assumption))) | exact (ck2 (cj2 (by with_reducible assumption))) | exact (cj0 (ck2 (by with_reducible assumption))) | exact (cj1 (ck2 (by with_reducible assumption))) | exact (ck2 (ck2 (by with_reducible assumption))) | exact (cj0 (cj3 (by with_reducible assumption))) | exact (cj1 (cj3 (by with_reducible assumption))) | exact (ck2 (cj3 (by with_reducible assumption))) | exact (cj0 (ck3 (by with_reducible assumption))) | exact (cj1 (ck3 (by with_reducible assumption))) | exact (ck2 (ck3 (by with_reducible assumption))) | exact (cj0 (cj4 (by with_reducible assumption))) | exact (cj1 (cj4 (by with_reducible assumption))) | exact (ck2 (cj4 (by with_reducible assumption))) | exact (cj0 (ck4 (by with_reducible assumption))) | exact (cj1 (ck4 (by with_reducible assumption))) | exact (ck2 (ck4 (by with_reducible assumption))) | exact (cj0 (cj5 (by with_reducible assumption))) | exact (cj1 (cj5 (by with_reducible assumption))) | exact (ck2 (cj5 (by with_reducible assumption))) | exact (cj0 (ck5 (by with_reducible assumption))) | exact (cj1 (ck5 (by with_reducible assumption))) | exact (ck2 (ck5 (by with_reducible assumption))) | exact (cj0 (cj6 (by with_reducible assumption))) | exact (cj1 (cj6 (by with_reducible assumption))) | exact (ck2 (cj6 (by with_reducible assumption))) | exact (cj0 (ck6 (by with_reducible assumption))) | exact (cj1 (ck6 (by with_reducible assumption))) | exact (ck2 (ck6 (by with_reducible assumption))) | exact (cj0 (cj7 (by with_reducible assumption))) | exact (cj1 (cj7 (by with_reducible assumption))) | exact (ck2 (cj7 (by with_reducible assumption))) | exact (cj0 (ck7 (by with_reducible assumption))) | exact (cj1 (ck7 (by with_reducible assumption))) | exact (ck2 (ck7 (by with_reducible assumption))) | exact (cj0 (cj8 (by with_reducible assumption))) | exact (cj1 (cj8 (by with_reducible assumption))) | exact (ck2 (cj8 (by with_reducible assumption))) | exact (cj0 (ck8 (by with_reducible assumption))) | exact (cj1 (ck8 (by with_reducible assumption))) | exact (ck2 (ck8 (by with_reducible assumption))) | exact Ne.symm (cj0 (cj0 (by with_reducible assumption))) | exact Ne.symm (cj1 (cj0 (by with_reducible assumption))) | exact Ne.symm (ck2 (cj0 (by with_reducible assumption))) | exact Ne.symm (cj0 (cj1 (by with_reducible assumption))) | exact Ne.symm (cj1 (cj1 (by with_reducible assumption))) | exact Ne.symm (ck2 (cj1 (by with_reducible assumption))) | exact Ne.symm (cj0 (ck1 (by with_reducible assumption))) | exact Ne.symm (cj1 (ck1 (by with_reducible assumption))) | exact Ne.symm (ck2 (ck1 (by with_reducible assumption))) | exact Ne.symm (cj0 (cj2 (by with_reducible assumption))) | exact Ne.symm (cj1 (cj2 (by with_reducible assumption))) | exact Ne.symm (ck2 (cj2 (by with_reducible assumption))) | exact Ne.symm (cj0 (ck2 (by with_reducible assumption))) | exact Ne.symm (cj1 (ck2 (by with_reducible assumption))) | exact Ne.symm (ck2 (ck2 (by with_reducible assumption))) | exact Ne.symm (cj0 (cj3 (by with_reducible assumption))) | exact Ne.symm (cj1 (cj3 (by with_reducible assumption))) | exact Ne.symm (ck2 (cj3 (by with_reducible assumption))) | exact Ne.symm (cj0 (ck3 (by with_reducible assumption))) | exact Ne.symm (cj1 (ck3 (by with_reducible assumption))) | exact Ne.symm (ck2 (ck3 (by with_reducible assumption))) | exact Ne.symm (cj0 (cj4 (by with_reducible assumption))) | exact Ne.symm (cj1 (cj4 (by with_reducible assumption))) | exact Ne.symm (ck2 (cj4 (by with_reducible assumption))) | exact Ne.symm (cj0 (ck4 (by with_reducible assumption))) | exact Ne.symm (cj1 (ck4 (by with_reducible assumption))) | exact Ne.symm (ck2 (ck4 (by with_reducible assumption))) | exact Ne.symm (cj0 (cj5 (by with_reducible assumption))) | exact Ne.symm (cj1 (cj5 (by with_reducible assumption))) | exact Ne.symm (ck2 (cj5 (by with_reducible assumption))) | exact Ne.symm (cj0 (ck5 (by with_reducible assumption))) | exact Ne.symm (cj1 (ck5 (by with_reducible assumption))) | exact Ne.symm (ck2 (ck5 (by with_reducible assumption))) | exact Ne.symm (cj0 (cj6 (by with_reducible assumption))) | exact Ne.symm (cj1 (cj6 (by with_reducible assumption))) | exact Ne.symm (ck2 (cj6 (by with_reducible assumption))) | exact Ne.symm (cj0 (ck6 (by with_reducible assumption))) | exact Ne.symm (cj1 (ck6 (by with_reducible assumption))) | exact Ne.symm (ck2 (ck6 (by with_reducible assumption))) | exact Ne.symm (cj0 (cj7 (by with_reducible assumption))) | exact Ne.symm (cj1 (cj7 (by with_reducible assumption))) | exact Ne.symm (ck2 (cj7 (by with_reducible assumption))) | exact Ne.symm (cj0 (ck7 (by with_reducible assumption))) | exact Ne.symm (cj1 (ck7 (by with_reducible assumption))) | exact Ne.symm (ck2 (ck7 (by with_reducible assumption))) | exact Ne.symm (cj0 (cj8 (by with_reducible assumption))) | exact Ne.symm (cj1 (cj8 (by with_reducible assumption))) | exact Ne.symm (ck2 (cj8 (by with_reducible assumption))) | exact Ne.symm (cj0 (ck8 (by with_reducible assumption))) | exact Ne.symm (cj1 (ck8 (by with_reducible assumption))) | exact Ne.symm (ck2 (ck8 (by with_reducible assumption)))))
  refine wpAny_call ?_
  k_dflt (refine' code_pure (binds := [(Str.ofString "hand", Value.int hand t1), (Str.ofString "bare", Value.bool bare)]) ?k1 ?k2 ?k3 ?k5 ?kA ?kF ?kK ?k6 ?k7 ?k8 ?k9 ?kB ?_ ?c2 ?c3 ?c4 ?c5; (case kA => exact rfl); (case kF => exact rfl); (case kK => assumption); (case k1 => k_asm); (case k2 => k_asm); (case k3 => k_asm); (case k5 => k_asm); (case k6 => k_is); (case k7 => k_is); (case k8 => ktr_room); (case k9 => exact BindsTo.of_eq rfl); (case c5 => decide); (case kB => exact locs rfl); (case c2 => exact rfl); (case c3 => exact rfl); (case c4 => exact rfl); k_whole; intro L' h' F' N' B' X' T'; (try dsimp only); (try k_fold))
  k_steps
  all_goals ((rename News _ _ _ _ => NN); refine hret _ _ _ _ _ _ _ _ (Fr.keep (by assumption)) (NN _ (.head _)).2.2 (NN _ (.head _)).1 ?_ ?_ ?_ <;> first | decide | (simp only [frameF, *]; simp))
end Mine
end
section
open PySem PySem.W PySem.Calls PyProof.Rows
set_option maxHeartbeats 0
namespace Mine

theorem mat_method {M : Model} {A : Around} {E : Value → Shared → Prop} {s : Shared} {mo : Addr} {x : Str} {sp : Array Int} {name : Str} {id : String} {pl : Sem Bool} {Q : Value × List Value → Shared → Prop} (P : MatAt s.heap mo x sp)
    (slot : Slot "re.Match" name id) (hty : typeOf (.builtin id) = pure (.type "method_descriptor")) (h : Q (.builtin id, [.ref mo]) s) : wpAny M A (getMethod (.ref mo) name pl) Q E s :=
  getMethod_builtin P.typeIs Fc.plainAttrs_mat slot hty (fun a e => by cases e; obtain ⟨fs, oo, t, h1, h2, h3, _⟩ := P.obj; exact ⟨oo, h1, h3⟩) h
theorem pat_method {M : Model} {A : Around} {E : Value → Shared → Prop} {s : Shared} {pa : Addr} {code : Array Nat} {g : Nat} {name : Str} {id : String} {pl : Sem Bool} {Q : Value × List Value → Shared → Prop} (P : PatAt s.heap pa code g)
    (slot : Slot "re.Pattern" name id) (hty : typeOf (.builtin id) = pure (.type "method_descriptor")) (h : Q (.builtin id, [.ref pa]) s) : wpAny M A (getMethod (.ref pa) name pl) Q E s :=
  getMethod_builtin P.typeIs Fc.plainAttrs_pat slot hty (fun a e => by cases e; obtain ⟨fs, oo, h1, h2, h3, _⟩ := P.obj; exact ⟨oo, h1, h3⟩) h
theorem mat_now {h₀ h : Heap} {L mo : Addr} {m : Str → Option Value} {x : Str} {sp : Array Int} (P : MatAt h₀ mo x sp) (F : Fr h₀ L h m) : MatAt h mo x sp := P.keeps F.keep

theorem tuple_of_news {h₀ h : Heap} {L t : Addr} {news : List (Addr × Obj)} {items : Array Value} {n : Nat} (N : News h₀ L h news) (hm : (t, ({ cls := .type "tuple", data := .seq items n } : Obj)) ∈ news) : h.IsTuple t items := ⟨_, (N _ hm).1, rfl, n, rfl⟩
theorem hand_now {hd : Option Value} {h₀ h : Heap} {L : Addr} {m : Str → Option Value} (x : HandOk hd h₀) (F : Fr h₀ L h m) : HandOk hd h := x.keeps F.keep

/-- a text by its signs -/
abbrev S (l : List Nat) : Str := ⟨l.toArray⟩
theorem S_toList (x : Str) : S x.cps.toList = x := rfl
theorem slice_from (x : Str) (e : Nat) (he : e ≤ x.length) : Txt.slice x (some (e : Int)) none = S (x.cps.toList.drop e) := by
  have q : Txt.slice x (some (e : Int)) none = StrLaws.sliceText x (some (e : Int)) none := rfl
  have hl : x.cps.toList.length = x.length := by simp [Str.length]
  rw [q, StrLaws.sliceText_from ⟨by omega, by omega⟩]
  show S _ = S _
  rw [Int.toNat_natCast, List.take_of_length_le (by rw [List.length_drop]; omega)]
theorem slice_to (x : Str) (e : Nat) (he : e ≤ x.length) : Txt.slice x none (some (e : Int)) = S (x.cps.toList.take e) := by
  have q : Txt.slice x none (some (e : Int)) = StrLaws.sliceText x none (some (e : Int)) := rfl
  have hl : x.cps.toList.length = x.length := by simp [Str.length]
  rw [q, StrLaws.sliceText_to ⟨by omega, by omega⟩]
  show S _ = S _
  rw [List.drop_zero, Int.sub_zero, Int.toNat_natCast]
theorem S_append (a b : List Nat) : S a ++ S b = S (a ++ b) := by
  refine Str.ext' ?_
  rw [Str.cps_append]
  simp
theorem unmatched_eq (x : Str) (e : Nat) (he : e ≤ x.length) : Txt.slice x none (some 0) ++ Txt.slice x (some (e : Int)) none = S (x.cps.toList.drop e) := by
  rw [slice_from x e he]
  have := slice_to x 0 (Nat.zero_le _)
  rw [show (((0 : Nat) : Int)) = 0 from rfl] at this
  rw [this, List.take_zero, S_append, List.nil_append]
theorem unmatched_spec {prog : Program} {w : World} {hd9 : Option Value} {dp un : Nat} {gd : Option (List Code)} {cn : Str} {cs : Scope} {a : Addr} {ccd : Value} {cl : List (Str × Addr)} {outer : List Env} {A₀ : Around} {base h₀ : Heap} {L : Addr} {m mg mb : Str → Option Value} {p : Program} {loose : List Str} {mean : ExcName → Option Value}
   {s : Shared} {Q E : Value → Shared → Prop} {mo : Addr} {x : Str} {e b c : Nat}
   (B : Below A₀ base outer h₀) (F : Fr h₀ L s.heap m) (X : (hd.heap_39 w.params).In h₀) (T : Top p loose mean mg mb h₀) (hk : cs.kind = .function)
   (hdp : dp + 2 < recursionLimit) (hun : un + 100 < cLine) (hh : HandOk hd9 s.heap)
   (hm : MatAt s.heap mo x #[0, (e : Int), b, c]) (hx : x.length ≤ 1000000) (he : e ≤ x.length)
   (hret : ∀ r t h' tk', Stays s.heap h' → r = S (x.cps.toList.drop e) → Q (.str r t) { s with heap := h', toks := tk' }) :
   wpAny (model prog w) (topA hd9 dp un gd cn cs L a ccd cl outer) (call (.ref 43) [.ref mo]) Q E s := by
  k_with_none
  w_top off
  (k_with "my getMethod ref" => k_search (by ((k_here; k_dflt (first
  | refine mat_method (mat_now (by assumption) (by k_asm)) Fc.slot_span Fc.type_span ?_
  | refine mat_method (mat_now (by assumption) (by k_asm)) Fc.slot_group Fc.type_group ?_)))))
  (k_with "my call builtin:re.Match.span" => k_search (by ((k_here; k_dflt (refine call_span0 (mat_now (by assumption) (by k_asm)) ?_; intro zzx9 zzh9 zzK9 zzhx9 zzhy9; (have zzne9 := news_ne zzhx9 (by k_asm)); (simp only [AllNe, and_true] at zzne9); (have zzN9 := news_more (by k_asm) (by k_asm) zzK9 zzhx9 zzhy9); (have zzF9 := fr_on (by k_asm) zzK9); clear zzK9 zzhx9 zzhy9; (try k_sweep); (try dsimp only))))))
  (k_with "my assign Tuple" => k_search (by ((k_here; k_dflt (refine' assign_pair ?zzh ?zzt ?zzn ?_; (case zzh => exact hand_now (by assumption) (by k_asm)); (case zzt => exact tuple_of_news (by k_asm) (by k_mem)); (case zzn => rfl); intro zzh9 zzK9; (have zzF9 := fr_on (by k_asm) zzK9); (have zzN9 := news_on (by k_asm) zzK9); clear zzK9; (try k_sweep); (try dsimp only))))))
  (k_with "my getAttr ref" => k_search (by ((k_here; k_dflt (refine string_attr (mat_now (by assumption) (by k_asm)) ?_; intro zzt9; (try dsimp only))))))
  (k_with "my ne" => (first | exact Nat.ne_of_beq_eq_false rfl | exact Nat.ne_of_lt (by with_reducible assumption) | exact Nat.ne_of_gt (by with_reducible assumption) | with_reducible assumption | exact Ne.symm (by with_reducible assumption) | exact Nat.ne_of_gt (cj0 (by with_reducible assumption)) | exact Nat.ne_of_gt (cj1 (by with_reducible assumption)) | exact Nat.ne_of_gt (ck1 (by with_reducible assumption)) | exact Nat.ne_of_gt (cj2 (by with_reducible assumption)) | exact Nat.ne_of_gt (ck2 (by with_reducible assumption)) | exact Nat.ne_of_gt (cj3 (by with_reducible assumption)) | exact Nat.ne_of_gt (ck3 (by with_reducible assumption)) | exact Nat.ne_of_gt (cj4 (by with_reducible assumption)) | exact Nat.ne_of_gt (ck4 (by with_reducible assumption)) | exact Nat.ne_of_gt (cj5 (by with_reducible assumption)) | exact Nat.ne_of_gt (ck5 (by with_reducible assumption)) | exact Nat.ne_of_gt (cj6 (by with_reducible assumption)) | exact Nat.ne_of_gt (ck6 (by with_reducible assumption)) | exact Nat.ne_of_gt (cj7 (by with_reducible assumption)) | exact Nat.ne_of_gt (ck7 (by with_reducible assumption)) | exact Nat.ne_of_gt (cj8 (by with_reducible assumption)) | exact Nat.ne_of_gt (ck8 (by with_reducible assumption)) | exact Nat.ne_of_gt (cj9 (by with_reducible assumption)) | exact Nat.ne_of_gt (ck9 (by with_reducible assumption)) | exact Nat.ne_of_gt (cj10 (by with_reducible assumption)) | exact Nat.ne_of_gt (ck10 (by with_reducible assumption)) | exact Nat.ne_of_gt (cj11 (by with_reducible assumption)) | exact Nat.ne_of_gt (ck11 (by with_reducible assumption)) | exact Nat.ne_of_gt (cj12 (by with_reducible assumption)) | exact Nat.ne_of_gt (ck12 (by with_reducible assumption)) | exact Nat.ne_of_gt (cj13 (by with_reducible assumption)) | exact Nat.ne_of_gt (ck13 (by with_reducible assumption)) | exact Nat.ne_of_gt (cj14 (by with_reducible assumption)) | exact Nat.ne_of_gt (ck14 (by with_reducible assumption)) | exact Nat.ne_of_gt (cj15 (by with_reducible assumption)) | exact Nat.ne_of_gt (ck15 (by with_reducible assumption)) | exact Nat.ne_of_gt (cj16 (by with_reducible assumption)) | exact Nat.ne_of_gt (ck16 (by with_reducible assumption)) | exact Nat.ne_of_lt (cj0 (by with_reducible assumption)) | exact Nat.ne_of_lt (cj1 (by with_reducible assumption)) | exact Nat.ne_of_lt (ck1 (by with_reducible assumption)) | exact Nat.ne_of_lt (cj2 (by with_reducible assumption)) | exact Nat.ne_of_lt (ck2 (by with_reducible assumption)) | exact Nat.ne_of_lt (cj3 (by with_reducible assumption)) | exact Nat.ne_of_lt (ck3 (by with_reducible assumption)) | exact Nat.ne_of_lt (cj4 (by with_reducible assumption)) | exact Nat.ne_of_lt (ck4 (by with_reducible assumption)) | exact Nat.ne_of_lt (cj5 (by with_reducible assumption)) | exact Nat.ne_of_lt (ck5 (by with_reducible assumption)) | exact Nat.ne_of_lt (cj6 (by with_reducible assumption)) | exact Nat.ne_of_lt (ck6 (by with_reducible assumption)) | exact Nat.ne_of_lt (cj7 (by with_reducible assumption)) | exact Nat.ne_of_lt (ck7 (by with_reducible assumption)) | exact Nat.ne_of_lt (cj8 (by with_reducible assumption)) | exact Nat.ne_of_lt (ck8 (by with_reducible assumption)) | exact Nat.ne_of_lt (cj9 (by with_reducible assumption)) | exact Nat.ne_of_lt (ck9 (by with_reducible assumption)) | exact Nat.ne_of_lt (cj10 (by with_reducible assumption)) | exact Nat.ne_of_lt (ck10 (by with_reducible assumption)) | exact Nat.ne_of_lt (cj11 (by with_reducible assumption)) | exact Nat.ne_of_lt (ck11 (by with_reducible assumption)) | exact Nat.ne_of_lt (cj12 (by with_reducible assumption)) | exact Nat.ne_of_lt (ck12 (by with_reducible assumption)) | exact Nat.ne_of_lt (cj13 (by with_reducible assumption)) | exact Nat.ne_of_lt (ck13 (by with_reducible assumption)) | exact Nat.ne_of_lt (cj14 (by with_reducible assumption)) | exact Nat.ne_of_lt (ck14 (by with_reducible assumption)) | exact Nat.ne_of_lt (cj15 (by with_reducible assumption)) | exact Nat.ne_of_lt (ck15 (by with_reducible assumption)) | exact Nat.ne_of_lt (cj16 (by with_reducible assumption)) | exact Nat.ne_of_lt (ck16 (by with_reducible assumption)) | exact ne_gtt (by with_reducible assumption) (cj0 (by with_reducible assumption)) | exact ne_gtt (by with_reducible assumption) (cj1 (by with_reducible assumption)) | exact ne_gtt (by with_reducible assumption) (ck1 (by with_reducible assumption)) | exact ne_gtt (by with_reducible assumption) (cj2 (by with_reducible assumption)) | exact ne_gtt (by with_reducible assumption) (ck2 (by with_reducible assumption)) | exact ne_gtt (by with_reducible assumption) (cj3 (by with_reducible assumption)) | exact ne_gtt (by with_reducible assumption) (ck3 (by with_reducible assumption)) | exact ne_gtt (by with_reducible assumption) (cj4 (by with_reducible assumption)) | exact ne_gtt (by with_reducible assumption) (ck4 (by with_reducible assumption)) | exact ne_gtt (by with_reducible assumption) (cj5 (by with_reducible assumption)) | exact ne_gtt (by with_reducible assumption) (ck5 (by with_reducible assumption)) | exact ne_gtt (by with_reducible assumption) (cj6 (by with_reducible assumption)) | exact ne_gtt (by with_reducible assumption) (ck6 (by with_reducible assumption)) | exact ne_gtt (by with_reducible assumption) (cj7 (by with_reducible assumption)) | exact ne_gtt (by with_reducible assumption) (ck7 (by with_reducible assumption)) | exact ne_gtt (by with_reducible assumption) (cj8 (by with_reducible assumption)) | exact ne_gtt (by with_reducible assumption) (ck8 (by with_reducible assumption)) | exact ne_gtt (by with_reducible assumption) (cj9 (by with_reducible assumption)) | exact ne_gtt (by with_reducible assumption) (ck9 (by with_reducible assumption)) | exact ne_gtt (by with_reducible assumption) (cj10 (by with_reducible assumption)) | exact ne_gtt (by with_reducible assumption) (ck10 (by with_reducible assumption)) | exact ne_gtt (by with_reducible assumption) (cj11 (by with_reducible assumption)) | exact ne_gtt (by with_reducible assumption) (ck11 (by with_reducible assumption)) | exact ne_gtt (by with_reducible assumption) (cj12 (by with_reducible assumption)) | exact ne_gtt (by with_reducible assumption) (ck12 (by with_reducible assumption)) | exact ne_gtt (by with_reducible assumption) (cj13 (by with_reducible assumption)) | exact ne_gtt (by with_reducible assumption) (ck13 (by with_reducible assumption)) | exact ne_gtt (by with_reducible assumption) (cj14 (by with_reducible assumption)) | exact ne_gtt (by with_reducible assumption) (ck14 (by with_reducible assumption)) | exact ne_gtt (by with_reducible assumption) (cj15 (by with_reducible assumption)) | exact ne_gtt (by with_reducible assumption) (ck15 (by with_reducible assumption)) | exact ne_gtt (by with_reducible assumption) (cj16 (by with_reducible assumption)) | exact ne_gtt (by with_reducible assumption) (ck16 (by with_reducible assumption)) | exact ne_ltt (by with_reducible assumption) (cj0 (by with_reducible assumption)) | exact ne_ltt (by with_reducible assumption) (cj1 (by with_reducible assumption)) | exact ne_ltt (by with_reducible assumption) (ck1 (by with_reducible assumption)) | exact ne_ltt (by with_reducible assumption) (cj2 (by with_reducible assumption)) | exact ne_ltt (by with_reducible assumption) (ck2 (by with_reducible assumption)) | exact ne_ltt (by with_reducible assumption) (cj3 (by with_reducible assumption)) | exact ne_ltt (by with_reducible assumption) (ck3 (by with_reducible assumption)) | exact ne_ltt (by with_reducible assumption) (cj4 (by with_reducible assumption)) | exact ne_ltt (by with_reducible assumption) (ck4 (by with_reducible assumption)) | exact ne_ltt (by with_reducible assumption) (cj5 (by with_reducible assumption)) | exact ne_ltt (by with_reducible assumption) (ck5 (by with_reducible assumption)) | exact ne_ltt (by with_reducible assumption) (cj6 (by with_reducible assumption)) | exact ne_ltt (by with_reducible assumption) (ck6 (by with_reducible assumption)) | exact ne_ltt (by with_reducible assumption) (cj7 (by with_reducible assumption)) | exact ne_ltt (by with_reducible assumption) (ck7 (by with_reducible assumption)) | exact ne_ltt (by with_reducible assumption) (cj8 (by with_reducible assumption)) | exact ne_ltt (by with_reducible assumption) (ck8 (by with_reducible assumption)) | exact ne_ltt (by with_reducible assumption) (cj9 (by with_reducible assumption)) | exact ne_ltt (by with_reducible assumption) (ck9 (by with_reducible assumption)) | exact ne_ltt (by with_reducible assumption) (cj10 (by with_reducible assumption)) | exact ne_ltt (by with_reducible assumption) (ck10 (by with_reducible assumption)) | exact ne_ltt (by with_reducible assumption) (cj11 (by with_reducible assumption)) | exact ne_ltt (by with_reducible assumption) (ck11 (by with_reducible assumption)) | exact ne_ltt (by with_reducible assumption) (cj12 (by with_reducible assumption)) | exact ne_ltt (by with_reducible assumption) (ck12 (by with_reducible assumption)) | exact ne_ltt (by with_reducible assumption) (cj13 (by with_reducible assumption)) | exact ne_ltt (by with_reducible assumption) (ck13 (by with_reducible assumption)) | exact ne_ltt (by with_reducible assumption) (cj14 (by with_reducible assumption)) | exact ne_ltt (by with_reducible assumption) (ck14 (by with_reducible assumption)) | exact ne_ltt (by with_reducible assumption) (cj15 (by with_reducible assumption)) | exact ne_ltt (by with_reducible assumption) (ck15 (by with_reducible assumption)) | exact ne_ltt (by with_reducible assumption) (cj16 (by with_reducible assumption)) | exact ne_ltt (by with_reducible assumption) (ck16 (by with_reducible assumption)) | exact (cj0 (by with_reducible assumption)) | exact (cj1 (by with_reducible assumption)) | exact (ck1 (by with_reducible assumption)) | exact (cj2 (by with_reducible assumption)) | exact (ck2 (by with_reducible assumption)) | exact (cj3 (by with_reducible assumption)) | exact (ck3 (by with_reducible assumption)) | exact (cj4 (by with_reducible assumption)) | exact (ck4 (by with_reducible assumption)) | exact (cj5 (by with_reducible assumption)) | exact (ck5 (by with_reducible assumption)) | exact (cj6 (by with_reducible assumption)) | exact (ck6 (by with_reducible assumption)) | exact (cj7 (by with_reducible assumption)) | exact (ck7 (by with_reducible assumption)) | exact (cj8 (by with_reducible assumption)) | exact (ck8 (by with_reducible assumption)) | exact (cj9 (by with_reducible assumption)) | exact (ck9 (by with_reducible assumption)) | exact (cj10 (by with_reducible assumption)) | exact (ck10 (by with_reducible assumption)) | exact (cj11 (by with_reducible assumption)) | exact (ck11 (by with_reducible assumption)) | exact (cj12 (by with_reducible assumption)) | exact (ck12 (by with_reducible assumption)) | exact (cj13 (by with_reducible assumption)) | exact (ck13 (by with_reducible assumption)) | exact (cj14 (by with_reducible assumption)) | exact (ck14 (by with_reducible assumption)) | exact (cj15 (by with_reducible assumption)) | exact (ck15 (by with_reducible assumption)) | exact (cj16 (by with_reducible assumption)) | exact (ck16 (by with_reducible assumption)) | exact Ne.symm (cj0 (by with_reducible assumption)) | exact Ne.symm (cj1 (by with_reducible assumption)) | exact Ne.symm (ck1 (by with_reducible assumption)) | exact Ne.symm (cj2 (by with_reducible assumption)) | exact Ne.symm (ck2 (by with_reducible assumption)) | exact Ne.symm (cj3 (by with_reducible assumption)) | exact Ne.symm (ck3 (by with_reducible assumption)) | exact Ne.symm (cj4 (by with_reducible assumption)) | exact Ne.symm (ck4 (by with_reducible assumption)) | exact Ne.symm (cj5 (by with_reducible assumption)) | exact Ne.symm (ck5 (by with_reducible assumption)) | exact Ne.symm (cj6 (by with_reducible assumption)) | exact Ne.symm (ck6 (by with_reducible assumption)) | exact Ne.symm (cj7 (by with_reducible assumption)) | exact Ne.symm (ck7 (by with_reducible assumption)) | exact Ne.symm (cj8 (by with_reducible assumption)) | exact Ne.symm (ck8 (by with_reducible assumption)) | exact Ne.symm (cj9 (by with_reducible assumption)) | exact Ne.symm (ck9 (by with_reducible assumption)) | exact Ne.symm (cj10 (by with_reducible assumption)) | exact Ne.symm (ck10 (by with_reducible assumption)) | exact Ne.symm (cj11 (by with_reducible assumption)) | exact Ne.symm (ck11 (by with_reducible assumption)) | exact Ne.symm (cj12 (by with_reducible assumption)) | exact Ne.symm (ck12 (by with_reducible assumption)) | exact Ne.symm (cj13 (by with_reducible assumption)) | exact Ne.symm (ck13 (by with_reducible assumption)) | exact Ne.symm (cj14 (by with_reducible assumption)) | exact Ne.symm (ck14 (by with_reducible assumption)) | exact Ne.symm (cj15 (by with_reducible assumption)) | exact Ne.symm (ck15 (by with_reducible assumption)) | exact Ne.symm (cj16 (by with_reducible assumption)) | exact Ne.symm (ck16 (by with_reducible assumption)) | exact (cj0 (cj0 (by with_reducible assumption))) | exact (cj1 (cj0 (by with_reducible assumption))) | exact (ck2 (cj0 (by with_reducible assumption))) | exact (cj0 (cj1 (by with_reducible assumption))) | exact (cj1 (cj1 (by with_reducible assumption))) | exact (ck2 (cj1 (by with_reducible assumption))) | exact (cj0 (ck1 (by with_reducible assumption))) | exact (cj1 (ck1 (by with_reducible assumption))) | exact (ck2 (ck1 (by with_reducible assumption))) | exact (cj0 (cj2 (by with_reducible assumption))) | exact (cj1 (cj2 (by with_reducible assumption))) | exact (ck2 (cj2 (by with_reducible assumption))) | exact (cj0 (ck2 (by with_reducible assumption))) | exact (cj1 (ck2 (by with_reducible assumption))) | exact (ck2 (ck2 (by with_reducible assumption))) | exact (cj0 (cj3 (by with_reducible assumption))) | exact (cj1 (cj3 (by with_reducible assumption))) | exact (ck2 (cj3 (by with_reducible assumption))) | exact (cj0 (ck3 (by with_reducible assumption))) | exact (cj1 (ck3 (by with_reducible assumption))) | exact (ck2 (ck3 (by with_reducible assumption))) | exact (cj0 (cj4 (by with_reducible assumption))) | exact (cj1 (cj4 (by with_reducible assumption))) | exact (ck2 (cj4 (by with_reducible assumption))) | exact (cj0 (ck4 (by with_reducible assumption))) | exact (cj1 (ck4 (by with_reducible assumption))) | exact (ck2 (ck4 (by with_reducible assumption))) | exact (cj0 (cj5 (by with_reducible assumption))) | exact (cj1 (cj5 (by with_reducible assumption))) | exact (ck2 (cj5 (by with_reducible assumption))) | exact (cj0 (ck5 (by with_reducible assumption))) | exact (cj1 (ck5 (by with_reducible assumption))) | exact (ck2 (ck5 (by with_reducible assumption))) | exact (cj0 (cj6 (by with_reducible assumption))) | exact (cj1 (cj6 (by with_reducible assumption))) | exact (ck2 (cj6 (by with_reducible assumption))) | exact (cj0 (ck6 (by with_reducible assumption))) | exact (cj1 (ck6 (by with_reducible assumption))) | exact (ck2 (ck6 (by with_reducible assumption))) | exact (cj0 (cj7 (by with_reducible assumption))) | exact (cj1 (cj7 (by with_reducible assumption))) | exact (ck2 (cj7 (by with_reducible assumption))) | exact (cj0 (ck7 (by with_reducible assumption))) | exact (cj1 (ck7 (by with_reducible assumption))) | exact (ck2 (ck7 (by with_reducible assumption))) | exact (cj0 (cj8 (by with_reducible assumption))) | exact (cj1 (cj8 (by with_reducible assumption))) | exact (ck2 (cj8 (by with_reducible assumption))) | exact (cj0 (ck8 (by with_reducible assumption))) | exact (cj1 (ck8 (by with_reducible assumption))) | exact (ck2 (ck8 (by with_reducible assumption))) | exact Ne.symm (cj0 (cj0 (by with_reducible assumption))) | exact Ne.symm (cj1 (cj0 (by with_reducible assumption))) | exact Ne.symm (ck2 (cj0 (by with_reducible assumption))) | exact Ne.symm (cj0 (cj1 (by with_reducible assumption))) | exact Ne.symm (cj1 (cj1 (by with_reducible assumption))) | exact Ne.symm (ck2 (cj1 (by with_reducible assumption))) | exact Ne.symm (cj0 (ck1 (by with_reducible assumption))) | exact Ne.symm (cj1 (ck1 (by with_reducible assumption))) | exact Ne.symm (ck2 (ck1 (by with_reducible assumption))) | exact Ne.symm (cj0 (cj2 (by with_reducible assumption))) | exact Ne.symm (cj1 (cj2 (by with_reducible assumption))) | exact Ne.symm (ck2 (cj2 (by with_reducible assumption))) | exact Ne.symm (cj0 (ck2 (by with_reducible assumption))) | exact Ne.symm (cj1 (ck2 (by with_reducible assumption))) | exact Ne.symm (ck2 (ck2 (by with_reducible assumption))) | exact Ne.symm (cj0 (cj3 (by with_reducible assumption))) | exact Ne.symm (cj1 (cj3 (by with_reducible assumption))) | exact Ne.symm (ck2 (cj3 (by with_reducible assumption))) | exact Ne.symm (cj0 (ck3 (by with_reducible assumption))) | exact Ne.symm (cj1 (ck3 (by with_reducible assumption))) | exact Ne.symm (ck2 (ck3 (by with_reducible assumption))) | exact Ne.symm (cj0 (cj4 (by with_reducible assumption))) | exact Ne.symm (cj1 (cj4 (by with_reducible assumption))) | exact Ne.symm (ck2 (cj4 (by with_reducible assumption))) | exact Ne.symm (cj0 (ck4 (by with_reducible assumption))) | exact Ne.symm (cj1 (ck4 (by with_reducible assumption))) | exact Ne.symm (ck2 (ck4 (by with_reducible assumption))) | exact Ne.symm (cj0 (cj5 (by with_reducible assumption))) | exact Ne.symm (cj1 (cj5 (by with_reducible assumption))) | exact Ne.symm (ck2 (cj5 (by with_reducible assumption))) | exact Ne.symm (cj0 (ck5 (by with_reducible assumption))) | exact Ne.symm (cj1 (ck5 (by with_reducible assumption))) | exact Ne.symm (ck2 (ck5 (by with_reducible assumption))) | exact Ne.symm (cj0 (cj6 (by with_reducible assumption))) | exact Ne.symm (cj1 (cj6 (by with_reducible assumption))) | exact Ne.symm (ck2 (cj6 (by with_reducible assumption))) | exact Ne.symm (cj0 (ck6 (by with_reducible assumption))) | exact Ne.symm (cj1 (ck6 (by with_reducible assumption))) | exact Ne.symm (ck2 (ck6 (by with_reducible assumption))) | exact Ne.symm (cj0 (cj7 (by with_reducible assumption))) | exact Ne.symm (cj1 (cj7 (by with_reducible assumption))) | exact Ne.symm (ck2 (cj7 (by with_reducible assumption))) | exact Ne.symm (cj0 (ck7 (by with_reducible assumption))) | exact Ne.symm (cj1 (ck7 (by with_reducible assumption))) | exact Ne.symm (ck2 (ck7 (by with_reducible assumption))) | exact Ne.symm (cj0 (cj8 (by with_reducible assumption))) | exact Ne.symm (cj1 (cj8 (by with_reducible assumption))) | exact Ne.symm (ck2 (cj8 (by with_reducible assumption))) | exact Ne.symm (cj0 (ck8 (by with_reducible assumption))) | exact Ne.symm (cj1 (ck8 (by with_reducible assumption))) | exact Ne.symm (ck2 (ck8 (by with_reducible assumption)))))
  refine wpAny_call ?_
  k_dflt (refine' code_pure (binds := [(Str.ofString "match", Value.ref mo)]) ?k1 ?k2 ?k3 ?k5 ?kA ?kF ?kK ?k6 ?k7 ?k8 ?k9 ?kB ?_ ?c2 ?c3 ?c4 ?c5; (case kA => exact rfl); (case kF => exact rfl); (case kK => assumption); (case k1 => k_asm); (case k2 => k_asm); (case k3 => k_asm); (case k5 => k_asm); (case k6 => k_is); (case k7 => k_is); (case k8 => ktr_room); (case k9 => exact BindsTo.of_eq rfl); (case c5 => decide); (case kB => exact locs rfl); (case c2 => exact rfl); (case c3 => exact rfl); (case c4 => exact rfl); k_whole; intro L' h' F' N' B' X' T'; (try dsimp only); (try k_fold))
  k_steps
  all_goals (exact hret _ _ _ _ (Fr.keep (by assumption)) (unmatched_eq x e he))
end Mine
end
section
open PySem PySem.W PySem.Calls PyProof.Rows
set_option maxHeartbeats 0
namespace Mine

theorem lam_pure {prog : Program} {w : World} {A A₀ : Around} {s : Shared} {K : Frag} {L : Addr} {h₀ base : Heap} {m mg mb : Str → Option Value} {p : Program} {loose : List Str} {mean : ExcName → Option Value}
    {env : Env} {outer : List Env} {R : Result → Shared → Prop} {name qual : Str} {params : Arguments} {body : Expr} {scope : Scope} {cl : List (Str × Addr)} {pm ctv : Value} {c' : Addr} {f : Addr} {args : Args} {binds : List (Str × Value)}
    (B : Below A₀ base outer h₀) (F : Fr h₀ L s.heap m) (X₀ : K.In h₀) (T : Top p loose mean mg mb h₀) (hA : A.frames = some (env :: outer)) (hf : env.frame = some L) (hke : env.scope.kind = .function)
    (ho : s.heap.get? f = some (kla_obj name qual params body scope cl pm c' ctv)) (hcd : s.heap.CodeRec (.ref c') qual) (hroom : A.depth < recursionLimit)
    (hbind : bindArgs (kla_fn name qual params body scope cl pm (.ref c') ctv) args = pure binds) (hloc : ∀ y ∈ binds, scope.names.lookup y.1 = some .local)
    (h : ∀ L' h₁, Fr s.heap L' h₁ (fun y => binds.reverse.lookup y) → News s.heap L' h₁ [] → Below A base (env :: outer) s.heap → K.In s.heap → Top p loose mean mg mb s.heap →
      wpAny (model prog w) (A.deeper (envX qual scope L' f (.ref c') cl)) (eval body (envX qual scope L' f (.ref c') cl))
        (fun v s' => R (.ok (.ret v)) s')
        (fun e s' => wpAny (model prog w) (A.deeper (envX qual scope L' f (.ref c') cl)) (leaving (envX qual scope L' f (.ref c') cl) e) (fun _ s'' => R (.error e) s'') (fun e' s'' => R (.error e') s'') s')
        { s with heap := h₁, toks := s.toks + binds.length })
    (hco : scope.isCoroutine = false) (hgen : scope.isGenerator = false) (hk : scope.kind = .function)
    (hcell : ∀ x ∈ scope.names, x.2 ≠ .cell) : codeAny (model prog w) A (.call (.ref f) args) R s := by
  obtain ⟨FG, BG, st, lv⟩ := groundX (R := R) (news := []) B F News.nil hA hf hke
  refine kla_callFunE hroom ho rfl hco hgen rfl hcd ?_
  rw [hbind]
  refine wpAny_pure (wpAny_newFunctionEnv hcell hloc (fun h₁ hns hsb => ⟨((T.nolimit).keeps F.keep).fresh _ hsb, ?_⟩) hk)
  show codeAny _ _ (.expr body (envX qual scope s.heap.objs.size f (.ref c') cl)) _ _
  have hk₁ : ∀ b o, s.heap.get? b = some o → h₁.get? b = some o := fun b o e => hsb.extBut b o (Nat.ne_of_lt (Heap.lt_size e)) (Heap.get?_push_of_some _ e)
  exact kla_codeExpr (h s.heap.objs.size h₁ ⟨hns, hk₁, Nat.le_refl _⟩ News.nil BG (X₀.keeps F.keep) (T.keeps F.keep))

/-- the body of the two lambdas, upon its line: a text, and group 1 of the match (or nothing) -/
abbrev lamBody (ln : Nat) (pre : Str) (c1 c2 c3 c4 c5 c6 c7 c8 c9 d1 d2 d3 d4 d5 d6 d7 : Nat) : Expr :=
  .BinOp (.Constant (.str pre) 0 ⟨ln, c1, ln, c2⟩) .Add (.BoolOp .Or [.Call (.Attribute (.Name (Str.ofString "_m") ⟨ln, c3, ln, c4⟩) (Str.ofString "group") ⟨ln, c5, ln, c6⟩) [.Constant (.int 1) 0 ⟨ln, c7, ln, c8⟩] [] ⟨ln, c9, ln, d1⟩, .Constant (.str (Str.ofString "")) 0 ⟨ln, d2, ln, d3⟩] ⟨ln, d4, ln, d5⟩) ⟨ln, d6, ln, d7⟩
abbrev lamArgs (p9 : Pos) : Arguments := { posonlyargs := [], args := [{ arg := Str.ofString "_m", annotation := none, pos := p9 }], vararg := none, kwonlyargs := [], kw_defaults := [], kwarg := none, defaults := [] }
abbrev lamScope : Scope := { kind := ScopeKind.function, names := [(Str.ofString "_m", NameKind.local)], isGenerator := false, isCoroutine := false }
abbrev lamObj (ln : Nat) (pre qual : Str) (pm : Value) (c' : Addr) (ctv : Value) (p9 : Pos) (c1 c2 c3 c4 c5 c6 c7 c8 c9 d1 d2 d3 d4 d5 d6 d7 : Nat) : Obj := kla_obj (Str.ofString "<lambda>") qual (lamArgs p9) (lamBody ln pre c1 c2 c3 c4 c5 c6 c7 c8 c9 d1 d2 d3 d4 d5 d6 d7) lamScope [] pm c' ctv


theorem empty_of {y : Str} (h : y.length = 0) : y = Str.ofString "" := by
  obtain ⟨a⟩ := y
  have : a.size = 0 := h
  have e : a = #[] := Array.eq_empty_of_size_eq_zero this
  subst e
  rfl
theorem lam_call57 {prog : Program} {w : World} {A A₀ : Around} {s : Shared} {L : Addr} {h₀ base : Heap} {m mg mb : Str → Option Value} {p : Program} {loose : List Str} {mean : ExcName → Option Value} {Q E : Value → Shared → Prop}
    {env : Env} {outer : List Env} {pre qual : Str} {pm ctv : Value} {c' f mo : Addr} {p9 : Pos} {c1 c2 c3 c4 c5 c6 c7 c8 c9 d1 d2 d3 d4 d5 d6 d7 : Nat} {x : Str} {st hd9 b e : Nat}
    (B : Below A₀ base outer h₀) (F : Fr h₀ L s.heap m) (X : (hd.heap_39 w.params).In h₀) (T : Top p loose mean mg mb h₀) (hA : A.frames = some (env :: outer)) (hf : env.frame = some L) (hke : env.scope.kind = .function)
    (ho : s.heap.get? f = some (lamObj 57 pre qual pm c' ctv p9 c1 c2 c3 c4 c5 c6 c7 c8 c9 d1 d2 d3 d4 d5 d6 d7)) (hcd : s.heap.CodeRec (.ref c') qual) (hroom : A.depth < recursionLimit)
    (hm : MatAt s.heap mo x #[(st : Int), hd9, b, e]) (hx : x.length ≤ 1000000) (hpre : pre.length ≤ 10)
    (hret : ∀ t h' tk', Stays s.heap h' → Q (.str (pre ++ ⟨x.cps.extract b e⟩) t) { s with heap := h', toks := tk' }) : wpAny (model prog w) A (call (.ref f) [.ref mo]) Q E s := by
  k_with_none
  w_top off
  (k_with "my getMethod ref" => k_search (by ((k_here; k_dflt (first
  | refine mat_method (mat_now (by assumption) (by k_asm)) Fc.slot_group Fc.type_group ?_)))))
  (k_with "my call builtin:re.Match.group" => k_search (by ((k_here; k_dflt (refine call_group1 (mat_now (by assumption) (by k_asm)) (by rw [sizeLine_eq]; omega) ?_; (try dsimp only))))))
  (k_with "my ne" => (first | exact Nat.ne_of_beq_eq_false rfl | exact Nat.ne_of_lt (by with_reducible assumption) | exact Nat.ne_of_gt (by with_reducible assumption) | with_reducible assumption | exact Ne.symm (by with_reducible assumption) | exact Nat.ne_of_gt (cj0 (by with_reducible assumption)) | exact Nat.ne_of_gt (cj1 (by with_reducible assumption)) | exact Nat.ne_of_gt (ck1 (by with_reducible assumption)) | exact Nat.ne_of_gt (cj2 (by with_reducible assumption)) | exact Nat.ne_of_gt (ck2 (by with_reducible assumption)) | exact Nat.ne_of_gt (cj3 (by with_reducible assumption)) | exact Nat.ne_of_gt (ck3 (by with_reducible assumption)) | exact Nat.ne_of_gt (cj4 (by with_reducible assumption)) | exact Nat.ne_of_gt (ck4 (by with_reducible assumption)) | exact Nat.ne_of_gt (cj5 (by with_reducible assumption)) | exact Nat.ne_of_gt (ck5 (by with_reducible assumption)) | exact Nat.ne_of_gt (cj6 (by with_reducible assumption)) | exact Nat.ne_of_gt (ck6 (by with_reducible assumption)) | exact Nat.ne_of_gt (cj7 (by with_reducible assumption)) | exact Nat.ne_of_gt (ck7 (by with_reducible assumption)) | exact Nat.ne_of_gt (cj8 (by with_reducible assumption)) | exact Nat.ne_of_gt (ck8 (by with_reducible assumption)) | exact Nat.ne_of_gt (cj9 (by with_reducible assumption)) | exact Nat.ne_of_gt (ck9 (by with_reducible assumption)) | exact Nat.ne_of_gt (cj10 (by with_reducible assumption)) | exact Nat.ne_of_gt (ck10 (by with_reducible assumption)) | exact Nat.ne_of_gt (cj11 (by with_reducible assumption)) | exact Nat.ne_of_gt (ck11 (by with_reducible assumption)) | exact Nat.ne_of_gt (cj12 (by with_reducible assumption)) | exact Nat.ne_of_gt (ck12 (by with_reducible assumption)) | exact Nat.ne_of_gt (cj13 (by with_reducible assumption)) | exact Nat.ne_of_gt (ck13 (by with_reducible assumption)) | exact Nat.ne_of_gt (cj14 (by with_reducible assumption)) | exact Nat.ne_of_gt (ck14 (by with_reducible assumption)) | exact Nat.ne_of_gt (cj15 (by with_reducible assumption)) | exact Nat.ne_of_gt (ck15 (by with_reducible assumption)) | exact Nat.ne_of_gt (cj16 (by with_reducible assumption)) | exact Nat.ne_of_gt (ck16 (by with_reducible assumption)) | exact Nat.ne_of_lt (cj0 (by with_reducible assumption)) | exact Nat.ne_of_lt (cj1 (by with_reducible assumption)) | exact Nat.ne_of_lt (ck1 (by with_reducible assumption)) | exact Nat.ne_of_lt (cj2 (by with_reducible assumption)) | exact Nat.ne_of_lt (ck2 (by with_reducible assumption)) | exact Nat.ne_of_lt (cj3 (by with_reducible assumption)) | exact Nat.ne_of_lt (ck3 (by with_reducible assumption)) | exact Nat.ne_of_lt (cj4 (by with_reducible assumption)) | exact Nat.ne_of_lt (ck4 (by with_reducible assumption)) | exact Nat.ne_of_lt (cj5 (by with_reducible assumption)) | exact Nat.ne_of_lt (ck5 (by with_reducible assumption)) | exact Nat.ne_of_lt (cj6 (by with_reducible assumption)) | exact Nat.ne_of_lt (ck6 (by with_reducible assumption)) | exact Nat.ne_of_lt (cj7 (by with_reducible assumption)) | exact Nat.ne_of_lt (ck7 (by with_reducible assumption)) | exact Nat.ne_of_lt (cj8 (by with_reducible assumption)) | exact Nat.ne_of_lt (ck8 (by with_reducible assumption)) | exact Nat.ne_of_lt (cj9 (by with_reducible assumption)) | exact Nat.ne_of_lt (ck9 (by with_reducible assumption)) | exact Nat.ne_of_lt (cj10 (by with_reducible assumption)) | exact Nat.ne_of_lt (ck10 (by with_reducible assumption)) | exact Nat.ne_of_lt (cj11 (by with_reducible assumption)) | exact Nat.ne_of_lt (ck11 (by with_reducible assumption)) | exact Nat.ne_of_lt (cj12 (by with_reducible assumption)) | exact Nat.ne_of_lt (ck12 (by with_reducible assumption)) | exact Nat.ne_of_lt (cj13 (by with_reducible assumption)) | exact Nat.ne_of_lt (ck13 (by with_reducible assumption)) | exact Nat.ne_of_lt (cj14 (by with_reducible assumption)) | exact Nat.ne_of_lt (ck14 (by with_reducible assumption)) | exact Nat.ne_of_lt (cj15 (by with_reducible assumption)) | exact Nat.ne_of_lt (ck15 (by with_reducible assumption)) | exact Nat.ne_of_lt (cj16 (by with_reducible assumption)) | exact Nat.ne_of_lt (ck16 (by with_reducible assumption)) | exact ne_gtt (by with_reducible assumption) (cj0 (by with_reducible assumption)) | exact ne_gtt (by with_reducible assumption) (cj1 (by with_reducible assumption)) | exact ne_gtt (by with_reducible assumption) (ck1 (by with_reducible assumption)) | exact ne_gtt (by with_reducible assumption) (cj2 (by with_reducible assumption)) | exact ne_gtt (by with_reducible assumption) (ck2 (by with_reducible assumption)) | exact ne_gtt (by with_reducible assumption) (cj3 (by with_reducible assumption)) | exact ne_gtt (by with_reducible assumption) (ck3 (by with_reducible assumption)) | exact ne_gtt (by with_reducible assumption) (cj4 (by with_reducible assumption)) | exact ne_gtt (by with_reducible assumption) (ck4 (by with_reducible assumption)) | exact ne_gtt (by with_reducible assumption) (cj5 (by with_reducible assumption)) | exact ne_gtt (by with_reducible assumption) (ck5 (by with_reducible assumption)) | exact ne_gtt (by with_reducible assumption) (cj6 (by with_reducible assumption)) | exact ne_gtt (by with_reducible assumption) (ck6 (by with_reducible assumption)) | exact ne_gtt (by with_reducible assumption) (cj7 (by with_reducible assumption)) | exact ne_gtt (by with_reducible assumption) (ck7 (by with_reducible assumption)) | exact ne_gtt (by with_reducible assumption) (cj8 (by with_reducible assumption)) | exact ne_gtt (by with_reducible assumption) (ck8 (by with_reducible assumption)) | exact ne_gtt (by with_reducible assumption) (cj9 (by with_reducible assumption)) | exact ne_gtt (by with_reducible assumption) (ck9 (by with_reducible assumption)) | exact ne_gtt (by with_reducible assumption) (cj10 (by with_reducible assumption)) | exact ne_gtt (by with_reducible assumption) (ck10 (by with_reducible assumption)) | exact ne_gtt (by with_reducible assumption) (cj11 (by with_reducible assumption)) | exact ne_gtt (by with_reducible assumption) (ck11 (by with_reducible assumption)) | exact ne_gtt (by with_reducible assumption) (cj12 (by with_reducible assumption)) | exact ne_gtt (by with_reducible assumption) (ck12 (by with_reducible assumption)) | exact ne_gtt (by with_reducible assumption) (cj13 (by with_reducible assumption)) | exact ne_gtt (by with_reducible assumption) (ck13 (by with_reducible assumption)) | exact ne_gtt (by with_reducible assumption) (cj14 (by with_reducible assumption)) | exact ne_gtt (by with_reducible assumption) (ck14 (by with_reducible assumption)) | exact ne_gtt (by with_reducible assumption) (cj15 (by with_reducible assumption)) | exact ne_gtt (by with_reducible assumption) (ck15 (by with_reducible assumption)) | exact ne_gtt (by with_reducible assumption) (cj16 (by with_reducible assumption)) | exact ne_gtt (by with_reducible assumption) (ck16 (by with_reducible assumption)) | exact ne_ltt (by with_reducible assumption) (cj0 (by with_reducible assumption)) | exact ne_ltt (by with_reducible assumption) (cj1 (by with_reducible assumption)) | exact ne_ltt (by with_reducible assumption) (ck1 (by with_reducible assumption)) | exact ne_ltt (by with_reducible assumption) (cj2 (by with_reducible assumption)) | exact ne_ltt (by with_reducible assumption) (ck2 (by with_reducible assumption)) | exact ne_ltt (by with_reducible assumption) (cj3 (by with_reducible assumption)) | exact ne_ltt (by with_reducible assumption) (ck3 (by with_reducible assumption)) | exact ne_ltt (by with_reducible assumption) (cj4 (by with_reducible assumption)) | exact ne_ltt (by with_reducible assumption) (ck4 (by with_reducible assumption)) | exact ne_ltt (by with_reducible assumption) (cj5 (by with_reducible assumption)) | exact ne_ltt (by with_reducible assumption) (ck5 (by with_reducible assumption)) | exact ne_ltt (by with_reducible assumption) (cj6 (by with_reducible assumption)) | exact ne_ltt (by with_reducible assumption) (ck6 (by with_reducible assumption)) | exact ne_ltt (by with_reducible assumption) (cj7 (by with_reducible assumption)) | exact ne_ltt (by with_reducible assumption) (ck7 (by with_reducible assumption)) | exact ne_ltt (by with_reducible assumption) (cj8 (by with_reducible assumption)) | exact ne_ltt (by with_reducible assumption) (ck8 (by with_reducible assumption)) | exact ne_ltt (by with_reducible assumption) (cj9 (by with_reducible assumption)) | exact ne_ltt (by with_reducible assumption) (ck9 (by with_reducible assumption)) | exact ne_ltt (by with_reducible assumption) (cj10 (by with_reducible assumption)) | exact ne_ltt (by with_reducible assumption) (ck10 (by with_reducible assumption)) | exact ne_ltt (by with_reducible assumption) (cj11 (by with_reducible assumption)) | exact ne_ltt (by with_reducible assumption) (ck11 (by with_reducible assumption)) | exact ne_ltt (by with_reducible assumption) (cj12 (by with_reducible assumption)) | exact ne_ltt (by with_reducible assumption) (ck12 (by with_reducible assumption)) | exact ne_ltt (by with_reducible assumption) (cj13 (by with_reducible assumption)) | exact ne_ltt (by with_reducible assumption) (ck13 (by with_reducible assumption)) | exact ne_ltt (by with_reducible assumption) (cj14 (by with_reducible assumption)) | exact ne_ltt (by with_reducible assumption) (ck14 (by with_reducible assumption)) | exact ne_ltt (by with_reducible assumption) (cj15 (by with_reducible assumption)) | exact ne_ltt (by with_reducible assumption) (ck15 (by with_reducible assumption)) | exact ne_ltt (by with_reducible assumption) (cj16 (by with_reducible assumption)) | exact ne_ltt (by with_reducible assumption) (ck16 (by with_reducible assumption)) | exact (cj0 (by with_reducible assumption)) | exact (cj1 (by with_reducible assumption)) | exact (ck1 (by with_reducible assumption)) | exact (cj2 (by with_reducible assumption)) | exact (ck2 (by with_reducible assumption)) | exact (cj3 (by with_reducible assumption)) | exact (ck3 (by with_reducible assumption)) | exact (cj4 (by with_reducible assumption)) | exact (ck4 (by with_reducible assumption)) | exact (cj5 (by with_reducible assumption)) | exact (ck5 (by with_reducible assumption)) | exact (cj6 (by with_reducible assumption)) | exact (ck6 (by with_reducible assumption)) | exact (cj7 (by with_reducible assumption)) | exact (ck7 (by with_reducible assumption)) | exact (cj8 (by with_reducible assumption)) | exact (ck8 (by with_reducible assumption)) | exact (cj9 (by with_reducible assumption)) | exact (ck9 (by with_reducible assumption)) | exact (cj10 (by with_reducible assumption)) | exact (ck10 (by with_reducible assumption)) | exact (cj11 (by with_reducible assumption)) | exact (ck11 (by with_reducible assumption)) | exact (cj12 (by with_reducible assumption)) | exact (ck12 (by with_reducible assumption)) | exact (cj13 (by with_reducible assumption)) | exact (ck13 (by with_reducible assumption)) | exact (cj14 (by with_reducible assumption)) | exact (ck14 (by with_reducible assumption)) | exact (cj15 (by with_reducible assumption)) | exact (ck15 (by with_reducible assumption)) | exact (cj16 (by with_reducible assumption)) | exact (ck16 (by with_reducible assumption)) | exact Ne.symm (cj0 (by with_reducible assumption)) | exact Ne.symm (cj1 (by with_reducible assumption)) | exact Ne.symm (ck1 (by with_reducible assumption)) | exact Ne.symm (cj2 (by with_reducible assumption)) | exact Ne.symm (ck2 (by with_reducible assumption)) | exact Ne.symm (cj3 (by with_reducible assumption)) | exact Ne.symm (ck3 (by with_reducible assumption)) | exact Ne.symm (cj4 (by with_reducible assumption)) | exact Ne.symm (ck4 (by with_reducible assumption)) | exact Ne.symm (cj5 (by with_reducible assumption)) | exact Ne.symm (ck5 (by with_reducible assumption)) | exact Ne.symm (cj6 (by with_reducible assumption)) | exact Ne.symm (ck6 (by with_reducible assumption)) | exact Ne.symm (cj7 (by with_reducible assumption)) | exact Ne.symm (ck7 (by with_reducible assumption)) | exact Ne.symm (cj8 (by with_reducible assumption)) | exact Ne.symm (ck8 (by with_reducible assumption)) | exact Ne.symm (cj9 (by with_reducible assumption)) | exact Ne.symm (ck9 (by with_reducible assumption)) | exact Ne.symm (cj10 (by with_reducible assumption)) | exact Ne.symm (ck10 (by with_reducible assumption)) | exact Ne.symm (cj11 (by with_reducible assumption)) | exact Ne.symm (ck11 (by with_reducible assumption)) | exact Ne.symm (cj12 (by with_reducible assumption)) | exact Ne.symm (ck12 (by with_reducible assumption)) | exact Ne.symm (cj13 (by with_reducible assumption)) | exact Ne.symm (ck13 (by with_reducible assumption)) | exact Ne.symm (cj14 (by with_reducible assumption)) | exact Ne.symm (ck14 (by with_reducible assumption)) | exact Ne.symm (cj15 (by with_reducible assumption)) | exact Ne.symm (ck15 (by with_reducible assumption)) | exact Ne.symm (cj16 (by with_reducible assumption)) | exact Ne.symm (ck16 (by with_reducible assumption)) | exact (cj0 (cj0 (by with_reducible assumption))) | exact (cj1 (cj0 (by with_reducible assumption))) | exact (ck2 (cj0 (by with_reducible assumption))) | exact (cj0 (cj1 (by with_reducible assumption))) | exact (cj1 (cj1 (by with_reducible assumption))) | exact (ck2 (cj1 (by with_reducible assumption))) | exact (cj0 (ck1 (by with_reducible assumption))) | exact (cj1 (ck1 (by with_reducible assumption))) | exact (ck2 (ck1 (by with_reducible assumption))) | exact (cj0 (cj2 (by with_reducible assumption))) | exact (cj1 (cj2 (by with_reducible assumption))) | exact (ck2 (cj2 (by with_reducible assumption))) | exact (cj0 (ck2 (by with_reducible assumption))) | exact (cj1 (ck2 (by with_reducible assumption))) | exact (ck2 (ck2 (by with_reducible assumption))) | exact (cj0 (cj3 (by with_reducible assumption))) | exact (cj1 (cj3 (by with_reducible assumption))) | exact (ck2 (cj3 (by with_reducible assumption))) | exact (cj0 (ck3 (by with_reducible assumption))) | exact (cj1 (ck3 (by with_reducible assumption))) | exact (ck2 (ck3 (by with_reducible assumption))) | exact (cj0 (cj4 (by with_reducible assumption))) | exact (cj1 (cj4 (by with_reducible assumption))) | exact (ck2 (cj4 (by with_reducible assumption))) | exact (cj0 (ck4 (by with_reducible assumption))) | exact (cj1 (ck4 (by with_reducible assumption))) | exact (ck2 (ck4 (by with_reducible assumption))) | exact (cj0 (cj5 (by with_reducible assumption))) | exact (cj1 (cj5 (by with_reducible assumption))) | exact (ck2 (cj5 (by with_reducible assumption))) | exact (cj0 (ck5 (by with_reducible assumption))) | exact (cj1 (ck5 (by with_reducible assumption))) | exact (ck2 (ck5 (by with_reducible assumption))) | exact (cj0 (cj6 (by with_reducible assumption))) | exact (cj1 (cj6 (by with_reducible assumption))) | exact (ck2 (cj6 (by with_reducible assumption))) | exact (cj0 (ck6 (by with_reducible assumption))) | exact (cj1 (ck6 (by with_reducible assumption))) | exact (ck2 (ck6 (by with_reducible assumption))) | exact (cj0 (cj7 (by with_reducible assumption))) | exact (cj1 (cj7 (by with_reducible assumption))) | exact (ck2 (cj7 (by with_reducible assumption))) | exact (cj0 (ck7 (by with_reducible assumption))) | exact (cj1 (ck7 (by with_reducible assumption))) | exact (ck2 (ck7 (by with_reducible assumption))) | exact (cj0 (cj8 (by with_reducible assumption))) | exact (cj1 (cj8 (by with_reducible assumption))) | exact (ck2 (cj8 (by with_reducible assumption))) | exact (cj0 (ck8 (by with_reducible assumption))) | exact (cj1 (ck8 (by with_reducible assumption))) | exact (ck2 (ck8 (by with_reducible assumption))) | exact Ne.symm (cj0 (cj0 (by with_reducible assumption))) | exact Ne.symm (cj1 (cj0 (by with_reducible assumption))) | exact Ne.symm (ck2 (cj0 (by with_reducible assumption))) | exact Ne.symm (cj0 (cj1 (by with_reducible assumption))) | exact Ne.symm (cj1 (cj1 (by with_reducible assumption))) | exact Ne.symm (ck2 (cj1 (by with_reducible assumption))) | exact Ne.symm (cj0 (ck1 (by with_reducible assumption))) | exact Ne.symm (cj1 (ck1 (by with_reducible assumption))) | exact Ne.symm (ck2 (ck1 (by with_reducible assumption))) | exact Ne.symm (cj0 (cj2 (by with_reducible assumption))) | exact Ne.symm (cj1 (cj2 (by with_reducible assumption))) | exact Ne.symm (ck2 (cj2 (by with_reducible assumption))) | exact Ne.symm (cj0 (ck2 (by with_reducible assumption))) | exact Ne.symm (cj1 (ck2 (by with_reducible assumption))) | exact Ne.symm (ck2 (ck2 (by with_reducible assumption))) | exact Ne.symm (cj0 (cj3 (by with_reducible assumption))) | exact Ne.symm (cj1 (cj3 (by with_reducible assumption))) | exact Ne.symm (ck2 (cj3 (by with_reducible assumption))) | exact Ne.symm (cj0 (ck3 (by with_reducible assumption))) | exact Ne.symm (cj1 (ck3 (by with_reducible assumption))) | exact Ne.symm (ck2 (ck3 (by with_reducible assumption))) | exact Ne.symm (cj0 (cj4 (by with_reducible assumption))) | exact Ne.symm (cj1 (cj4 (by with_reducible assumption))) | exact Ne.symm (ck2 (cj4 (by with_reducible assumption))) | exact Ne.symm (cj0 (ck4 (by with_reducible assumption))) | exact Ne.symm (cj1 (ck4 (by with_reducible assumption))) | exact Ne.symm (ck2 (ck4 (by with_reducible assumption))) | exact Ne.symm (cj0 (cj5 (by with_reducible assumption))) | exact Ne.symm (cj1 (cj5 (by with_reducible assumption))) | exact Ne.symm (ck2 (cj5 (by with_reducible assumption))) | exact Ne.symm (cj0 (ck5 (by with_reducible assumption))) | exact Ne.symm (cj1 (ck5 (by with_reducible assumption))) | exact Ne.symm (ck2 (ck5 (by with_reducible assumption))) | exact Ne.symm (cj0 (cj6 (by with_reducible assumption))) | exact Ne.symm (cj1 (cj6 (by with_reducible assumption))) | exact Ne.symm (ck2 (cj6 (by with_reducible assumption))) | exact Ne.symm (cj0 (ck6 (by with_reducible assumption))) | exact Ne.symm (cj1 (ck6 (by with_reducible assumption))) | exact Ne.symm (ck2 (ck6 (by with_reducible assumption))) | exact Ne.symm (cj0 (cj7 (by with_reducible assumption))) | exact Ne.symm (cj1 (cj7 (by with_reducible assumption))) | exact Ne.symm (ck2 (cj7 (by with_reducible assumption))) | exact Ne.symm (cj0 (ck7 (by with_reducible assumption))) | exact Ne.symm (cj1 (ck7 (by with_reducible assumption))) | exact Ne.symm (ck2 (ck7 (by with_reducible assumption))) | exact Ne.symm (cj0 (cj8 (by with_reducible assumption))) | exact Ne.symm (cj1 (cj8 (by with_reducible assumption))) | exact Ne.symm (ck2 (cj8 (by with_reducible assumption))) | exact Ne.symm (cj0 (ck8 (by with_reducible assumption))) | exact Ne.symm (cj1 (ck8 (by with_reducible assumption))) | exact Ne.symm (ck2 (ck8 (by with_reducible assumption)))))
  refine wpAny_call ?_
  refine lam_pure (binds := [(Str.ofString "_m", Value.ref mo)]) B F X T hA hf hke ho hcd hroom rfl (locs rfl) ?_ rfl rfl rfl (by decide)
  intro L' h' F' N' B' X' T'
  have hl : (⟨x.cps.extract b e⟩ : Str).length ≤ x.length := by
    show (x.cps.extract b e).size ≤ x.cps.size
    rw [Array.size_extract]
    omega
  (try dsimp only)
  have hret' : ∀ y t h' tk', Stays s.heap h' → y = (⟨x.cps.extract b e⟩ : Str) → Q (.str (pre ++ y) t) { s with heap := h', toks := tk' } := fun y t h' tk' k q => by subst q; exact hret t h' tk' k
  k_steps
  · exact hret' _ _ _ _ (Fr.keep F') rfl
  · exact hret' _ _ _ _ (Fr.keep F') (empty_of (by omega)).symm
theorem lam_call26 {prog : Program} {w : World} {A A₀ : Around} {s : Shared} {L : Addr} {h₀ base : Heap} {m mg mb : Str → Option Value} {p : Program} {loose : List Str} {mean : ExcName → Option Value} {Q E : Value → Shared → Prop}
    {env : Env} {outer : List Env} {pre qual : Str} {pm ctv : Value} {c' f mo : Addr} {p9 : Pos} {c1 c2 c3 c4 c5 c6 c7 c8 c9 d1 d2 d3 d4 d5 d6 d7 : Nat} {x : Str} {st hd9 b e : Nat}
    (B : Below A₀ base outer h₀) (F : Fr h₀ L s.heap m) (X : (hd.heap_39 w.params).In h₀) (T : Top p loose mean mg mb h₀) (hA : A.frames = some (env :: outer)) (hf : env.frame = some L) (hke : env.scope.kind = .function)
    (ho : s.heap.get? f = some (lamObj 26 pre qual pm c' ctv p9 c1 c2 c3 c4 c5 c6 c7 c8 c9 d1 d2 d3 d4 d5 d6 d7)) (hcd : s.heap.CodeRec (.ref c') qual) (hroom : A.depth < recursionLimit)
    (hm : MatAt s.heap mo x #[(st : Int), hd9, b, e]) (hx : x.length ≤ 1000000) (hpre : pre.length ≤ 10)
    (hret : ∀ t h' tk', Stays s.heap h' → Q (.str (pre ++ ⟨x.cps.extract b e⟩) t) { s with heap := h', toks := tk' }) : wpAny (model prog w) A (call (.ref f) [.ref mo]) Q E s := by
  k_with_none
  w_top off
  (k_with "my getMethod ref" => k_search (by ((k_here; k_dflt (first
  | refine mat_method (mat_now (by assumption) (by k_asm)) Fc.slot_group Fc.type_group ?_)))))
  (k_with "my call builtin:re.Match.group" => k_search (by ((k_here; k_dflt (refine call_group1 (mat_now (by assumption) (by k_asm)) (by rw [sizeLine_eq]; omega) ?_; (try dsimp only))))))
  (k_with "my ne" => (first | exact Nat.ne_of_beq_eq_false rfl | exact Nat.ne_of_lt (by with_reducible assumption) | exact Nat.ne_of_gt (by with_reducible assumption) | with_reducible assumption | exact Ne.symm (by with_reducible assumption) | exact Nat.ne_of_gt (cj0 (by with_reducible assumption)) | exact Nat.ne_of_gt (cj1 (by with_reducible assumption)) | exact Nat.ne_of_gt (ck1 (by with_reducible assumption)) | exact Nat.ne_of_gt (cj2 (by with_reducible assumption)) | exact Nat.ne_of_gt (ck2 (by with_reducible assumption)) | exact Nat.ne_of_gt (cj3 (by with_reducible assumption)) | exact Nat.ne_of_gt (ck3 (by with_reducible assumption)) | exact Nat.ne_of_gt (cj4 (by with_reducible assumption)) | exact Nat.ne_of_gt (ck4 (by with_reducible assumption)) | exact Nat.ne_of_gt (cj5 (by with_reducible assumption)) | exact Nat.ne_of_gt (ck5 (by with_reducible assumption)) | exact Nat.ne_of_gt (cj6 (by with_reducible assumption)) | exact Nat.ne_of_gt (ck6 (by with_reducible assumption)) | exact Nat.ne_of_gt (cj7 (by with_reducible assumption)) | exact Nat.ne_of_gt (ck7 (by with_reducible assumption)) | exact Nat.ne_of_gt (cj8 (by with_reducible assumption)) | exact Nat.ne_of_gt (ck8 (by with_reducible assumption)) | exact Nat.ne_of_gt (cj9 (by with_reducible assumption)) | exact Nat.ne_of_gt (ck9 (by with_reducible assumption)) | exact Nat.ne_of_gt (cj10 (by with_reducible assumption)) | exact Nat.ne_of_gt (ck10 (by with_reducible assumption)) | exact Nat.ne_of_gt (cj11 (by with_reducible assumption)) | exact Nat.ne_of_gt (ck11 (by with_reducible assumption)) | exact Nat.ne_of_gt (cj12 (by with_reducible assumption)) | exact Nat.ne_of_gt (ck12 (by with_reducible assumption)) | exact Nat.ne_of_gt (cj13 (by with_reducible assumption)) | exact Nat.ne_of_gt (ck13 (by with_reducible assumption)) | exact Nat.ne_of_gt (cj14 (by with_reducible assumption)) | exact Nat.ne_of_gt (ck14 (by with_reducible assumption)) | exact Nat.ne_of_gt (cj15 (by with_reducible assumption)) | exact Nat.ne_of_gt (ck15 (by with_reducible assumption)) | exact Nat.ne_of_gt (cj16 (by with_reducible assumption)) | exact Nat.ne_of_gt (ck16 (by with_reducible assumption)) | exact Nat.ne_of_lt (cj0 (by with_reducible assumption)) | exact Nat.ne_of_lt (cj1 (by with_reducible assumption)) | exact Nat.ne_of_lt (ck1 (by with_reducible assumption)) | exact Nat.ne_of_lt (cj2 (by with_reducible assumption)) | exact Nat.ne_of_lt (ck2 (by with_reducible assumption)) | exact Nat.ne_of_lt (cj3 (by with_reducible assumption)) | exact Nat.ne_of_lt (ck3 (by with_reducible assumption)) | exact Nat.ne_of_lt (cj4 (by with_reducible assumption)) | exact Nat.ne_of_lt (ck4 (by with_reducible assumption)) | exact Nat.ne_of_lt (cj5 (by with_reducible assumption)) | exact Nat.ne_of_lt (ck5 (by with_reducible assumption)) | exact Nat.ne_of_lt (cj6 (by with_reducible assumption)) | exact Nat.ne_of_lt (ck6 (by with_reducible assumption)) | exact Nat.ne_of_lt (cj7 (by with_reducible assumption)) | exact Nat.ne_of_lt (ck7 (by with_reducible assumption)) | exact Nat.ne_of_lt (cj8 (by with_reducible assumption)) | exact Nat.ne_of_lt (ck8 (by with_reducible assumption)) | exact Nat.ne_of_lt (cj9 (by with_reducible assumption)) | exact Nat.ne_of_lt (ck9 (by with_reducible assumption)) | exact Nat.ne_of_lt (cj10 (by with_reducible assumption)) | exact Nat.ne_of_lt (ck10 (by with_reducible assumption)) | exact Nat.ne_of_lt (cj11 (by with_reducible assumption)) | exact Nat.ne_of_lt (ck11 (by with_reducible assumption)) | exact Nat.ne_of_lt (cj12 (by with_reducible assumption)) | exact Nat.ne_of_lt (ck12 (by with_reducible assumption)) | exact Nat.ne_of_lt (cj13 (by with_reducible assumption)) | exact Nat.ne_of_lt (ck13 (by with_reducible assumption)) | exact Nat.ne_of_lt (cj14 (by with_reducible assumption)) | exact Nat.ne_of_lt (ck14 (by with_reducible assumption)) | exact Nat.ne_of_lt (cj15 (by with_reducible assumption)) | exact Nat.ne_of_lt (ck15 (by with_reducible assumption)) | exact Nat.ne_of_lt (cj16 (by with_reducible assumption)) | exact Nat.ne_of_lt (ck16 (by with_reducible assumption)) | exact ne_gtt (by with_reducible assumption) (cj0 (by with_reducible assumption)) | exact ne_gtt (by with_reducible assumption) (cj1 (by with_reducible assumption)) | exact ne_gtt (by with_reducible assumption) (ck1 (by with_reducible assumption)) | exact ne_gtt (by with_reducible assumption) (cj2 (by with_reducible assumption)) | exact ne_gtt (by with_reducible assumption) (ck2 (by with_reducible assumption)) | exact ne_gtt (by with_reducible assumption) (cj3 (by with_reducible assumption)) | exact ne_gtt (by with_reducible assumption) (ck3 (by with_reducible assumption)) | exact ne_gtt (by with_reducible assumption) (cj4 (by with_reducible assumption)) | exact ne_gtt (by with_reducible assumption) (ck4 (by with_reducible assumption)) | exact ne_gtt (by with_reducible assumption) (cj5 (by with_reducible assumption)) | exact ne_gtt (by with_reducible assumption) (ck5 (by with_reducible assumption)) | exact ne_gtt (by with_reducible assumption) (cj6 (by with_reducible assumption)) | exact ne_gtt (by with_reducible assumption) (ck6 (by with_reducible assumption)) | exact ne_gtt (by with_reducible assumption) (cj7 (by with_reducible assumption)) | exact ne_gtt (by with_reducible assumption) (ck7 (by with_reducible assumption)) | exact ne_gtt (by with_reducible assumption) (cj8 (by with_reducible assumption)) | exact ne_gtt (by with_reducible assumption) (ck8 (by with_reducible assumption)) | exact ne_gtt (by with_reducible assumption) (cj9 (by with_reducible assumption)) | exact ne_gtt (by with_reducible assumption) (ck9 (by with_reducible assumption)) | exact ne_gtt (by with_reducible assumption) (cj10 (by with_reducible assumption)) | exact ne_gtt (by with_reducible assumption) (ck10 (by with_reducible assumption)) | exact ne_gtt (by with_reducible assumption) (cj11 (by with_reducible assumption)) | exact ne_gtt (by with_reducible assumption) (ck11 (by with_reducible assumption)) | exact ne_gtt (by with_reducible assumption) (cj12 (by with_reducible assumption)) | exact ne_gtt (by with_reducible assumption) (ck12 (by with_reducible assumption)) | exact ne_gtt (by with_reducible assumption) (cj13 (by with_reducible assumption)) | exact ne_gtt (by with_reducible assumption) (ck13 (by with_reducible assumption)) | exact ne_gtt (by with_reducible assumption) (cj14 (by with_reducible assumption)) | exact ne_gtt (by with_reducible assumption) (ck14 (by with_reducible assumption)) | exact ne_gtt (by with_reducible assumption) (cj15 (by with_reducible assumption)) | exact ne_gtt (by with_reducible assumption) (ck15 (by with_reducible assumption)) | exact ne_gtt (by with_reducible assumption) (cj16 (by with_reducible assumption)) | exact ne_gtt (by with_reducible assumption) (ck16 (by with_reducible assumption)) | exact ne_ltt (by with_reducible assumption) (cj0 (by with_reducible assumption)) | exact ne_ltt (by with_reducible assumption) (cj1 (by with_reducible assumption)) | exact ne_ltt (by with_reducible assumption) (ck1 (by with_reducible assumption)) | exact ne_ltt (by with_reducible assumption) (cj2 (by with_reducible assumption)) | exact ne_ltt (by with_reducible assumption) (ck2 (by with_reducible assumption)) | exact ne_ltt (by with_reducible assumption) (cj3 (by with_reducible assumption)) | exact ne_ltt (by with_reducible assumption) (ck3 (by with_reducible assumption)) | exact ne_ltt (by with_reducible assumption) (cj4 (by with_reducible assumption)) | exact ne_ltt (by with_reducible assumption) (ck4 (by with_reducible assumption)) | exact ne_ltt (by with_reducible assumption) (cj5 (by with_reducible assumption)) | exact ne_ltt (by with_reducible assumption) (ck5 (by with_reducible assumption)) | exact ne_ltt (by with_reducible assumption) (cj6 (by with_reducible assumption)) | exact ne_ltt (by with_reducible assumption) (ck6 (by with_reducible assumption)) | exact ne_ltt (by with_reducible assumption) (cj7 (by with_reducible assumption)) | exact ne_ltt (by with_reducible assumption) (ck7 (by with_reducible assumption)) | exact ne_ltt (by with_reducible assumption) (cj8 (by with_reducible assumption)) | exact ne_ltt (by with_reducible assumption) (ck8 (by with_reducible assumption)) | exact ne_ltt (by with_reducible assumption) (cj9 (by with_reducible assumption)) | exact ne_ltt (by with_reducible assumption) (ck9 (by with_reducible assumption)) | exact ne_ltt (by with_reducible assumption) (cj10 (by with_reducible assumption)) | exact ne_ltt (by with_reducible assumption) (ck10 (by with_reducible assumption)) | exact ne_ltt (by with_reducible assumption) (cj11 (by with_reducible assumption)) | exact ne_ltt (by with_reducible assumption) (ck11 (by with_reducible assumption)) | exact ne_ltt (by with_reducible assumption) (cj12 (by with_reducible assumption)) | exact ne_ltt (by with_reducible assumption) (ck12 (by with_reducible assumption)) | exact ne_ltt (by with_reducible assumption) (cj13 (by with_reducible assumption)) | exact ne_ltt (by with_reducible assumption) (ck13 (by with_reducible assumption)) | exact ne_ltt (by with_reducible assumption) (cj14 (by with_reducible assumption)) | exact ne_ltt (by with_reducible assumption) (ck14 (by with_reducible assumption)) | exact ne_ltt (by with_reducible assumption) (cj15 (by with_reducible assumption)) | exact ne_ltt (by with_reducible assumption) (ck15 (by with_reducible assumption)) | exact ne_ltt (by with_reducible assumption) (cj16 (by with_reducible assumption)) | exact ne_ltt (by with_reducible assumption) (ck16 (by with_reducible assumption)) | exact (cj0 (by with_reducible assumption)) | exact (cj1 (by with_reducible assumption)) | exact (ck1 (by with_reducible assumption)) | exact (cj2 (by with_reducible assumption)) | exact (ck2 (by with_reducible assumption)) | exact (cj3 (by with_reducible assumption)) | exact (ck3 (by with_reducible assumption)) | exact (cj4 (by with_reducible assumption)) | exact (ck4 (by with_reducible assumption)) | exact (cj5 (by with_reducible assumption)) | exact (ck5 (by with_reducible assumption)) | exact (cj6 (by with_reducible assumption)) | exact (ck6 (by with_reducible assumption)) | exact (cj7 (by with_reducible assumption)) | exact (ck7 (by with_reducible assumption)) | exact (cj8 (by with_reducible assumption)) | exact (ck8 (by with_reducible assumption)) | exact (cj9 (by with_reducible assumption)) | exact (ck9 (by with_reducible assumption)) | exact (cj10 (by with_reducible assumption)) | exact (ck10 (by with_reducible assumption)) | exact (cj11 (by with_reducible assumption)) | exact (ck11 (by with_reducible assumption)) | exact (cj12 (by with_reducible assumption)) | exact (ck12 (by with_reducible assumption)) | exact (cj13 (by with_reducible assumption)) | exact (ck13 (by with_reducible assumption)) | exact (cj14 (by with_reducible assumption)) | exact (ck14 (by with_reducible assumption)) | exact (cj15 (by with_reducible assumption)) | exact (ck15 (by with_reducible assumption)) | exact (cj16 (by with_reducible assumption)) | exact (ck16 (by with_reducible assumption)) | exact Ne.symm (cj0 (by with_reducible assumption)) | exact Ne.symm (cj1 (by with_reducible assumption)) | exact Ne.symm (ck1 (by with_reducible assumption)) | exact Ne.symm (cj2 (by with_reducible assumption)) | exact Ne.symm (ck2 (by with_reducible assumption)) | exact Ne.symm (cj3 (by with_reducible assumption)) | exact Ne.symm (ck3 (by with_reducible assumption)) | exact Ne.symm (cj4 (by with_reducible assumption)) | exact Ne.symm (ck4 (by with_reducible assumption)) | exact Ne.symm (cj5 (by with_reducible assumption)) | exact Ne.symm (ck5 (by with_reducible assumption)) | exact Ne.symm (cj6 (by with_reducible assumption)) | exact Ne.symm (ck6 (by with_reducible assumption)) | exact Ne.symm (cj7 (by with_reducible assumption)) | exact Ne.symm (ck7 (by with_reducible assumption)) | exact Ne.symm (cj8 (by with_reducible assumption)) | exact Ne.symm (ck8 (by with_reducible assumption)) | exact Ne.symm (cj9 (by with_reducible assumption)) | exact Ne.symm (ck9 (by with_reducible assumption)) | exact Ne.symm (cj10 (by with_reducible assumption)) | exact Ne.symm (ck10 (by with_reducible assumption)) | exact Ne.symm (cj11 (by with_reducible assumption)) | exact Ne.symm (ck11 (by with_reducible assumption)) | exact Ne.symm (cj12 (by with_reducible assumption)) | exact Ne.symm (ck12 (by with_reducible assumption)) | exact Ne.symm (cj13 (by with_reducible assumption)) | exact Ne.symm (ck13 (by with_reducible assumption)) | exact Ne.symm (cj14 (by with_reducible assumption)) | exact Ne.symm (ck14 (by with_reducible assumption)) | exact Ne.symm (cj15 (by with_reducible assumption)) | exact Ne.symm (ck15 (by with_reducible assumption)) | exact Ne.symm (cj16 (by with_reducible assumption)) | exact Ne.symm (ck16 (by with_reducible assumption)) | exact (cj0 (cj0 (by with_reducible assumption))) | exact (cj1 (cj0 (by with_reducible assumption))) | exact (ck2 (cj0 (by with_reducible assumption))) | exact (cj0 (cj1 (by with_reducible assumption))) | exact (cj1 (cj1 (by with_reducible assumption))) | exact (ck2 (cj1 (by with_reducible assumption))) | exact (cj0 (ck1 (by with_reducible assumption))) | exact (cj1 (ck1 (by with_reducible assumption))) | exact (ck2 (ck1 (by with_reducible assumption))) | exact (cj0 (cj2 (by with_reducible assumption))) | exact (cj1 (cj2 (by with_reducible assumption))) | exact (ck2 (cj2 (by with_reducible assumption))) | exact (cj0 (ck2 (by with_reducible assumption))) | exact (cj1 (ck2 (by with_reducible assumption))) | exact (ck2 (ck2 (by with_reducible assumption))) | exact (cj0 (cj3 (by with_reducible assumption))) | exact (cj1 (cj3 (by with_reducible assumption))) | exact (ck2 (cj3 (by with_reducible assumption))) | exact (cj0 (ck3 (by with_reducible assumption))) | exact (cj1 (ck3 (by with_reducible assumption))) | exact (ck2 (ck3 (by with_reducible assumption))) | exact (cj0 (cj4 (by with_reducible assumption))) | exact (cj1 (cj4 (by with_reducible assumption))) | exact (ck2 (cj4 (by with_reducible assumption))) | exact (cj0 (ck4 (by with_reducible assumption))) | exact (cj1 (ck4 (by with_reducible assumption))) | exact (ck2 (ck4 (by with_reducible assumption))) | exact (cj0 (cj5 (by with_reducible assumption))) | exact (cj1 (cj5 (by with_reducible assumption))) | exact (ck2 (cj5 (by with_reducible assumption))) | exact (cj0 (ck5 (by with_reducible assumption))) | exact (cj1 (ck5 (by with_reducible assumption))) | exact (ck2 (ck5 (by with_reducible assumption))) | exact (cj0 (cj6 (by with_reducible assumption))) | exact (cj1 (cj6 (by with_reducible assumption))) | exact (ck2 (cj6 (by with_reducible assumption))) | exact (cj0 (ck6 (by with_reducible assumption))) | exact (cj1 (ck6 (by with_reducible assumption))) | exact (ck2 (ck6 (by with_reducible assumption))) | exact (cj0 (cj7 (by with_reducible assumption))) | exact (cj1 (cj7 (by with_reducible assumption))) | exact (ck2 (cj7 (by with_reducible assumption))) | exact (cj0 (ck7 (by with_reducible assumption))) | exact (cj1 (ck7 (by with_reducible assumption))) | exact (ck2 (ck7 (by with_reducible assumption))) | exact (cj0 (cj8 (by with_reducible assumption))) | exact (cj1 (cj8 (by with_reducible assumption))) | exact (ck2 (cj8 (by with_reducible assumption))) | exact (cj0 (ck8 (by with_reducible assumption))) | exact (cj1 (ck8 (by with_reducible assumption))) | exact (ck2 (ck8 (by with_reducible assumption))) | exact Ne.symm (cj0 (cj0 (by with_reducible assumption))) | exact Ne.symm (cj1 (cj0 (by with_reducible assumption))) | exact Ne.symm (ck2 (cj0 (by with_reducible assumption))) | exact Ne.symm (cj0 (cj1 (by with_reducible assumption))) | exact Ne.symm (cj1 (cj1 (by with_reducible assumption))) | exact Ne.symm (ck2 (cj1 (by with_reducible assumption))) | exact Ne.symm (cj0 (ck1 (by with_reducible assumption))) | exact Ne.symm (cj1 (ck1 (by with_reducible assumption))) | exact Ne.symm (ck2 (ck1 (by with_reducible assumption))) | exact Ne.symm (cj0 (cj2 (by with_reducible assumption))) | exact Ne.symm (cj1 (cj2 (by with_reducible assumption))) | exact Ne.symm (ck2 (cj2 (by with_reducible assumption))) | exact Ne.symm (cj0 (ck2 (by with_reducible assumption))) | exact Ne.symm (cj1 (ck2 (by with_reducible assumption))) | exact Ne.symm (ck2 (ck2 (by with_reducible assumption))) | exact Ne.symm (cj0 (cj3 (by with_reducible assumption))) | exact Ne.symm (cj1 (cj3 (by with_reducible assumption))) | exact Ne.symm (ck2 (cj3 (by with_reducible assumption))) | exact Ne.symm (cj0 (ck3 (by with_reducible assumption))) | exact Ne.symm (cj1 (ck3 (by with_reducible assumption))) | exact Ne.symm (ck2 (ck3 (by with_reducible assumption))) | exact Ne.symm (cj0 (cj4 (by with_reducible assumption))) | exact Ne.symm (cj1 (cj4 (by with_reducible assumption))) | exact Ne.symm (ck2 (cj4 (by with_reducible assumption))) | exact Ne.symm (cj0 (ck4 (by with_reducible assumption))) | exact Ne.symm (cj1 (ck4 (by with_reducible assumption))) | exact Ne.symm (ck2 (ck4 (by with_reducible assumption))) | exact Ne.symm (cj0 (cj5 (by with_reducible assumption))) | exact Ne.symm (cj1 (cj5 (by with_reducible assumption))) | exact Ne.symm (ck2 (cj5 (by with_reducible assumption))) | exact Ne.symm (cj0 (ck5 (by with_reducible assumption))) | exact Ne.symm (cj1 (ck5 (by with_reducible assumption))) | exact Ne.symm (ck2 (ck5 (by with_reducible assumption))) | exact Ne.symm (cj0 (cj6 (by with_reducible assumption))) | exact Ne.symm (cj1 (cj6 (by with_reducible assumption))) | exact Ne.symm (ck2 (cj6 (by with_reducible assumption))) | exact Ne.symm (cj0 (ck6 (by with_reducible assumption))) | exact Ne.symm (cj1 (ck6 (by with_reducible assumption))) | exact Ne.symm (ck2 (ck6 (by with_reducible assumption))) | exact Ne.symm (cj0 (cj7 (by with_reducible assumption))) | exact Ne.symm (cj1 (cj7 (by with_reducible assumption))) | exact Ne.symm (ck2 (cj7 (by with_reducible assumption))) | exact Ne.symm (cj0 (ck7 (by with_reducible assumption))) | exact Ne.symm (cj1 (ck7 (by with_reducible assumption))) | exact Ne.symm (ck2 (ck7 (by with_reducible assumption))) | exact Ne.symm (cj0 (cj8 (by with_reducible assumption))) | exact Ne.symm (cj1 (cj8 (by with_reducible assumption))) | exact Ne.symm (ck2 (cj8 (by with_reducible assumption))) | exact Ne.symm (cj0 (ck8 (by with_reducible assumption))) | exact Ne.symm (cj1 (ck8 (by with_reducible assumption))) | exact Ne.symm (ck2 (ck8 (by with_reducible assumption)))))
  refine wpAny_call ?_
  refine lam_pure (binds := [(Str.ofString "_m", Value.ref mo)]) B F X T hA hf hke ho hcd hroom rfl (locs rfl) ?_ rfl rfl rfl (by decide)
  intro L' h' F' N' B' X' T'
  have hl : (⟨x.cps.extract b e⟩ : Str).length ≤ x.length := by
    show (x.cps.extract b e).size ≤ x.cps.size
    rw [Array.size_extract]
    omega
  (try dsimp only)
  have hret' : ∀ y t h' tk', Stays s.heap h' → y = (⟨x.cps.extract b e⟩ : Str) → Q (.str (pre ++ y) t) { s with heap := h', toks := tk' } := fun y t h' tk' k q => by subst q; exact hret t h' tk' k
  k_steps
  · exact hret' _ _ _ _ (Fr.keep F') rfl
  · exact hret' _ _ _ _ (Fr.keep F') (empty_of (by omega)).symm
end Mine
end
section
open PySem PySem.W PySem.Calls PyProof.Rows Builtin Builtin.Re
namespace Mine
/-- what a substitution finds, from place p on, and what it puts together -/
inductive Plan (code : Array Nat) (x pre : Str) : Nat → Bool → List Str → Prop
  | fin {p : Nat} {must : Bool} {k : Nat} : k ≤ 4 * (2 ^ 64 - 1) → Re.Wp (Sre.forSearch code x.cps 1 p x.cps.size must) k Re.Miss → Plan code x pre p must (if p < x.cps.size then [⟨x.cps.extract p x.cps.size⟩] else [])
  | more {p : Nat} {must : Bool} {k n e b c : Nat} {li : Int} {out : List Str} : k ≤ 4 * (2 ^ 64 - 1) → Re.Wp (Sre.forSearch code x.cps 1 p x.cps.size must) k (Re.Hit n e 1 li #[some b, some c]) → b ≤ c → Plan code x pre e (e == n) out →
      Plan code x pre p must ((if p < n then [⟨x.cps.extract p n⟩] else []) ++ (pre ++ (⟨x.cps.extract b c⟩ : Str)) :: out)
def tot (l : List Str) : Nat := (l.map (·.length)).sum + l.length
theorem tot_append (a b : List Str) : tot (a ++ b) = tot a + tot b := by
  unfold tot
  rw [List.map_append, List.sum_append, List.length_append]
  omega
theorem tot_cons (a : Str) (b : List Str) : tot (a :: b) = a.length + 1 + tot b := by
  unfold tot
  rw [List.map_cons, List.sum_cons, List.length_cons]
  omega
theorem tot_nil : tot [] = 0 := rfl
abbrev lstO (vs : List Value) (cnt : Nat) : Obj := { cls := .type "list", data := .seq vs.toArray cnt }
section
variable {prog : Program} {w : World} {A : Around} {E : Value → Shared → Prop} {s : Shared} {pl : Addr} {vs : List Value} {cnt : Nat}
theorem push_at {v : Value} {Q : Unit → Shared → Prop} (ho : s.heap.get? pl = some (lstO vs cnt)) (hz : vs.length ≤ 16777215) (h : ∀ h' cnt', Heap.SameBut pl s.heap h' → h'.get? pl = some (lstO (vs ++ [v]) cnt') → Q () { s with heap := h' }) :
    wpAny (model prog w) A (updateSeq pl (·.push v)) Q E s := by
  refine wpAny_updateSeq ho rfl (h _ (cnt + 1) (Heap.SameBut.update ..) ?_) (by rw [List.size_toArray, sizeLine_eq]; omega) (by rw [Array.size_push, List.size_toArray, sizeLine_eq]; omega)
  rw [Heap.get?_update_self _ ho rfl]
  have e : (if (vs.toArray.push v).size == vs.toArray.size then cnt else cnt + 1) = cnt + 1 := by
    rw [if_neg]
    simp
  show some (⟨_, _, .seq (vs.toArray.push v) (if (vs.toArray.push v).size == vs.toArray.size then cnt else cnt + 1), _⟩ : Obj) = _
  rw [e, List.push_toArray]
theorem slice_at {text : Array Nat} {b e : Nat} {Q : Value → Shared → Prop} (hx : text.size ≤ sizeLine) (h : Q (.str ⟨text.extract b e⟩ s.toks) { s with toks := s.toks + 1 }) : wpAny (model prog w) A (reSlice text 0 b e) Q E s := by
  show wpAny _ _ (mkStr ⟨text.extract b e⟩) _ _ _
  refine wpAny_mkStr h ?_
  show (text.extract b e).size ≤ sizeLine
  rw [Array.size_extract]
  omega

abbrev subArgs (pa : Addr) (x : Str) (t : Tok) (f : Value) (n p : Nat) (must : Bool) (pl : Addr) : Args := ⟨[.ref pa, .str x t, f, rawInt 1, rawInt 0, rawInt n, rawInt p, rawInt p, .bool must, .ref pl, .bool false], []⟩
theorem sub_loop {pa : Addr} {code : Array Nat} {x pre : Str} {tx : Tok} {f : Value} {R : Result → Shared → Prop} (Inv : Heap → Prop)
    (hInv : ∀ h h' vs cnt, Inv h → h.get? pl = some (lstO vs cnt) → Heap.ExtBut pl h h' → Inv h') (hpat : ∀ h, Inv h → PatAt h pa code 1)
    (hlam : ∀ (s : Shared) (mo : Addr) (st hd b e : Nat) (Q E : Value → Shared → Prop), Inv s.heap → MatAt s.heap mo x #[(st : Int), hd, b, e] → (∀ t h' tk', Stays s.heap h' → Q (.str (pre ++ ⟨x.cps.extract b e⟩) t) { s with heap := h', toks := tk' }) → wpAny (model prog w) A.in1 (call f [.ref mo]) Q E s)
    (hx : x.length ≤ 1000000) {p : Nat} {must : Bool} {out : List Str} (hp : Plan code x pre p must out) :
    ∀ (s : Shared) (acc : List Str) (vs : List Value) (n cnt : Nat), Inv s.heap → s.heap.get? pl = some (lstO vs cnt) → StrsAre vs acc → tot acc + tot out ≤ 16000000 →
      (∀ r t h' tk', Heap.ExtBut pl s.heap h' → r = Txt.join (Str.ofString "") (acc ++ out) → R (.ok (.ret (.str r t))) { s with heap := h', toks := tk' }) →
      codeAny (model prog w) A (.builtin "re.Pattern.sub.loop" (subArgs pa x tx f n p must pl)) R s := by
  induction hp with
  | @fin p must k hk hw =>
    intro s acc vs n cnt hI hl hv ht hR
    refine codeAny_builtin Fc.entry_subloop ?_
    rw [Around.under_plainId (by decide +kernel)]
    unfold Builtin.«re.Pattern.sub.loop»
    dsimp only
    refine wpAny_bind (whole_at (hpat _ hI) ?_)
    dsimp only
    rw [if_neg (by decide), if_neg (by simp)]
    unfold reNextFound
    refine wpAny_bind (end_miss (by exact hw) hk ?_)
    dsimp only [Int.toNat_natCast]
    have hsz : x.cps.size ≤ sizeLine := by rw [sizeLine_eq]; have : x.cps.size ≤ 1000000 := hx; omega
    have hlen : vs.length ≤ 16000000 := by
      have : vs.length = acc.length := hv.len_eq
      have : acc.length ≤ tot acc := by unfold tot; omega
      omega
    have fin : ∀ (s' : Shared) (vs' : List Value) (ys : List Str) (cnt' : Nat), (∃ tk, s' = { s with heap := s'.heap, toks := tk }) → Heap.ExtBut pl s.heap s'.heap → s'.heap.get? pl = some (lstO vs' cnt') → StrsAre vs' ys → tot ys ≤ 16000000 → ys = acc ++ (if p < x.cps.size then [⟨x.cps.extract p x.cps.size⟩] else []) →
        wpAny (model prog w) A.in1 (do
          let joiner ← reSlice x.cps 0 0 0
          let it ← seqItems? (.ref pl)
          if (it.getD #[]).isEmpty = true then do
            let text ← pure joiner
            if false = true then do
              let q ← holding [text] do
                let q ← mkInt (n : Int)
                newTuple [text, q]
              ret q
            else ret text
          else do
            let text ← call (.builtin (if ((0 : Nat) == 0) = true then "str.join" else "bytes.join")) [joiner, .ref pl]
            if false = true then do
              let q ← holding [text] do
                let q ← mkInt (n : Int)
                newTuple [text, q]
              ret q
            else ret text) (fun fin s' => match fin with
              | .done f => R (.ok f) s'
              | .again c' => c'.quiet = true ∧ codeAny (model prog w) A c' R s') (fun e s' => R (.error e) s') s' := by
      intro s' vs' ys cnt' ⟨tk, es⟩ k1 k2 k3 k4 k5
      refine wpAny_bind (slice_at hsz ?_)
      refine wpAny_bind (wpAny_seqItems k2 rfl ?_)
      have e0 : (⟨x.cps.extract 0 0⟩ : Str) = Str.ofString "" := by
        refine Str.ext' ?_
        show x.cps.extract 0 0 = #[]
        simp
      rw [e0]
      have done : ∀ r t tk', r = Txt.join (Str.ofString "") ys → R (.ok (.ret (.str r t))) { s' with toks := tk' } := by
        intro r t tk' e
        rw [es]
        exact hR r t s'.heap tk' k1 (by rw [e, k5])
      cases hvs : vs' with
      | nil =>
        rw [hvs] at k3
        cases k3
        rw [if_pos (show (((some (([] : List Value).toArray)).getD #[]).isEmpty) = true from rfl)]
        exact wpAny_bind (wpAny_pure (wpAny_pure (done _ _ _ rfl)))
      | cons v r =>
        rw [if_neg (by simp)]
        have hl' : s'.heap.IsList pl (v :: r).toArray := ⟨lstO vs' cnt', k2, rfl, cnt', by rw [hvs]⟩
        refine wpAny_bind (join_list (items := (v :: r).toArray) hl' (by rw [← hvs]; exact k3) ?_ fun t' k => ?_)
        · unfold tot at k4
          have : (Str.ofString "").length = 0 := by decide
          rw [this]
          omega
        · exact wpAny_pure (done _ _ _ rfl)
    by_cases hlt : p < x.cps.size
    · rw [if_pos (by show (p : Int).toNat < x.cps.size; omega)]
      refine wpAny_bind (slice_at hsz ?_)
      refine wpAny_bind (push_at hl (by omega) fun h' cnt' hs ho => ?_)
      refine fin _ _ (acc ++ [⟨x.cps.extract p x.cps.size⟩]) cnt' ⟨_, rfl⟩ hs.extBut ho (KStt.strs_snoc hv) ?_ (by rw [if_pos hlt])
      rw [tot_append]
      rw [if_pos hlt] at ht
      exact ht
    · rw [if_neg (by show ¬ (p : Int).toNat < x.cps.size; omega)]
      refine fin s vs acc cnt ⟨s.toks, rfl⟩ (fun _ _ _ e => e) hl hv ?_ (by rw [if_neg hlt, List.append_nil])
      rw [if_neg hlt, tot_nil] at ht
      omega
  | @more p must k n' e b c li out hk hw hbc hp ih =>
    intro s acc vs n cnt hI hl hv ht hR
    refine codeAny_builtin Fc.entry_subloop ?_
    rw [Around.under_plainId (by decide +kernel)]
    unfold Builtin.«re.Pattern.sub.loop»
    dsimp only
    refine wpAny_bind (whole_at (hpat _ hI) ?_)
    dsimp only
    rw [if_neg (by decide), if_neg (by simp)]
    unfold reNextFound
    refine wpAny_bind (end_hit (by exact hw) hk fun m' hm => ?_)
    dsimp only [Int.toNat_natCast]
    have hsz : x.cps.size ≤ sizeLine := by rw [sizeLine_eq]; have : x.cps.size ≤ 1000000 := hx; omega
    have hst : m'.start = n' := hm.2.1
    have hhd : m'.handed = e := hm.2.2.1
    have hlen : vs.length ≤ tot acc := by
      have h1 : vs.length = acc.length := hv.len_eq
      have h2 : acc.length ≤ tot acc := by unfold tot; omega
      omega
    have step : ∀ (s' : Shared) (vs' : List Value) (ys : List Str) (cnt' : Nat), (∃ tk, s' = { s with heap := s'.heap, toks := tk }) → Heap.ExtBut pl s.heap s'.heap → s'.heap.get? pl = some (lstO vs' cnt') → StrsAre vs' ys → tot ys + (pre ++ (⟨x.cps.extract b c⟩ : Str)).length + 1 + tot out ≤ 16000000 → ys = acc ++ (if p < n' then [⟨x.cps.extract p n'⟩] else []) →
        wpAny (model prog w) A.in1 (do
          let found ← reNewMatch (.ref pa) (.str x tx) 1 0 x.cps.size m'
          let item ← holding [found] (call f [found])
          if (item != Value.none) = true then do
            updateSeq pl (·.push item)
            again (.builtin "re.Pattern.sub.loop" ⟨[.ref pa, .str x tx, f, rawInt 1, rawInt 0, rawInt ((n : Int) + 1), rawInt m'.handed, rawInt m'.handed, .bool (m'.handed == m'.start), .ref pl, .bool false], []⟩)
          else again (.builtin "re.Pattern.sub.loop" ⟨[.ref pa, .str x tx, f, rawInt 1, rawInt 0, rawInt ((n : Int) + 1), rawInt m'.handed, rawInt m'.handed, .bool (m'.handed == m'.start), .ref pl, .bool false], []⟩)) (fun fin s' => match fin with
              | .done f => R (.ok f) s'
              | .again c' => c'.quiet = true ∧ codeAny (model prog w) A c' R s') (fun e s' => R (.error e) s') s' := by
      intro s' vs' ys cnt' ⟨tk, es⟩ k1 k2 k3 k4 k5
      have hI' := hInv _ _ _ _ hI hl k1
      refine wpAny_bind (newMatch_one hm hbc fun mo h1 q1 q2 q3 => ?_)
      have hI1 := hInv _ h1 _ _ hI' k2 fun b o _ e => q1 b o e
      refine wpAny_bind (wpAny_holding (hlam _ mo _ _ b c _ _ hI1 q3 fun t h2 tk2 r1 => ?_))
      rw [if_pos (show (Value.str (pre ++ (⟨x.cps.extract b c⟩ : Str)) t != Value.none) = true from rfl)]
      have k2' : h2.get? pl = some (lstO vs' cnt') := r1 _ _ (q1 _ _ k2)
      have hlen' : vs'.length ≤ 16000000 := by
        have h1 : vs'.length = ys.length := k3.len_eq
        have h2 : ys.length ≤ tot ys := by unfold tot; omega
        omega
      refine wpAny_bind (push_at k2' (by omega) fun h3 cnt3 hs3 ho3 => ?_)
      refine wpAny_pure ⟨Code.quiet_builtin _ (by decide +kernel), ?_⟩
      have hx3 : Heap.ExtBut pl s'.heap h3 := fun b o hb e => hs3.extBut b o hb (r1 b o (q1 b o e))
      rw [hst, hhd]
      refine ih { s' with heap := h3, toks := tk2 } (ys ++ [pre ++ ⟨x.cps.extract b c⟩]) _ (n + 1) cnt3 (hInv _ _ _ _ hI' k2 hx3) ho3 (KStt.strs_snoc k3) ?_ ?_
      · rw [tot_append, tot_cons, tot_nil]
        omega
      · intro r t h' tk' hb er
        have := hR r t h' tk' (fun b o hb' eb => hb b o hb' (hx3 b o hb' (k1 b o hb' eb))) (by rw [er, k5]; simp)
        rw [es]
        exact this
    rw [tot_append, tot_cons] at ht
    by_cases hlt : p < n'
    · rw [if_pos (by show (p : Int).toNat < m'.start; rw [hst]; omega)]
      refine wpAny_bind (slice_at hsz ?_)
      rw [if_pos hlt, tot_cons, tot_nil] at ht
      refine wpAny_bind (push_at hl (by omega) fun h' cnt' hs ho => ?_)
      rw [hst] at ho
      refine step _ _ (acc ++ [⟨x.cps.extract p n'⟩]) cnt' ⟨_, rfl⟩ hs.extBut ho (KStt.strs_snoc hv) ?_ (by rw [if_pos hlt])
      rw [tot_append, tot_cons, tot_nil]
      omega
    · rw [if_neg (by show ¬ (p : Int).toNat < m'.start; rw [hst]; omega)]
      rw [if_neg hlt, tot_nil] at ht
      refine step s vs acc cnt ⟨s.toks, rfl⟩ (fun _ _ _ e => e) hl hv ?_ (by rw [if_neg hlt, List.append_nil])
      omega
end
end Mine
end
section
open PySem PySem.W PySem.Calls PyProof.Rows Builtin Builtin.Re
namespace Mine
namespace Fc
theorem lk_fcall : typeLookup (.type "function") "__call__" = pure (some (.builtin "function.__call__")) := by rw [typeLookup_type, builtinLookup_eq_fast]; kernel_rfl
theorem str_not_bytearray : isSubtype (.type "str") (.type "bytearray") = pure false := by rw [isSubtype_type]; kernel_rfl
end Fc
section
variable {prog : Program} {w : World} {A : Around} {E : Value → Shared → Prop} {s : Shared}
theorem call_sub {pa f : Addr} {code : Array Nat} {x pre : Str} {tx : Tok} {Q : Value → Shared → Prop} {out : List Str} (Inv : Heap → Prop) (hI : Inv s.heap)
    (hInv : ∀ h h' pl vs cnt, s.heap.get? pl = none → Inv h → h.get? pl = some (lstO vs cnt) → Heap.ExtBut pl h h' → Inv h') (hpush : ∀ h' , Stays s.heap h' → Inv h') (hpat : ∀ h, Inv h → PatAt h pa code 1)
    (hlam : ∀ (s : Shared) (mo : Addr) (st hd b e : Nat) (Q E : Value → Shared → Prop), Inv s.heap → MatAt s.heap mo x #[(st : Int), hd, b, e] → (∀ t h' tk', Stays s.heap h' → Q (.str (pre ++ ⟨x.cps.extract b e⟩) t) { s with heap := h', toks := tk' }) → wpAny (model prog w) A.in1 (call (.ref f) [.ref mo]) Q E s)
    (hf : s.TypeIs (.ref f) "function") (hx : x.length ≤ 1000000) (hp : Plan code x pre 0 false out) (ht : tot out ≤ 16000000)
    (hR : ∀ r t h' tk', Stays s.heap h' → r = Txt.join (Str.ofString "") out → Q (.str r t) { s with heap := h', toks := tk' }) :
    wpAny (model prog w) A (call (.builtin "re.Pattern.sub") [.ref pa, .ref f, .str x tx]) Q E s := by
  refine call_slot Fc.slot_sub Fc.entry_sub (hpat _ hI).typeIs (Fc.args_sub _ _ _) ?_
  unfold Builtin.«re.Pattern.sub» reSubstitute
  dsimp only
  have hn : reNamed "re.Pattern.sub" "sub" ["repl", "string", "count"] 2 [.ref f, .str x tx] [] = pure [some (.ref f), some (.str x tx), none] := rfl
  rw [hn]
  refine wpAny_bind (wpAny_pure ?_)
  refine wpAny_bind (wpAny_pure ?_)
  refine wpAny_bind (wpAny_specialOf hf Fc.lk_fcall ?_)
  simp only [Option.isSome_some, if_true]
  refine wpAny_bind (wpAny_pure ?_)
  refine wpAny_bind (wpAny_pure ?_)
  refine wpAny_bind (wpAny_holding (whole_at (hpat _ hI) ?_))
  rw [if_pos (show ((1 : Int) == 1) = true from rfl)]
  unfold reNotHeld
  refine wpAny_bind (wpAny_bind (wpAny_isInstance (T := "str") (b := false) rfl Fc.str_not_bytearray ?_))
  rw [if_neg (by decide)]
  refine wpAny_pure ?_
  refine wpAny_bind (wpAny_newList ?_)
  refine wpAny_pure ⟨Code.quiet_builtin _ (by decide +kernel), ?_⟩
  have hnone : s.heap.get? s.heap.objs.size = none := by
    cases q : s.heap.get? s.heap.objs.size with
    | none => rfl
    | some o => exact absurd (Heap.lt_size q) (Nat.lt_irrefl _)
  refine sub_loop (pl := s.heap.objs.size) (R := fun r s' => match r with | .ok (.ret v) => Q v s' | .ok _ => False | .error e => E e s') Inv (fun h h' vs cnt i1 i2 i3 => hInv h h' _ vs cnt hnone i1 i2 i3) hpat hlam hx hp _ [] [] 0 0 (hpush _ (stays_push _ _)) (get_push_self _ _ rfl) .nil (by rw [tot_nil]; omega) ?_
  intro r t h' tk' hb er
  exact hR r t h' tk' (fun b o e => hb b o (new_ne e) (stays_push _ _ _ _ e)) er
end
end Mine
end
section
open PySem PySem.W PySem.Calls PyProof.Rows Builtin Builtin.Re
namespace Mine
theorem foldl_glue (g : Array Nat) (hg : g = #[]) : ∀ (r : List Str) (acc : Array Nat), (r.foldl (fun acc p => acc ++ g ++ p.cps) acc).toList = acc.toList ++ r.flatMap (fun y => y.cps.toList)
  | [], acc => by simp
  | y :: r, acc => by
    rw [List.foldl_cons, foldl_glue g hg r, hg]
    simp
theorem join_flat (ys : List Str) : Txt.join (Str.ofString "") ys = S (ys.flatMap fun y => y.cps.toList) := by
  cases ys with
  | nil => rfl
  | cons a r =>
    refine Str.ext' ?_
    refine Array.toList_inj.mp ?_
    show (r.foldl (fun acc p => acc ++ (Str.ofString "").cps ++ p.cps) a.cps).toList = _
    rw [foldl_glue _ (by decide)]
    simp
/-- a mark or a backslash gets a backslash ahead of it -/
def escL (l : List Nat) : List Nat := l.flatMap fun c => if Re.isQ c then [92, c] else [c]
theorem escL_cons (c : Nat) (l : List Nat) : escL (c :: l) = (if Re.isQ c then [92, c] else [c]) ++ escL l := rfl
theorem escL_append (a b : List Nat) : escL (a ++ b) = escL a ++ escL b := List.flatMap_append
theorem escL_free : ∀ l : List Nat, (∀ c ∈ l, Re.isQ c = false) → escL l = l
  | [], _ => rfl
  | c :: l, h => by
    rw [escL_cons, h c (.head _), escL_free l fun x hx => h x (.tail _ hx)]
    rfl
theorem escL_len (l : List Nat) : l.length ≤ (escL l).length ∧ (escL l).length ≤ 2 * l.length := by
  induction l with
  | nil => exact ⟨Nat.le_refl _, Nat.le_refl _⟩
  | cons c l ih =>
    rw [escL_cons]
    cases Re.isQ c <;> simp only [Bool.false_eq_true, if_true, if_false, List.length_append, List.length_cons, List.length_nil] <;> omega
theorem first_at (q : Nat → Bool) (n : Nat) : ∀ (d p : Nat), p + d = n → (∀ j, p ≤ j → j < n → q j = false) ∨ ∃ k, p ≤ k ∧ k < n ∧ (∀ j, p ≤ j → j < k → q j = false) ∧ q k = true
  | 0, p, e => .inl fun j h1 h2 => by omega
  | d + 1, p, e => by
    cases h : q p with
    | true => exact .inr ⟨p, Nat.le_refl _, by omega, fun j h1 h2 => by omega, h⟩
    | false =>
      rcases first_at q n d (p + 1) (by omega) with x | ⟨k, x1, x2, x3, x4⟩
      · exact .inl fun j h1 h2 => by
          by_cases e : j = p
          · rw [e]; exact h
          · exact x j (by omega) h2
      · exact .inr ⟨k, by omega, x2, fun j h1 h2 => by
          by_cases e : j = p
          · rw [e]; exact h
          · exact x3 j (by omega) h2, x4⟩
theorem getD_toList (a : Array Nat) (j : Nat) (h : j < a.size) : a.toList[j]? = some (a.getD j 0) := by
  rw [Array.getElem?_toList, Array.getElem?_eq_getElem h, Array.getD, dif_pos h]
  rfl
theorem extract_list (a : Array Nat) (b e : Nat) : (a.extract b e).toList = (a.toList.drop b).take (e - b) := by
  rw [Array.toList_extract, List.extract_eq_take_drop]
/-- the signs from p to n, none of which the search takes -/
theorem seg_free (a : Array Nat) (q : Nat → Bool) (p n : Nat) (hn : n ≤ a.size) (h : ∀ j, p ≤ j → j < n → q (a.getD j 0) = false) : ∀ c ∈ (a.extract p n).toList, q c = false := by
  intro c hc
  rw [extract_list] at hc
  obtain ⟨i, hi⟩ := List.getElem?_of_mem hc
  rw [List.getElem?_take] at hi
  split at hi
  · rw [List.getElem?_drop, getD_toList a (p + i) (by omega)] at hi
    cases hi
    exact h _ (by omega) (by omega)
  · cases hi
theorem drop_split (a : Array Nat) (p n : Nat) (hp : p ≤ n) : a.toList.drop p = (a.extract p n).toList ++ a.toList.drop n := by
  rw [extract_list]
  have := List.take_append_drop (n - p) (a.toList.drop p)
  rw [List.drop_drop, show p + (n - p) = n by omega] at this
  exact this.symm
theorem drop_last (a : Array Nat) (p : Nat) (hp : p ≤ a.size) : a.toList.drop p = (a.extract p a.size).toList := by
  rw [drop_split a p a.size hp, List.drop_of_length_le (by simp), List.append_nil]
theorem drop_one (a : Array Nat) (n : Nat) (h : n < a.size) : a.toList.drop n = a.getD n 0 :: a.toList.drop (n + 1) := by
  have := getD_toList a n h
  exact (List.drop_eq_getElem_cons (by simpa using h)).trans (by
    congr 1
    have h' : n < a.toList.length := by simpa using h
    rw [List.getElem?_eq_getElem h'] at this
    exact Option.some.inj this)
theorem extract_one (a : Array Nat) (n : Nat) (h : n < a.size) : (a.extract n (n + 1)).toList = [a.getD n 0] := by
  rw [extract_list, drop_one a n h, show n + 1 - n = 1 by omega]
  rfl
theorem seg_out (x : Str) (p n : Nat) : ((if p < n then [(⟨x.cps.extract p n⟩ : Str)] else []).flatMap fun y => y.cps.toList) = (x.cps.extract p n).toList ∧ tot (if p < n then [(⟨x.cps.extract p n⟩ : Str)] else []) ≤ n - p + 1 := by
  by_cases h : p < n
  · rw [if_pos h]
    refine ⟨by simp, ?_⟩
    rw [tot_cons, tot_nil]
    show (x.cps.extract p n).size + 1 + 0 ≤ _
    rw [Array.size_extract]
    omega
  · rw [if_neg h]
    refine ⟨?_, Nat.zero_le _⟩
    rw [extract_list, show n - p = 0 by omega]
    rfl
theorem esc_plan (x : Str) : ∀ (d p : Nat) (must : Bool), x.cps.size - p ≤ d → p ≤ x.cps.size → ∃ out, Plan Re.cEsc x (Str.ofString "\\") p must out ∧ (out.flatMap fun y => y.cps.toList) = escL (x.cps.toList.drop p) ∧ tot out ≤ 4 * (x.cps.size - p) + 1 := by
  intro d
  induction d with
  | zero =>
    intro p must hd hp
    have hno : ∀ j, p ≤ j → j < x.cps.size → Re.isQ (x.cps.getD j 0) = false := fun j h1 h2 => by omega
    refine ⟨_, .fin (by decide) (Re.esc_no x.cps p must hno), ?_, ?_⟩
    · rw [(seg_out x p x.cps.size).1, drop_last x.cps p hp, escL_free _ (seg_free x.cps Re.isQ p x.cps.size (Nat.le_refl _) hno)]
    · have := (seg_out x p x.cps.size).2
      omega
  | succ d ih =>
    intro p must hd hp
    rcases first_at (fun j => Re.isQ (x.cps.getD j 0)) x.cps.size (x.cps.size - p) p (by omega) with hno | ⟨n, h1, h2, h3, h4⟩
    · refine ⟨_, .fin (by decide) (Re.esc_no x.cps p must hno), ?_, ?_⟩
      · rw [(seg_out x p x.cps.size).1, drop_last x.cps p hp, escL_free _ (seg_free x.cps Re.isQ p x.cps.size (Nat.le_refl _) hno)]
      · have := (seg_out x p x.cps.size).2
        omega
    · obtain ⟨out, o1, o2, o3⟩ := ih (n + 1) (n + 1 == n) (by omega) (by omega)
      refine ⟨_, .more (by decide) (Re.esc_hit x.cps p n must h1 h2 h3 h4) (Nat.le_succ n) o1, ?_, ?_⟩
      · rw [List.flatMap_append, List.flatMap_cons, (seg_out x p n).1, o2, Str.cps_append, Array.toList_append, drop_split x.cps p n h1, drop_one x.cps n h2, escL_append, escL_cons, escL_free _ (seg_free x.cps Re.isQ p n (by omega) h3)]
        show _ ++ (_ ++ (x.cps.extract n (n + 1)).toList ++ _) = _
        rw [extract_one x.cps n h2, if_pos h4]
        rfl
      · have := (seg_out x p n).2
        rw [tot_append, tot_cons, Str.length_append]
        have q1 : (Str.ofString "\\").length = 1 := by decide
        have q2 : (⟨x.cps.extract n (n + 1)⟩ : Str).length ≤ 1 := by
          show (x.cps.extract n (n + 1)).size ≤ 1
          rw [Array.size_extract]
          omega
        omega

/-- a text in which every backslash has a sign behind it, and what it stands for -/
inductive Une : List Nat → List Nat → Prop
  | nil : Une [] []
  | plain {c : Nat} {l r : List Nat} : c ≠ 92 → Une l r → Une (c :: l) (c :: r)
  | pair {c : Nat} {l r : List Nat} : c ≠ 10 → Une l r → Une (92 :: c :: l) (c :: r)
theorem une_esc : ∀ l : List Nat, (∀ c ∈ l, c ≠ 10) → Une (escL l) l
  | [], _ => .nil
  | c :: l, h => by
    rw [escL_cons]
    cases q : Re.isQ c with
    | true => exact .pair (h c (.head _)) (une_esc l fun x hx => h x (.tail _ hx))
    | false =>
      refine .plain (fun e => ?_) (une_esc l fun x hx => h x (.tail _ hx))
      rw [e] at q
      cases q
theorem une_skip : ∀ (seg l r : List Nat), (∀ c ∈ seg, c ≠ 92) → Une (seg ++ l) r → ∃ r', r = seg ++ r' ∧ Une l r'
  | [], l, r, _, u => ⟨r, rfl, u⟩
  | c :: seg, l, r, h, u => by
    rw [List.cons_append] at u
    generalize hz : seg ++ l = z at u
    cases u with
    | plain hc u =>
      subst hz
      obtain ⟨r', e, u'⟩ := une_skip seg l _ (fun x hx => h x (.tail _ hx)) u
      exact ⟨r', by rw [e]; rfl, u'⟩
    | pair _ _ => exact absurd rfl (h 92 (.head _))
theorem une_next {l r : List Nat} (u : Une (92 :: l) r) : ∃ c l' r', l = c :: l' ∧ c ≠ 10 ∧ r = c :: r' ∧ Une l' r' := by
  cases u with
  | plain hc _ => exact absurd rfl hc
  | pair hc u => exact ⟨_, _, _, rfl, hc, rfl, u⟩
theorem une_plan (x : Str) (hs : x.cps.size < 1000000) : ∀ (d p : Nat) (must : Bool) (r : List Nat), x.cps.size - p ≤ d → p ≤ x.cps.size → Une (x.cps.toList.drop p) r → ∃ out, Plan Re.cUne x (Str.ofString "") p must out ∧ (out.flatMap fun y => y.cps.toList) = r ∧ tot out ≤ 4 * (x.cps.size - p) + 1 := by
  intro d
  have fin : ∀ (p : Nat) (must : Bool) (r : List Nat), p ≤ x.cps.size → Une (x.cps.toList.drop p) r → (∀ j, p ≤ j → j < x.cps.size → (x.cps.getD j 0 == 92) = false) → ∃ out, Plan Re.cUne x (Str.ofString "") p must out ∧ (out.flatMap fun y => y.cps.toList) = r ∧ tot out ≤ 4 * (x.cps.size - p) + 1 := by
    intro p must r hp hu hno
    have hno' : ∀ j, p ≤ j → j < x.cps.size → x.cps.getD j 0 ≠ 92 := fun j h1 h2 e => by have := hno j h1 h2; rw [e] at this; cases this
    refine ⟨_, .fin (by decide) (Re.une_no x.cps p must hs hno'), ?_, ?_⟩
    · rw [(seg_out x p x.cps.size).1]
      rw [drop_last x.cps p hp] at hu
      have hf : ∀ c ∈ (x.cps.extract p x.cps.size).toList, c ≠ 92 := fun c hc e => by
        have := seg_free x.cps (fun c => c == 92) p x.cps.size (Nat.le_refl _) hno c hc
        rw [e] at this; cases this
      obtain ⟨r', e, u'⟩ := une_skip _ [] r hf (by rw [List.append_nil]; exact hu)
      cases u'
      rw [e, List.append_nil]
    · have := (seg_out x p x.cps.size).2
      omega
  induction d with
  | zero =>
    intro p must r hd hp hu
    exact fin p must r hp hu fun j h1 h2 => by omega
  | succ d ih =>
    intro p must r hd hp hu
    rcases first_at (fun j => x.cps.getD j 0 == 92) x.cps.size (x.cps.size - p) p (by omega) with hno | ⟨n, h1, h2, h3, h4⟩
    · exact fin p must r hp hu hno
    · have h4' : x.cps.getD n 0 = 92 := by simpa using h4
      have h3' : ∀ j, p ≤ j → j < n → x.cps.getD j 0 ≠ 92 := fun j q1 q2 e => by have := h3 j q1 q2; rw [e] at this; cases this
      rw [drop_split x.cps p n h1, drop_one x.cps n h2, h4'] at hu
      have hf : ∀ c ∈ (x.cps.extract p n).toList, c ≠ 92 := fun c hc e => by
        have := seg_free x.cps (fun c => c == 92) p n (by omega) h3 c hc
        rw [e] at this; cases this
      obtain ⟨r1, e1, u1⟩ := une_skip _ _ r hf hu
      obtain ⟨c, l', r2, e2, hc, e3, u2⟩ := une_next u1
      have hn1 : n + 1 < x.cps.size := by
        have := congrArg List.length e2
        rw [List.length_drop, List.length_cons] at this
        have hl : x.cps.toList.length = x.cps.size := by simp
        omega
      rw [drop_one x.cps (n + 1) hn1] at e2
      have e2' := List.cons.inj e2
      obtain ⟨out, o1, o2, o3⟩ := ih (n + 2) (n + 2 == n) r2 (by omega) (by omega) (by rw [e2'.2]; exact u2)
      refine ⟨_, .more (by decide) (Re.une_hit x.cps p n must hs h1 hn1 h3' h4' (by rw [e2'.1]; exact hc)) (Nat.le_succ (n + 1)) o1, ?_, ?_⟩
      · rw [List.flatMap_append, List.flatMap_cons, (seg_out x p n).1, o2, Str.cps_append, Array.toList_append, e1, e3]
        show _ ++ ((Str.ofString "").cps.toList ++ (x.cps.extract (n + 1) (n + 1 + 1)).toList ++ _) = _
        rw [extract_one x.cps (n + 1) hn1, e2'.1]
        rfl
      · have := (seg_out x p n).2
        rw [tot_append, tot_cons, Str.length_append]
        have q1 : (Str.ofString "").length = 0 := by decide
        have q2 : (⟨x.cps.extract (n + 1) (n + 2)⟩ : Str).length ≤ 1 := by
          show (x.cps.extract (n + 1) (n + 2)).size ≤ 1
          rw [Array.size_extract]
          omega
        omega
end Mine
end
section
open PySem PySem.W PySem.Calls PyProof.Rows Builtin Builtin.Re
namespace Mine
theorem pat_tok {P : Params} {h : Heap} (X : (hd.heap_39 P).In h) : PatAt h 75 Re.cTok 0 := ⟨⟨_, _, X 75 _ rfl, rfl, rfl, rfl, rfl, rfl, 74, _, _, _, rfl, X 74 _ rfl, rfl, by decide +kernel⟩⟩
theorem pat_esc {P : Params} {h : Heap} (X : (hd.heap_39 P).In h) : PatAt h 80 Re.cEsc 1 := ⟨⟨_, _, X 80 _ rfl, rfl, rfl, rfl, rfl, rfl, 79, _, _, _, rfl, X 79 _ rfl, rfl, by decide +kernel⟩⟩
theorem pat_une {P : Params} {h : Heap} (X : (hd.heap_39 P).In h) : PatAt h 63 Re.cUne 1 := ⟨⟨_, _, X 63 _ rfl, rfl, rfl, rfl, rfl, rfl, 62, _, _, _, rfl, X 62 _ rfl, rfl, by decide +kernel⟩⟩
theorem pat_key {P : Params} {h : Heap} (X : (hd.heap_39 P).In h) : PatAt h 48 Re.cKey 1 := ⟨⟨_, _, X 48 _ rfl, rfl, rfl, rfl, rfl, rfl, 47, _, _, _, rfl, X 47 _ rfl, rfl, by decide +kernel⟩⟩
theorem pat_quo {P : Params} {h : Heap} (X : (hd.heap_39 P).In h) : PatAt h 53 Re.cQuo 1 := ⟨⟨_, _, X 53 _ rfl, rfl, rfl, rfl, rfl, rfl, 52, _, _, _, rfl, X 52 _ rfl, rfl, by decide +kernel⟩⟩
theorem pat_val {P : Params} {h : Heap} (X : (hd.heap_39 P).In h) : PatAt h 58 Re.cVal 1 := ⟨⟨_, _, X 58 _ rfl, rfl, rfl, rfl, rfl, rfl, 57, _, _, _, rfl, X 57 _ rfl, rfl, by decide +kernel⟩⟩
theorem pat_junk {P : Params} {h : Heap} (X : (hd.heap_39 P).In h) : PatAt h 36 Re.cJunk 0 := ⟨⟨_, _, X 36 _ rfl, rfl, rfl, rfl, rfl, rfl, 35, _, _, _, rfl, X 35 _ rfl, rfl, by decide +kernel⟩⟩

theorem sub_esc {prog : Program} {w : World} {A A₀ : Around} {s : Shared} {L : Addr} {h₀ base : Heap} {m mg mb : Str → Option Value} {p : Program} {loose : List Str} {mean : ExcName → Option Value} {Q E : Value → Shared → Prop}
    {env : Env} {outer : List Env} {qual : Str} {pm ctv : Value} {c' f : Addr} {p9 : Pos} {c1 c2 c3 c4 c5 c6 c7 c8 c9 d1 d2 d3 d4 d5 d6 d7 : Nat} {x : Str} {tx : Tok} 
    (B : Below A₀ base outer h₀) (F : Fr h₀ L s.heap m) (X : (hd.heap_39 w.params).In h₀) (T : Top p loose mean mg mb h₀) (hA : A.frames = some (env :: outer)) (hf : env.frame = some L) (hke : env.scope.kind = .function)
    (ho : s.heap.get? f = some (lamObj 57 (Str.ofString "\\") qual pm c' ctv p9 c1 c2 c3 c4 c5 c6 c7 c8 c9 d1 d2 d3 d4 d5 d6 d7)) (hcd : s.heap.CodeRec (.ref c') qual) (hroom : A.depth < recursionLimit)
    (hx : x.length ≤ 900000) 
    (hret : ∀ r' t h' tk', Stays s.heap h' → r' = S (escL x.cps.toList) → r'.length ≤ 2 * x.length → Q (.str r' t) { s with heap := h', toks := tk' }) : wpAny (model prog w) A (call (.builtin "re.Pattern.sub") [.ref 80, .ref f, .str x tx]) Q E s := by
  obtain ⟨out, o1, o2, o3⟩ := esc_plan x x.cps.size 0 false (by omega) (Nat.zero_le _)
  have hkeep : ∀ h h' pl vs cnt, s.heap.get? pl = none → (Fr h₀ L h m ∧ h.get? f = some (lamObj 57 (Str.ofString "\\") qual pm c' ctv p9 c1 c2 c3 c4 c5 c6 c7 c8 c9 d1 d2 d3 d4 d5 d6 d7) ∧ h.CodeRec (.ref c') qual) → h.get? pl = some (lstO vs cnt) → Heap.ExtBut pl h h' →
      (Fr h₀ L h' m ∧ h'.get? f = some (lamObj 57 (Str.ofString "\\") qual pm c' ctv p9 c1 c2 c3 c4 c5 c6 c7 c8 c9 d1 d2 d3 d4 d5 d6 d7) ∧ h'.CodeRec (.ref c') qual) := by
    intro h h' pl vs cnt hn ⟨F1, f1, r1⟩ hl k
    have ne : ∀ a o, s.heap.get? a = some o → a ≠ pl := fun a o e q => by rw [q, hn] at e; cases e
    obtain ⟨oL, es, ep, hL, r⟩ := F.ns
    obtain ⟨oL', es', ep', hL', r'⟩ := F1.ns
    refine ⟨⟨⟨oL', es', ep', k _ _ (ne _ _ hL) hL', r'⟩, fun b o e => k _ _ (ne _ _ (F.keep b o e)) (F1.keep b o e), F1.above⟩, k _ _ (ne _ _ ho) f1, ?_⟩
    obtain ⟨cc, oc, vs', t', e1, e2, e3, e4⟩ := r1
    obtain ⟨cc', oc', vs'', t'', e1', e2', _⟩ := hcd
    cases e1
    cases e1'
    exact ⟨_, oc, vs', t', rfl, k _ _ (ne _ _ e2') e2, e3, e4⟩
  refine call_sub (pre := Str.ofString "\\") (code := Re.cEsc) (out := out) (fun h => Fr h₀ L h m ∧ h.get? f = some (lamObj 57 (Str.ofString "\\") qual pm c' ctv p9 c1 c2 c3 c4 c5 c6 c7 c8 c9 d1 d2 d3 d4 d5 d6 d7) ∧ h.CodeRec (.ref c') qual) ⟨F, ho, hcd⟩ hkeep (fun h' k => ⟨fr_on F k, k _ _ ho, ?_⟩) (fun h ⟨F1, _, _⟩ => pat_esc (X.keeps F1.keep)) ?_ ⟨_, ho, rfl⟩ (by omega) o1 ?_ ?_
  · obtain ⟨cc, oc, vs', t', e1, e2, e3, e4⟩ := hcd
    exact ⟨cc, oc, vs', t', e1, k _ _ e2, e3, e4⟩
  · intro s' mo st hd9 b e Q' E' ⟨F1, f1, r1⟩ hm hq
    exact lam_call57 B F1 X T hA hf hke f1 r1 hroom hm (by omega) (by decide) hq
  · have : x.cps.size ≤ 900000 := hx
    omega
  · intro r' t h' tk' k e
    have er : r' = S (escL x.cps.toList) := by rw [e, join_flat, o2, List.drop_zero]
    refine hret r' t h' tk' k er ?_
    rw [er]
    have h1 := (escL_len x.cps.toList).2
    have h2 : x.cps.toList.length = x.length := by simp [Str.length]
    show (escL x.cps.toList).toArray.size ≤ _
    rw [List.size_toArray]
    omega
theorem sub_une {prog : Program} {w : World} {A A₀ : Around} {s : Shared} {L : Addr} {h₀ base : Heap} {m mg mb : Str → Option Value} {p : Program} {loose : List Str} {mean : ExcName → Option Value} {Q E : Value → Shared → Prop}
    {env : Env} {outer : List Env} {qual : Str} {pm ctv : Value} {c' f : Addr} {p9 : Pos} {c1 c2 c3 c4 c5 c6 c7 c8 c9 d1 d2 d3 d4 d5 d6 d7 : Nat} {x : Str} {tx : Tok} {r : List Nat}
    (B : Below A₀ base outer h₀) (F : Fr h₀ L s.heap m) (X : (hd.heap_39 w.params).In h₀) (T : Top p loose mean mg mb h₀) (hA : A.frames = some (env :: outer)) (hf : env.frame = some L) (hke : env.scope.kind = .function)
    (ho : s.heap.get? f = some (lamObj 26 (Str.ofString "") qual pm c' ctv p9 c1 c2 c3 c4 c5 c6 c7 c8 c9 d1 d2 d3 d4 d5 d6 d7)) (hcd : s.heap.CodeRec (.ref c') qual) (hroom : A.depth < recursionLimit)
    (hx : x.length ≤ 900000) (hu : Une x.cps.toList r)
    (hret : ∀ r' t h' tk', Stays s.heap h' → r' = S r → Q (.str r' t) { s with heap := h', toks := tk' }) : wpAny (model prog w) A (call (.builtin "re.Pattern.sub") [.ref 63, .ref f, .str x tx]) Q E s := by
  obtain ⟨out, o1, o2, o3⟩ := une_plan x (by have : x.cps.size ≤ 900000 := hx; omega) x.cps.size 0 false r (by omega) (Nat.zero_le _) hu
  have hkeep : ∀ h h' pl vs cnt, s.heap.get? pl = none → (Fr h₀ L h m ∧ h.get? f = some (lamObj 26 (Str.ofString "") qual pm c' ctv p9 c1 c2 c3 c4 c5 c6 c7 c8 c9 d1 d2 d3 d4 d5 d6 d7) ∧ h.CodeRec (.ref c') qual) → h.get? pl = some (lstO vs cnt) → Heap.ExtBut pl h h' →
      (Fr h₀ L h' m ∧ h'.get? f = some (lamObj 26 (Str.ofString "") qual pm c' ctv p9 c1 c2 c3 c4 c5 c6 c7 c8 c9 d1 d2 d3 d4 d5 d6 d7) ∧ h'.CodeRec (.ref c') qual) := by
    intro h h' pl vs cnt hn ⟨F1, f1, r1⟩ hl k
    have ne : ∀ a o, s.heap.get? a = some o → a ≠ pl := fun a o e q => by rw [q, hn] at e; cases e
    obtain ⟨oL, es, ep, hL, r⟩ := F.ns
    obtain ⟨oL', es', ep', hL', r'⟩ := F1.ns
    refine ⟨⟨⟨oL', es', ep', k _ _ (ne _ _ hL) hL', r'⟩, fun b o e => k _ _ (ne _ _ (F.keep b o e)) (F1.keep b o e), F1.above⟩, k _ _ (ne _ _ ho) f1, ?_⟩
    obtain ⟨cc, oc, vs', t', e1, e2, e3, e4⟩ := r1
    obtain ⟨cc', oc', vs'', t'', e1', e2', _⟩ := hcd
    cases e1
    cases e1'
    exact ⟨_, oc, vs', t', rfl, k _ _ (ne _ _ e2') e2, e3, e4⟩
  refine call_sub (pre := Str.ofString "") (code := Re.cUne) (out := out) (fun h => Fr h₀ L h m ∧ h.get? f = some (lamObj 26 (Str.ofString "") qual pm c' ctv p9 c1 c2 c3 c4 c5 c6 c7 c8 c9 d1 d2 d3 d4 d5 d6 d7) ∧ h.CodeRec (.ref c') qual) ⟨F, ho, hcd⟩ hkeep (fun h' k => ⟨fr_on F k, k _ _ ho, ?_⟩) (fun h ⟨F1, _, _⟩ => pat_une (X.keeps F1.keep)) ?_ ⟨_, ho, rfl⟩ (by omega) o1 ?_ ?_
  · obtain ⟨cc, oc, vs', t', e1, e2, e3, e4⟩ := hcd
    exact ⟨cc, oc, vs', t', e1, k _ _ e2, e3, e4⟩
  · intro s' mo st hd9 b e Q' E' ⟨F1, f1, r1⟩ hm hq
    exact lam_call26 B F1 X T hA hf hke f1 r1 hroom hm (by omega) (by decide) hq
  · have : x.cps.size ≤ 900000 := hx
    omega
  · intro r' t h' tk' k e
    refine hret r' t h' tk' k ?_
    rw [e, join_flat, o2]
end Mine
end
section
open PySem PySem.W PySem.Calls PyProof.Rows
set_option maxHeartbeats 0
namespace Mine
/-- each mark doubled -/
def dblL (l : List Nat) : List Nat := l.flatMap fun c => if c = 34 then [34, 34] else [c]
def fr257 (l : List Nat) : List Nat := [50, 53, 55, 32, 34] ++ dblL l ++ [34, 32, 105, 115, 32, 34, 92]
theorem ne_str_same {prog : Program} {w : World} {A : Around} {E : Value → Shared → Prop} {s : Shared} {x y : Str} {t u : Tok} {Q : Value → Shared → Prop} (e : x = y) (h : Q (.bool false) s) : wpAny (model prog w) A (compareOp .NotEq (.str x t) (.str y u)) Q E s := by
  subst e
  refine PyProof.Rows.ne_str ?_
  simpa using h
def PW (l : List Nat) (i : Int) (d : Str) : Prop := ∃ l1 l2, l = l1 ++ l2 ∧ d = S l1 ∧ i = 5 + ((dblL l1).length : Int)

theorem S_length (l : List Nat) : (S l).length = l.length := by
  show l.toArray.size = _
  simp
theorem pw_start {x : Str} {l : List Nat} (hx : x = S (fr257 l)) : PW l 5 (Str.ofString "") ∧ (0 : Int) ≤ 5 ∧ (5 : Int) ≤ (x.length : Int) ∧ (Str.ofString "").length ≤ 100000 := by
  refine ⟨⟨[], l, rfl, by decide, rfl⟩, by decide, ?_, by decide⟩
  rw [hx, S_length]
  unfold fr257
  simp only [List.length_append, List.length_cons, List.length_nil]
  omega
theorem item_split (A R : List Nat) (c : Nat) (i : Int) (hi : i = (A.length : Int)) : Txt.item (S (A ++ c :: R)) i = S [c] := by
  subst hi
  have e : Txt.charAt (S (A ++ c :: R)) (A.length : Int) = some c := by
    have hl : (S (A ++ c :: R)).length = A.length + (R.length + 1) := by rw [S_length, List.length_append, List.length_cons]
    have hs : seqIndex? (A.length : Int) (A.length + (R.length + 1)) = some A.length := by
      unfold seqIndex?
      have h0 : ¬ ((A.length : Int) < 0) := by omega
      simp only [h0, if_false]
      rw [if_pos (by simp only [Bool.and_eq_true, decide_eq_true_eq]; omega), Int.toNat_natCast]
    unfold Txt.charAt
    rw [hl, hs]
    show (A ++ c :: R).toArray[A.length]? = some c
    rw [List.getElem?_toArray, List.getElem?_append_right (Nat.le_refl _), Nat.sub_self]
    rfl
  unfold Txt.item
  rw [e]
  rfl
theorem fr_split {l l1 l2 : List Nat} (e : l = l1 ++ l2) : fr257 l = ([50, 53, 55, 32, 34] ++ dblL l1) ++ (dblL l2 ++ [34, 32, 105, 115, 32, 34, 92]) := by
  subst e
  unfold fr257 dblL
  rw [List.flatMap_append]
  simp
theorem fr_len {l l1 l2 : List Nat} (e : l = l1 ++ l2) : (fr257 l).length = 5 + (dblL l1).length + (dblL l2).length + 7 := by
  rw [fr_split e]
  simp only [List.length_append, List.length_cons, List.length_nil]
  omega
theorem S_inj {a b : List Nat} (h : S a = S b) : a = b := by
  injection h with h
  simpa using h
theorem mark_is : Str.ofString "\"" = S [34] := by decide
theorem sign_eq (c : Nat) : (S [c] == Str.ofString "\"") = decide (c = 34) := str_one (by decide)
theorem pw_room {x : Str} {l : List Nat} {i : Int} {d : Str} (hx : x = S (fr257 l)) (h : PW l i d) : i + 7 ≤ (x.length : Int) ∧ 5 ≤ i ∧ d.length ≤ x.length := by
  obtain ⟨l1, l2, e, ed, ei⟩ := h
  have h1 := fr_len e
  have h2 : x.length = (fr257 l).length := by rw [hx, S_length]
  have h3 : l1.length ≤ (dblL l1).length := by
    clear e ed ei h1 h2
    induction l1 with
    | nil => exact Nat.le_refl _
    | cons c r ih =>
      show r.length + 1 ≤ ((if c = 34 then [34, 34] else [c]) ++ dblL r).length
      rw [List.length_append]
      split <;> simp only [List.length_cons, List.length_nil] <;> omega
  have h4 : d.length = l1.length := by rw [ed, S_length]
  omega
theorem pw_here {x : Str} {l : List Nat} {i : Int} {d : Str} (hx : x = S (fr257 l)) (h : PW l i d) : (d = S l ∧ Txt.item x i = S [34] ∧ Txt.item x (i + 1) = S [32]) ∨
    (∃ c, c ≠ 34 ∧ Txt.item x i = S [c] ∧ PW l (i + 1) (d ++ S [c])) ∨ (Txt.item x i = S [34] ∧ Txt.item x (i + 1) = S [34] ∧ PW l (i + 1 + 1) (d ++ S [34])) := by
  obtain ⟨l1, l2, e, ed, ei⟩ := h
  have hf := fr_split e
  have hl : (([50, 53, 55, 32, 34] ++ dblL l1).length : Int) = i := by
    rw [ei, List.length_append]
    simp only [List.length_cons, List.length_nil]
    omega
  have dcons : ∀ (c : Nat) (r : List Nat), dblL (c :: r) = (if c = 34 then [34, 34] else [c]) ++ dblL r := fun _ _ => rfl
  have dsnoc : ∀ (c : Nat), dblL (l1 ++ [c]) = dblL l1 ++ (if c = 34 then [34, 34] else [c]) := fun c => by
    unfold dblL
    rw [List.flatMap_append]
    simp
  cases l2 with
  | nil =>
    left
    refine ⟨by rw [ed, e, List.append_nil], ?_, ?_⟩
    · rw [hx, hf]; exact item_split _ _ _ _ hl.symm
    · rw [hx, hf]
      have := item_split (([50, 53, 55, 32, 34] ++ dblL l1) ++ [34]) [105, 115, 32, 34, 92] 32 (i + 1) (by rw [List.length_append]; simp only [List.length_singleton]; omega)
      rw [List.append_assoc] at this
      exact this
  | cons c r =>
    right
    by_cases hc : c = 34
    · right
      subst hc
      rw [dcons, if_pos rfl] at hf
      refine ⟨?_, ?_, l1 ++ [34], r, by rw [e]; simp, by rw [ed, S_append], ?_⟩
      · rw [hx, hf]; exact item_split _ _ _ _ hl.symm
      · rw [hx, hf]
        have := item_split (([50, 53, 55, 32, 34] ++ dblL l1) ++ [34]) (dblL r ++ [34, 32, 105, 115, 32, 34, 92]) 34 (i + 1) (by rw [List.length_append]; simp only [List.length_singleton]; omega)
        rw [List.append_assoc] at this
        exact this
      · rw [dsnoc, if_pos rfl, List.length_append, ei]
        simp only [List.length_cons, List.length_nil]
        omega
    · left
      rw [dcons, if_neg hc] at hf
      refine ⟨c, hc, ?_, l1 ++ [c], r, by rw [e]; simp, by rw [ed, S_append], ?_⟩
      · rw [hx, hf]; exact item_split _ _ _ _ hl.symm
      · rw [dsnoc, if_neg hc, List.length_append, ei]
        simp only [List.length_cons, List.length_nil]
        omega
theorem pw_brk2 {x : Str} {l : List Nat} {i : Int} {d : Str} (hx : x = S (fr257 l)) (h : PW l i d) (h1 : (Txt.item x i == Str.ofString "\"") = true) (h2 : (Txt.item x (i + 1) != Str.ofString "\"") = true) : d = S l := by
  rcases pw_here hx h with ⟨e, _⟩ | ⟨c, hc, e, _⟩ | ⟨_, e, _⟩
  · exact e
  · rw [e, sign_eq] at h1
    exact absurd (of_decide_eq_true h1) hc
  · rw [e, mark_is] at h2
    simp at h2
theorem pw_t1 {x : Str} {l : List Nat} {i : Int} {d : Str} (hx : x = S (fr257 l)) (hl : x.length ≤ 100000) (h : PW l i d) (h1 : (Txt.item x i == Str.ofString "\"") = false) : PW l (i + 1) (d ++ Txt.item x i) ∧ 0 ≤ i + 1 ∧ i + 1 ≤ (x.length : Int) ∧ (d ++ Txt.item x i).length ≤ 100000 := by
  rcases pw_here hx h with ⟨_, e, _⟩ | ⟨c, hc, e, p⟩ | ⟨e, _, _⟩
  · rw [e, sign_eq] at h1; cases h1
  · rw [e]
    have r1 := pw_room hx p
    exact ⟨p, by omega, by omega, by omega⟩
  · rw [e, sign_eq] at h1; cases h1
theorem pw_t2 {x : Str} {l : List Nat} {i : Int} {d : Str} (hx : x = S (fr257 l)) (hl : x.length ≤ 100000) (h : PW l i d) (h1 : (Txt.item x i == Str.ofString "\"") = true) (h2 : (Txt.item x (i + 1) != Str.ofString "\"") = false) : PW l (i + 1 + 1) (d ++ Txt.item x i) ∧ 0 ≤ i + 1 + 1 ∧ i + 1 + 1 ≤ (x.length : Int) ∧ (d ++ Txt.item x i).length ≤ 100000 := by
  rcases pw_here hx h with ⟨_, _, e⟩ | ⟨c, hc, e, p⟩ | ⟨e, _, p⟩
  · rw [e, bne, sign_eq] at h2; cases h2
  · rw [e, sign_eq] at h1
    exact absurd (of_decide_eq_true h1) hc
  · rw [e]
    have r1 := pw_room hx p
    exact ⟨p, by omega, by omega, by omega⟩
theorem parse_spec {prog : Program} {w : World} {hd9 : Option Value} {dp un : Nat} {gd : Option (List Code)} {cn : Str} {cs : Scope} {a : Addr} {ccd : Value} {cl : List (Str × Addr)} {outer : List Env} {A₀ : Around} {base h₀ : Heap} {L : Addr} {m mg mb : Str → Option Value} {p : Program} {loose : List Str} {mean : ExcName → Option Value}
   {s : Shared} {Q E : Value → Shared → Prop} {x : Str} {l : List Nat} {t1 : Tok}
   (B : Below A₀ base outer h₀) (F : Fr h₀ L s.heap m) (X : (hd.heap_39 w.params).In h₀) (T : Top p loose mean mg mb h₀) (hk : cs.kind = .function)
   (hdp : dp + 1 < recursionLimit) (_hun : un + 8 < cLine) (hn : hd9 = none)
   (hx : x = S (fr257 l)) (hl : x.length ≤ 100000) (hs3 : Txt.slice x none (some 3) = Str.ofString "257") (hs5 : Txt.slice x (some 3) (some 5) = Str.ofString " \"")
   (hret : ∀ r t h' tk', Stays s.heap h' → r = S l → Q (.str r t) { s with heap := h', toks := tk' }) :
   wpAny (model prog w) (topA hd9 dp un gd cn cs L a ccd cl outer) (call (.ref 119) [.str x t1]) Q E s := by
  subst hn
  k_with_none
  w_top off
  (k_with "my compareOp NotEq str str" => k_search (by ((k_here; k_dflt (refine ne_str_same (by assumption) ?_)))))
  (k_with "my ne" => (first | exact Nat.ne_of_beq_eq_false rfl | exact Nat.ne_of_lt (by with_reducible assumption) | exact Nat.ne_of_gt (by with_reducible assumption) | with_reducible assumption | exact Ne.symm (by with_reducible assumption) | exact Nat.ne_of_gt (cj0 (by with_reducible assumption)) | exact Nat.ne_of_gt (cj1 (by with_reducible assumption)) | exact Nat.ne_of_gt (ck1 (by with_reducible assumption)) | exact Nat.ne_of_gt (cj2 (by with_reducible assumption)) | exact Nat.ne_of_gt (ck2 (by with_reducible assumption)) | exact Nat.ne_of_gt (cj3 (by with_reducible assumption)) | exact Nat.ne_of_gt (ck3 (by with_reducible assumption)) | exact Nat.ne_of_gt (cj4 (by with_reducible assumption)) | exact Nat.ne_of_gt (ck4 (by with_reducible assumption)) | exact Nat.ne_of_gt (cj5 (by with_reducible assumption)) | exact Nat.ne_of_gt (ck5 (by with_reducible assumption)) | exact Nat.ne_of_gt (cj6 (by with_reducible assumption)) | exact Nat.ne_of_gt (ck6 (by with_reducible assumption)) | exact Nat.ne_of_gt (cj7 (by with_reducible assumption)) | exact Nat.ne_of_gt (ck7 (by with_reducible assumption)) | exact Nat.ne_of_gt (cj8 (by with_reducible assumption)) | exact Nat.ne_of_gt (ck8 (by with_reducible assumption)) | exact Nat.ne_of_gt (cj9 (by with_reducible assumption)) | exact Nat.ne_of_gt (ck9 (by with_reducible assumption)) | exact Nat.ne_of_gt (cj10 (by with_reducible assumption)) | exact Nat.ne_of_gt (ck10 (by with_reducible assumption)) | exact Nat.ne_of_gt (cj11 (by with_reducible assumption)) | exact Nat.ne_of_gt (ck11 (by with_reducible assumption)) | exact Nat.ne_of_gt (cj12 (by with_reducible assumption)) | exact Nat.ne_of_gt (ck12 (by with_reducible assumption)) | exact Nat.ne_of_gt (cj13 (by with_reducible assumption)) | exact Nat.ne_of_gt (ck13 (by with_reducible assumption)) | exact Nat.ne_of_gt (cj14 (by with_reducible assumption)) | exact Nat.ne_of_gt (ck14 (by with_reducible assumption)) | exact Nat.ne_of_gt (cj15 (by with_reducible assumption)) | exact Nat.ne_of_gt (ck15 (by with_reducible assumption)) | exact Nat.ne_of_gt (cj16 (by with_reducible assumption)) | exact Nat.ne_of_gt (ck16 (by with_reducible assumption)) | exact Nat.ne_of_lt (cj0 (by with_reducible assumption)) | exact Nat.ne_of_lt (cj1 (by with_reducible assumption)) | exact Nat.ne_of_lt (ck1 (by with_reducible assumption)) | exact Nat.ne_of_lt (cj2 (by with_reducible assumption)) | exact Nat.ne_of_lt (ck2 (by with_reducible assumption)) | exact Nat.ne_of_lt (cj3 (by with_reducible assumption)) | exact Nat.ne_of_lt (ck3 (by with_reducible assumption)) | exact Nat.ne_of_lt (cj4 (by with_reducible assumption)) | exact Nat.ne_of_lt (ck4 (by with_reducible assumption)) | exact Nat.ne_of_lt (cj5 (by with_reducible assumption)) | exact Nat.ne_of_lt (ck5 (by with_reducible assumption)) | exact Nat.ne_of_lt (cj6 (by with_reducible assumption)) | exact Nat.ne_of_lt (ck6 (by with_reducible assumption)) | exact Nat.ne_of_lt (cj7 (by with_reducible assumption)) | exact Nat.ne_of_lt (ck7 (by with_reducible assumption)) | exact Nat.ne_of_lt (cj8 (by with_reducible assumption)) | exact Nat.ne_of_lt (ck8 (by with_reducible assumption)) | exact Nat.ne_of_lt (cj9 (by with_reducible assumption)) | exact Nat.ne_of_lt (ck9 (by with_reducible assumption)) | exact Nat.ne_of_lt (cj10 (by with_reducible assumption)) | exact Nat.ne_of_lt (ck10 (by with_reducible assumption)) | exact Nat.ne_of_lt (cj11 (by with_reducible assumption)) | exact Nat.ne_of_lt (ck11 (by with_reducible assumption)) | exact Nat.ne_of_lt (cj12 (by with_reducible assumption)) | exact Nat.ne_of_lt (ck12 (by with_reducible assumption)) | exact Nat.ne_of_lt (cj13 (by with_reducible assumption)) | exact Nat.ne_of_lt (ck13 (by with_reducible assumption)) | exact Nat.ne_of_lt (cj14 (by with_reducible assumption)) | exact Nat.ne_of_lt (ck14 (by with_reducible assumption)) | exact Nat.ne_of_lt (cj15 (by with_reducible assumption)) | exact Nat.ne_of_lt (ck15 (by with_reducible assumption)) | exact Nat.ne_of_lt (cj16 (by with_reducible assumption)) | exact Nat.ne_of_lt (ck16 (by with_reducible assumption)) | exact ne_gtt (by with_reducible assumption) (cj0 (by with_reducible assumption)) | exact ne_gtt (by with_reducible assumption) (cj1 (by with_reducible assumption)) | exact ne_gtt (by with_reducible assumption) (ck1 (by with_reducible assumption)) | exact ne_gtt (by with_reducible assumption) (cj2 (by with_reducible assumption)) | exact ne_gtt (by with_reducible assumption) (ck2 (by with_reducible assumption)) | exact ne_gtt (by with_reducible assumption) (cj3 (by with_reducible assumption)) | exact ne_gtt (by with_reducible assumption) (ck3 (by with_reducible assumption)) | exact ne_gtt (by with_reducible assumption) (cj4 (by with_reducible assumption)) | exact ne_gtt (by with_reducible assumption) (ck4 (by with_reducible assumption)) | exact ne_gtt (by with_reducible assumption) (cj5 (by with_reducible assumption)) | exact ne_gtt (by with_reducible assumption) (ck5 (by with_reducible assumption)) | exact ne_gtt (by with_reducible assumption) (cj6 (by with_reducible assumption)) | exact ne_gtt (by with_reducible assumption) (ck6 (by with_reducible assumption)) | exact ne_gtt (by with_reducible assumption) (cj7 (by with_reducible assumption)) | exact ne_gtt (by with_reducible assumption) (ck7 (by with_reducible assumption)) | exact ne_gtt (by with_reducible assumption) (cj8 (by with_reducible assumption)) | exact ne_gtt (by with_reducible assumption) (ck8 (by with_reducible assumption)) | exact ne_gtt (by with_reducible assumption) (cj9 (by with_reducible assumption)) | exact ne_gtt (by with_reducible assumption) (ck9 (by with_reducible assumption)) | exact ne_gtt (by with_reducible assumption) (cj10 (by with_reducible assumption)) | exact ne_gtt (by with_reducible assumption) (ck10 (by with_reducible assumption)) | exact ne_gtt (by with_reducible assumption) (cj11 (by with_reducible assumption)) | exact ne_gtt (by with_reducible assumption) (ck11 (by with_reducible assumption)) | exact ne_gtt (by with_reducible assumption) (cj12 (by with_reducible assumption)) | exact ne_gtt (by with_reducible assumption) (ck12 (by with_reducible assumption)) | exact ne_gtt (by with_reducible assumption) (cj13 (by with_reducible assumption)) | exact ne_gtt (by with_reducible assumption) (ck13 (by with_reducible assumption)) | exact ne_gtt (by with_reducible assumption) (cj14 (by with_reducible assumption)) | exact ne_gtt (by with_reducible assumption) (ck14 (by with_reducible assumption)) | exact ne_gtt (by with_reducible assumption) (cj15 (by with_reducible assumption)) | exact ne_gtt (by with_reducible assumption) (ck15 (by with_reducible assumption)) | exact ne_gtt (by with_reducible assumption) (cj16 (by with_reducible assumption)) | exact ne_gtt (by with_reducible assumption) (ck16 (by with_reducible assumption)) | exact ne_ltt (by with_reducible assumption) (cj0 (by with_reducible assumption)) | exact ne_ltt (by with_reducible assumption) (cj1 (by with_reducible assumption)) | exact ne_ltt (by with_reducible assumption) (ck1 (by with_reducible assumption)) | exact ne_ltt (by with_reducible assumption) (cj2 (by with_reducible assumption)) | exact ne_ltt (by with_reducible assumption) (ck2 (by with_reducible assumption)) | exact ne_ltt (by with_reducible assumption) (cj3 (by with_reducible assumption)) | exact ne_ltt (by with_reducible assumption) (ck3 (by with_reducible assumption)) | exact ne_ltt (by with_reducible assumption) (cj4 (by with_reducible assumption)) | exact ne_ltt (by with_reducible assumption) (ck4 (by with_reducible assumption)) | exact ne_ltt (by with_reducible assumption) (cj5 (by with_reducible assumption)) | exact ne_ltt (by with_reducible assumption) (ck5 (by with_reducible assumption)) | exact ne_ltt (by with_reducible assumption) (cj6 (by with_reducible assumption)) | exact ne_ltt (by with_reducible assumption) (ck6 (by with_reducible assumption)) | exact ne_ltt (by with_reducible assumption) (cj7 (by with_reducible assumption)) | exact ne_ltt (by with_reducible assumption) (ck7 (by with_reducible assumption)) | exact ne_ltt (by with_reducible assumption) (cj8 (by with_reducible assumption)) | exact ne_ltt (by with_reducible assumption) (ck8 (by with_reducible assumption)) | exact ne_ltt (by with_reducible assumption) (cj9 (by with_reducible assumption)) | exact ne_ltt (by with_reducible assumption) (ck9 (by with_reducible assumption)) | exact ne_ltt (by with_reducible assumption) (cj10 (by with_reducible assumption)) | exact ne_ltt (by with_reducible assumption) (ck10 (by with_reducible assumption)) | exact ne_ltt (by with_reducible assumption) (cj11 (by with_reducible assumption)) | exact ne_ltt (by with_reducible assumption) (ck11 (by with_reducible assumption)) | exact ne_ltt (by with_reducible assumption) (cj12 (by with_reducible assumption)) | exact ne_ltt (by with_reducible assumption) (ck12 (by with_reducible assumption)) | exact ne_ltt (by with_reducible assumption) (cj13 (by with_reducible assumption)) | exact ne_ltt (by with_reducible assumption) (ck13 (by with_reducible assumption)) | exact ne_ltt (by with_reducible assumption) (cj14 (by with_reducible assumption)) | exact ne_ltt (by with_reducible assumption) (ck14 (by with_reducible assumption)) | exact ne_ltt (by with_reducible assumption) (cj15 (by with_reducible assumption)) | exact ne_ltt (by with_reducible assumption) (ck15 (by with_reducible assumption)) | exact ne_ltt (by with_reducible assumption) (cj16 (by with_reducible assumption)) | exact ne_ltt (by with_reducible assumption) (ck16 (by with_reducible assumption)) | exact (cj0 (by with_reducible assumption)) | exact (cj1 (by with_reducible assumption)) | exact (ck1 (by with_reducible assumption)) | exact (cj2 (by with_reducible assumption)) | exact (ck2 (by with_reducible assumption)) | exact (cj3 (by with_reducible assumption)) | exact (ck3 (by with_reducible assumption)) | exact (cj4 (by with_reducible assumption)) | exact (ck4 (by with_reducible assumption)) | exact (cj5 (by with_reducible assumption)) | exact (ck5 (by with_reducible assumption)) | exact (cj6 (by with_reducible assumption)) | exact (ck6 (by with_reducible assumption)) | exact (cj7 (by with_reducible assumption)) | exact (ck7 (by with_reducible assumption)) | exact (cj8 (by with_reducible assumption)) | exact (ck8 (by with_reducible assumption)) | exact (cj9 (by with_reducible assumption)) | exact (ck9 (by with_reducible assumption)) | exact (cj10 (by with_reducible assumption)) | exact (ck10 (by with_reducible assumption)) | exact (cj11 (by with_reducible assumption)) | exact (ck11 (by with_reducible assumption)) | exact (cj12 (by with_reducible assumption)) | exact (ck12 (by with_reducible assumption)) | exact (cj13 (by with_reducible assumption)) | exact (ck13 (by with_reducible assumption)) | exact (cj14 (by with_reducible assumption)) | exact (ck14 (by with_reducible assumption)) | exact (cj15 (by with_reducible assumption)) | exact (ck15 (by with_reducible assumption)) | exact (cj16 (by with_reducible assumption)) | exact (ck16 (by with_reducible assumption)) | exact Ne.symm (cj0 (by with_reducible assumption)) | exact Ne.symm (cj1 (by with_reducible assumption)) | exact Ne.symm (ck1 (by with_reducible assumption)) | exact Ne.symm (cj2 (by with_reducible assumption)) | exact Ne.symm (ck2 (by with_reducible assumption)) | exact Ne.symm (cj3 (by with_reducible assumption)) | exact Ne.symm (ck3 (by with_reducible assumption)) | exact Ne.symm (cj4 (by with_reducible assumption)) | exact Ne.symm (ck4 (by with_reducible assumption)) | exact Ne.symm (cj5 (by with_reducible assumption)) | exact Ne.symm (ck5 (by with_reducible assumption)) | exact Ne.symm (cj6 (by with_reducible assumption)) | exact Ne.symm (ck6 (by with_reducible assumption)) | exact Ne.symm (cj7 (by with_reducible assumption)) | exact Ne.symm (ck7 (by with_reducible assumption)) | exact Ne.symm (cj8 (by with_reducible assumption)) | exact Ne.symm (ck8 (by with_reducible assumption)) | exact Ne.symm (cj9 (by with_reducible assumption)) | exact Ne.symm (ck9 (by with_reducible assumption)) | exact Ne.symm (cj10 (by with_reducible assumption)) | exact Ne.symm (ck10 (by with_reducible assumption)) | exact Ne.symm (cj11 (by with_reducible assumption)) | exact Ne.symm (ck11 (by with_reducible assumption)) | exact Ne.symm (cj12 (by with_reducible assumption)) | exact Ne.symm (ck12 (by with_reducible assumption)) | exact Ne.symm (cj13 (by with_reducible assumption)) | exact Ne.symm (ck13 (by with_reducible assumption)) | exact Ne.symm (cj14 (by with_reducible assumption)) | exact Ne.symm (ck14 (by with_reducible assumption)) | exact Ne.symm (cj15 (by with_reducible assumption)) | exact Ne.symm (ck15 (by with_reducible assumption)) | exact Ne.symm (cj16 (by with_reducible assumption)) | exact Ne.symm (ck16 (by with_reducible assumption)) | exact (cj0 (cj0 (by with_reducible assumption))) | exact (cj1 (cj0 (by with_reducible assumption))) | exact (ck2 (cj0 (by with_reducible assumption))) | exact (cj0 (cj1 (by with_reducible assumption))) | exact (cj1 (cj1 (by with_reducible assumption))) | exact (ck2 (cj1 (by with_reducible assumption))) | exact (cj0 (ck1 (by with_reducible assumption))) | exact (cj1 (ck1 (by with_reducible assumption))) | exact (ck2 (ck1 (by with_reducible assumption))) | exact (cj0 (cj2 (by with_reducible assumption))) | exact (cj1 (cj2 (by with_reducible assumption))) | exact (ck2 (cj2 (by with_reducible assumption))) | exact (cj0 (ck2 (by with_reducible assumption))) | exact (cj1 (ck2 (by with_reducible assumption))) | exact (ck2 (ck2 (by with_reducible assumption))) | exact (cj0 (cj3 (by with_reducible assumption))) | exact (cj1 (cj3 (by with_reducible assumption))) | exact (ck2 (cj3 (by with_reducible assumption))) | exact (cj0 (ck3 (by with_reducible assumption))) | exact (cj1 (ck3 (by with_reducible assumption))) | exact (ck2 (ck3 (by with_reducible assumption))) | exact (cj0 (cj4 (by with_reducible assumption))) | exact (cj1 (cj4 (by with_reducible assumption))) | exact (ck2 (cj4 (by with_reducible assumption))) | exact (cj0 (ck4 (by with_reducible assumption))) | exact (cj1 (ck4 (by with_reducible assumption))) | exact (ck2 (ck4 (by with_reducible assumption))) | exact (cj0 (cj5 (by with_reducible assumption))) | exact (cj1 (cj5 (by with_reducible assumption))) | exact (ck2 (cj5 (by with_reducible assumption))) | exact (cj0 (ck5 (by with_reducible assumption))) | exact (cj1 (ck5 (by with_reducible assumption))) | exact (ck2 (ck5 (by with_reducible assumption))) | exact (cj0 (cj6 (by with_reducible assumption))) | exact (cj1 (cj6 (by with_reducible assumption))) | exact (ck2 (cj6 (by with_reducible assumption))) | exact (cj0 (ck6 (by with_reducible assumption))) | exact (cj1 (ck6 (by with_reducible assumption))) | exact (ck2 (ck6 (by with_reducible assumption))) | exact (cj0 (cj7 (by with_reducible assumption))) | exact (cj1 (cj7 (by with_reducible assumption))) | exact (ck2 (cj7 (by with_reducible assumption))) | exact (cj0 (ck7 (by with_reducible assumption))) | exact (cj1 (ck7 (by with_reducible assumption))) | exact (ck2 (ck7 (by with_reducible assumption))) | exact (cj0 (cj8 (by with_reducible assumption))) | exact (cj1 (cj8 (by with_reducible assumption))) | exact (ck2 (cj8 (by with_reducible assumption))) | exact (cj0 (ck8 (by with_reducible assumption))) | exact (cj1 (ck8 (by with_reducible assumption))) | exact (ck2 (ck8 (by with_reducible assumption))) | exact Ne.symm (cj0 (cj0 (by with_reducible assumption))) | exact Ne.symm (cj1 (cj0 (by with_reducible assumption))) | exact Ne.symm (ck2 (cj0 (by with_reducible assumption))) | exact Ne.symm (cj0 (cj1 (by with_reducible assumption))) | exact Ne.symm (cj1 (cj1 (by with_reducible assumption))) | exact Ne.symm (ck2 (cj1 (by with_reducible assumption))) | exact Ne.symm (cj0 (ck1 (by with_reducible assumption))) | exact Ne.symm (cj1 (ck1 (by with_reducible assumption))) | exact Ne.symm (ck2 (ck1 (by with_reducible assumption))) | exact Ne.symm (cj0 (cj2 (by with_reducible assumption))) | exact Ne.symm (cj1 (cj2 (by with_reducible assumption))) | exact Ne.symm (ck2 (cj2 (by with_reducible assumption))) | exact Ne.symm (cj0 (ck2 (by with_reducible assumption))) | exact Ne.symm (cj1 (ck2 (by with_reducible assumption))) | exact Ne.symm (ck2 (ck2 (by with_reducible assumption))) | exact Ne.symm (cj0 (cj3 (by with_reducible assumption))) | exact Ne.symm (cj1 (cj3 (by with_reducible assumption))) | exact Ne.symm (ck2 (cj3 (by with_reducible assumption))) | exact Ne.symm (cj0 (ck3 (by with_reducible assumption))) | exact Ne.symm (cj1 (ck3 (by with_reducible assumption))) | exact Ne.symm (ck2 (ck3 (by with_reducible assumption))) | exact Ne.symm (cj0 (cj4 (by with_reducible assumption))) | exact Ne.symm (cj1 (cj4 (by with_reducible assumption))) | exact Ne.symm (ck2 (cj4 (by with_reducible assumption))) | exact Ne.symm (cj0 (ck4 (by with_reducible assumption))) | exact Ne.symm (cj1 (ck4 (by with_reducible assumption))) | exact Ne.symm (ck2 (ck4 (by with_reducible assumption))) | exact Ne.symm (cj0 (cj5 (by with_reducible assumption))) | exact Ne.symm (cj1 (cj5 (by with_reducible assumption))) | exact Ne.symm (ck2 (cj5 (by with_reducible assumption))) | exact Ne.symm (cj0 (ck5 (by with_reducible assumption))) | exact Ne.symm (cj1 (ck5 (by with_reducible assumption))) | exact Ne.symm (ck2 (ck5 (by with_reducible assumption))) | exact Ne.symm (cj0 (cj6 (by with_reducible assumption))) | exact Ne.symm (cj1 (cj6 (by with_reducible assumption))) | exact Ne.symm (ck2 (cj6 (by with_reducible assumption))) | exact Ne.symm (cj0 (ck6 (by with_reducible assumption))) | exact Ne.symm (cj1 (ck6 (by with_reducible assumption))) | exact Ne.symm (ck2 (ck6 (by with_reducible assumption))) | exact Ne.symm (cj0 (cj7 (by with_reducible assumption))) | exact Ne.symm (cj1 (cj7 (by with_reducible assumption))) | exact Ne.symm (ck2 (cj7 (by with_reducible assumption))) | exact Ne.symm (cj0 (ck7 (by with_reducible assumption))) | exact Ne.symm (cj1 (ck7 (by with_reducible assumption))) | exact Ne.symm (ck2 (ck7 (by with_reducible assumption))) | exact Ne.symm (cj0 (cj8 (by with_reducible assumption))) | exact Ne.symm (cj1 (cj8 (by with_reducible assumption))) | exact Ne.symm (ck2 (cj8 (by with_reducible assumption))) | exact Ne.symm (cj0 (ck8 (by with_reducible assumption))) | exact Ne.symm (cj1 (ck8 (by with_reducible assumption))) | exact Ne.symm (ck2 (ck8 (by with_reducible assumption)))))
  refine wpAny_call ?_
  k_dflt (refine' code_pure (binds := [(Str.ofString "resp", Value.str x t1)]) ?k1 ?k2 ?k3 ?k5 ?kA ?kF ?kK ?k6 ?k7 ?k8 ?k9 ?kB ?_ ?c2 ?c3 ?c4 ?c5; (case kA => exact rfl); (case kF => exact rfl); (case kK => assumption); (case k1 => k_asm); (case k2 => k_asm); (case k3 => k_asm); (case k5 => k_asm); (case k6 => k_is); (case k7 => k_is); (case k8 => ktr_room); (case k9 => exact BindsTo.of_eq rfl); (case c5 => decide); (case kB => exact locs rfl); (case c2 => exact rfl); (case c3 => exact rfl); (case c4 => exact rfl); k_whole; intro L' h' F' N' B' X' T'; (try dsimp only); (try k_fold))
  (k_with "exec While Compare cons nil" => k_while (fun _ i d => PW l i d ∧ 0 ≤ i ∧ i ≤ (x.length : Int) ∧ d.length ≤ 100000) (fun _ i _ => (x.length - i).toNat) "i" "dirname")
  (k_with "state" => first | exact pw_start (by assumption) | exact pw_t1 (by assumption) (by assumption) (by assumption) (by assumption) | exact pw_t2 (by assumption) (by assumption) (by assumption) (by assumption) (by assumption))
  k_steps
  all_goals first
    | (refine hret _ _ _ _ (Fr.keep (by assumption)) (pw_brk2 (by assumption) (by assumption) (by assumption) (by assumption)))
    | (exfalso; (have rr := pw_room (by assumption) (by assumption)); omega)
end Mine
end
section
open PySem PySem.W PySem.Calls PyProof.Rows Builtin
set_option maxHeartbeats 4000000
namespace Mine
theorem none_back {g h : Heap} (k : Stays g h) {b : Addr} (e : h.get? b = none) : g.get? b = none := by
  cases q : g.get? b with
  | none => rfl
  | some o => rw [k _ _ q] at e; cases e
theorem leave_C {M : Model} {A : Around} {E : Value → Shared → Prop} {s' : Shared} {h₀ g h₁ : Heap} {L L' a e : Addr} {m m' : Str → Option Value} {name : Str} {scope : Scope} {cd cls : Value} {env : Env} {Q : Unit → Shared → Prop} {vs : List Value}
    (hA : A.frames = some [env]) (hf : env.frame = some L) (hke : env.scope.kind = .function) (F₀ : Fr h₀ L g m) (F : Fr g L' h₁ m') (hx : Heap.MadeExcOf h₁ s'.heap e cls vs)
    (hQ : ∀ h', FlyAt (hideAll g [L]) [env] e cls .none h' → g.UpToSlots h' → Q () { s' with heap := h' }) (hk : scope.kind = .function) :
    wpAny M (A.deeper (envOf name scope L' a cd)) (leaving (envOf name scope L' a cd) (.ref e)) Q E s' := by
  obtain ⟨t, he, _, _⟩ := hx.there
  obtain ⟨oL, es, ep, hL, hd, _⟩ := F₀.ns
  obtain ⟨oL', es', ep', hL', hd', _⟩ := F.ns
  have st : Stays g s'.heap := fun b o q => hx.keeps _ _ (F.keep _ _ q)
  have hkb : (hideAll g [L]).StaysIn s'.heap := fun b o q => st _ _ (of_hideAll _ q)
  have hen : (hideAll g [L]).get? e = none := none_back (fun b o q => F.keep _ _ (of_hideAll _ q)) hx.new
  have hfr : s'.heap.FunFrames (hideAll g [L]) [envOf name scope L' a cd, env] := by
    refine ⟨?_, ⟨L', oL', rfl, ?_, hx.keeps _ _ hL', fun vs q => by rw [hd'] at q; cases q⟩, ?_, ⟨L, oL, hf, hideAll_none _ (.head _), st _ _ hL, fun vs q => by rw [hd] at q; cases q⟩, trivial⟩
    · show scope.kind ≠ .module
      rw [hk]; decide
    · cases q : (hideAll g [L]).get? L' with
      | none => rfl
      | some o => exact absurd (Nat.lt_of_lt_of_le (Heap.lt_size (of_hideAll _ q)) F.above) (Nat.lt_irrefl _)
    · rw [hke]; decide
  unfold leaving
  refine wpAny_bind (note_first (Around.frames_deeper hA) hfr rfl hkb hen he rfl rfl rfl fun h' x u => ?_)
  refine land x fun h'' x' u' => hQ h'' ?_ ((Heap.UpToSlots.of_keeps st).trans (u.trans u'))
  obtain ⟨k1, k2, ⟨_, _, k3⟩, k4⟩ := x'
  exact ⟨k1, k2, k3, k4⟩
theorem ne_str_other {prog : Program} {w : World} {A : Around} {E : Value → Shared → Prop} {s : Shared} {x y : Str} {t u : Tok} {Q : Value → Shared → Prop} (e : x ≠ y) (h : Q (.bool true) s) : wpAny (model prog w) A (compareOp .NotEq (.str x t) (.str y u)) Q E s := by
  refine PyProof.Rows.ne_str ?_
  rw [show (x != y) = true from bne_iff_ne.mpr e]
  exact h
theorem parse_raise {prog : Program} {w : World} {hd9 : Option Value} {dp un : Nat} {gd : Option (List Code)} {cn : Str} {cs : Scope} {a : Addr} {ccd : Value} {cl : List (Str × Addr)} {A₀ : Around} {base h₀ : Heap} {L : Addr} {m mg mb : Str → Option Value} {p : Program} {loose : List Str} {mean : ExcName → Option Value}
   {s : Shared} {Q E : Value → Shared → Prop} {x : Str} {t1 : Tok}
   (B : Below A₀ base [] h₀) (F : Fr h₀ L s.heap m) (X : (hd.heap_39 w.params).In h₀) (T : Top p loose mean mg mb h₀) (hk : cs.kind = .function)
   (hdp : dp + 1 < recursionLimit) (_hun : un + 8 < cLine) (hn : hd9 = none)
   (hl : x.length ≤ 100000) (hs3 : Txt.slice x none (some 3) ≠ Str.ofString "257")
   (hret : ∀ e h' tk', FlyAt (hideAll s.heap [L]) [envX cn cs L a ccd cl] e (.ref 110) .none h' → s.heap.UpToSlots h' → E (.ref e) { s with heap := h', toks := tk' }) :
   wpAny (model prog w) (topA hd9 dp un gd cn cs L a ccd cl []) (call (.ref 119) [.str x t1]) Q E s := by
  subst hn
  k_with_none
  w_top off
  (k_with "my compareOp NotEq str str" => k_search (by ((k_here; k_dflt (refine ne_str_other (by assumption) ?_)))))
  (k_with "my ne" => (first | exact Nat.ne_of_beq_eq_false rfl | exact Nat.ne_of_lt (by with_reducible assumption) | exact Nat.ne_of_gt (by with_reducible assumption) | with_reducible assumption | exact Ne.symm (by with_reducible assumption) | exact Nat.ne_of_gt (cj0 (by with_reducible assumption)) | exact Nat.ne_of_gt (cj1 (by with_reducible assumption)) | exact Nat.ne_of_gt (ck1 (by with_reducible assumption)) | exact Nat.ne_of_gt (cj2 (by with_reducible assumption)) | exact Nat.ne_of_gt (ck2 (by with_reducible assumption)) | exact Nat.ne_of_gt (cj3 (by with_reducible assumption)) | exact Nat.ne_of_gt (ck3 (by with_reducible assumption)) | exact Nat.ne_of_gt (cj4 (by with_reducible assumption)) | exact Nat.ne_of_gt (ck4 (by with_reducible assumption)) | exact Nat.ne_of_gt (cj5 (by with_reducible assumption)) | exact Nat.ne_of_gt (ck5 (by with_reducible assumption)) | exact Nat.ne_of_gt (cj6 (by with_reducible assumption)) | exact Nat.ne_of_gt (ck6 (by with_reducible assumption)) | exact Nat.ne_of_gt (cj7 (by with_reducible assumption)) | exact Nat.ne_of_gt (ck7 (by with_reducible assumption)) | exact Nat.ne_of_gt (cj8 (by with_reducible assumption)) | exact Nat.ne_of_gt (ck8 (by with_reducible assumption)) | exact Nat.ne_of_gt (cj9 (by with_reducible assumption)) | exact Nat.ne_of_gt (ck9 (by with_reducible assumption)) | exact Nat.ne_of_gt (cj10 (by with_reducible assumption)) | exact Nat.ne_of_gt (ck10 (by with_reducible assumption)) | exact Nat.ne_of_gt (cj11 (by with_reducible assumption)) | exact Nat.ne_of_gt (ck11 (by with_reducible assumption)) | exact Nat.ne_of_gt (cj12 (by with_reducible assumption)) | exact Nat.ne_of_gt (ck12 (by with_reducible assumption)) | exact Nat.ne_of_gt (cj13 (by with_reducible assumption)) | exact Nat.ne_of_gt (ck13 (by with_reducible assumption)) | exact Nat.ne_of_gt (cj14 (by with_reducible assumption)) | exact Nat.ne_of_gt (ck14 (by with_reducible assumption)) | exact Nat.ne_of_gt (cj15 (by with_reducible assumption)) | exact Nat.ne_of_gt (ck15 (by with_reducible assumption)) | exact Nat.ne_of_gt (cj16 (by with_reducible assumption)) | exact Nat.ne_of_gt (ck16 (by with_reducible assumption)) | exact Nat.ne_of_lt (cj0 (by with_reducible assumption)) | exact Nat.ne_of_lt (cj1 (by with_reducible assumption)) | exact Nat.ne_of_lt (ck1 (by with_reducible assumption)) | exact Nat.ne_of_lt (cj2 (by with_reducible assumption)) | exact Nat.ne_of_lt (ck2 (by with_reducible assumption)) | exact Nat.ne_of_lt (cj3 (by with_reducible assumption)) | exact Nat.ne_of_lt (ck3 (by with_reducible assumption)) | exact Nat.ne_of_lt (cj4 (by with_reducible assumption)) | exact Nat.ne_of_lt (ck4 (by with_reducible assumption)) | exact Nat.ne_of_lt (cj5 (by with_reducible assumption)) | exact Nat.ne_of_lt (ck5 (by with_reducible assumption)) | exact Nat.ne_of_lt (cj6 (by with_reducible assumption)) | exact Nat.ne_of_lt (ck6 (by with_reducible assumption)) | exact Nat.ne_of_lt (cj7 (by with_reducible assumption)) | exact Nat.ne_of_lt (ck7 (by with_reducible assumption)) | exact Nat.ne_of_lt (cj8 (by with_reducible assumption)) | exact Nat.ne_of_lt (ck8 (by with_reducible assumption)) | exact Nat.ne_of_lt (cj9 (by with_reducible assumption)) | exact Nat.ne_of_lt (ck9 (by with_reducible assumption)) | exact Nat.ne_of_lt (cj10 (by with_reducible assumption)) | exact Nat.ne_of_lt (ck10 (by with_reducible assumption)) | exact Nat.ne_of_lt (cj11 (by with_reducible assumption)) | exact Nat.ne_of_lt (ck11 (by with_reducible assumption)) | exact Nat.ne_of_lt (cj12 (by with_reducible assumption)) | exact Nat.ne_of_lt (ck12 (by with_reducible assumption)) | exact Nat.ne_of_lt (cj13 (by with_reducible assumption)) | exact Nat.ne_of_lt (ck13 (by with_reducible assumption)) | exact Nat.ne_of_lt (cj14 (by with_reducible assumption)) | exact Nat.ne_of_lt (ck14 (by with_reducible assumption)) | exact Nat.ne_of_lt (cj15 (by with_reducible assumption)) | exact Nat.ne_of_lt (ck15 (by with_reducible assumption)) | exact Nat.ne_of_lt (cj16 (by with_reducible assumption)) | exact Nat.ne_of_lt (ck16 (by with_reducible assumption)) | exact ne_gtt (by with_reducible assumption) (cj0 (by with_reducible assumption)) | exact ne_gtt (by with_reducible assumption) (cj1 (by with_reducible assumption)) | exact ne_gtt (by with_reducible assumption) (ck1 (by with_reducible assumption)) | exact ne_gtt (by with_reducible assumption) (cj2 (by with_reducible assumption)) | exact ne_gtt (by with_reducible assumption) (ck2 (by with_reducible assumption)) | exact ne_gtt (by with_reducible assumption) (cj3 (by with_reducible assumption)) | exact ne_gtt (by with_reducible assumption) (ck3 (by with_reducible assumption)) | exact ne_gtt (by with_reducible assumption) (cj4 (by with_reducible assumption)) | exact ne_gtt (by with_reducible assumption) (ck4 (by with_reducible assumption)) | exact ne_gtt (by with_reducible assumption) (cj5 (by with_reducible assumption)) | exact ne_gtt (by with_reducible assumption) (ck5 (by with_reducible assumption)) | exact ne_gtt (by with_reducible assumption) (cj6 (by with_reducible assumption)) | exact ne_gtt (by with_reducible assumption) (ck6 (by with_reducible assumption)) | exact ne_gtt (by with_reducible assumption) (cj7 (by with_reducible assumption)) | exact ne_gtt (by with_reducible assumption) (ck7 (by with_reducible assumption)) | exact ne_gtt (by with_reducible assumption) (cj8 (by with_reducible assumption)) | exact ne_gtt (by with_reducible assumption) (ck8 (by with_reducible assumption)) | exact ne_gtt (by with_reducible assumption) (cj9 (by with_reducible assumption)) | exact ne_gtt (by with_reducible assumption) (ck9 (by with_reducible assumption)) | exact ne_gtt (by with_reducible assumption) (cj10 (by with_reducible assumption)) | exact ne_gtt (by with_reducible assumption) (ck10 (by with_reducible assumption)) | exact ne_gtt (by with_reducible assumption) (cj11 (by with_reducible assumption)) | exact ne_gtt (by with_reducible assumption) (ck11 (by with_reducible assumption)) | exact ne_gtt (by with_reducible assumption) (cj12 (by with_reducible assumption)) | exact ne_gtt (by with_reducible assumption) (ck12 (by with_reducible assumption)) | exact ne_gtt (by with_reducible assumption) (cj13 (by with_reducible assumption)) | exact ne_gtt (by with_reducible assumption) (ck13 (by with_reducible assumption)) | exact ne_gtt (by with_reducible assumption) (cj14 (by with_reducible assumption)) | exact ne_gtt (by with_reducible assumption) (ck14 (by with_reducible assumption)) | exact ne_gtt (by with_reducible assumption) (cj15 (by with_reducible assumption)) | exact ne_gtt (by with_reducible assumption) (ck15 (by with_reducible assumption)) | exact ne_gtt (by with_reducible assumption) (cj16 (by with_reducible assumption)) | exact ne_gtt (by with_reducible assumption) (ck16 (by with_reducible assumption)) | exact ne_ltt (by with_reducible assumption) (cj0 (by with_reducible assumption)) | exact ne_ltt (by with_reducible assumption) (cj1 (by with_reducible assumption)) | exact ne_ltt (by with_reducible assumption) (ck1 (by with_reducible assumption)) | exact ne_ltt (by with_reducible assumption) (cj2 (by with_reducible assumption)) | exact ne_ltt (by with_reducible assumption) (ck2 (by with_reducible assumption)) | exact ne_ltt (by with_reducible assumption) (cj3 (by with_reducible assumption)) | exact ne_ltt (by with_reducible assumption) (ck3 (by with_reducible assumption)) | exact ne_ltt (by with_reducible assumption) (cj4 (by with_reducible assumption)) | exact ne_ltt (by with_reducible assumption) (ck4 (by with_reducible assumption)) | exact ne_ltt (by with_reducible assumption) (cj5 (by with_reducible assumption)) | exact ne_ltt (by with_reducible assumption) (ck5 (by with_reducible assumption)) | exact ne_ltt (by with_reducible assumption) (cj6 (by with_reducible assumption)) | exact ne_ltt (by with_reducible assumption) (ck6 (by with_reducible assumption)) | exact ne_ltt (by with_reducible assumption) (cj7 (by with_reducible assumption)) | exact ne_ltt (by with_reducible assumption) (ck7 (by with_reducible assumption)) | exact ne_ltt (by with_reducible assumption) (cj8 (by with_reducible assumption)) | exact ne_ltt (by with_reducible assumption) (ck8 (by with_reducible assumption)) | exact ne_ltt (by with_reducible assumption) (cj9 (by with_reducible assumption)) | exact ne_ltt (by with_reducible assumption) (ck9 (by with_reducible assumption)) | exact ne_ltt (by with_reducible assumption) (cj10 (by with_reducible assumption)) | exact ne_ltt (by with_reducible assumption) (ck10 (by with_reducible assumption)) | exact ne_ltt (by with_reducible assumption) (cj11 (by with_reducible assumption)) | exact ne_ltt (by with_reducible assumption) (ck11 (by with_reducible assumption)) | exact ne_ltt (by with_reducible assumption) (cj12 (by with_reducible assumption)) | exact ne_ltt (by with_reducible assumption) (ck12 (by with_reducible assumption)) | exact ne_ltt (by with_reducible assumption) (cj13 (by with_reducible assumption)) | exact ne_ltt (by with_reducible assumption) (ck13 (by with_reducible assumption)) | exact ne_ltt (by with_reducible assumption) (cj14 (by with_reducible assumption)) | exact ne_ltt (by with_reducible assumption) (ck14 (by with_reducible assumption)) | exact ne_ltt (by with_reducible assumption) (cj15 (by with_reducible assumption)) | exact ne_ltt (by with_reducible assumption) (ck15 (by with_reducible assumption)) | exact ne_ltt (by with_reducible assumption) (cj16 (by with_reducible assumption)) | exact ne_ltt (by with_reducible assumption) (ck16 (by with_reducible assumption)) | exact (cj0 (by with_reducible assumption)) | exact (cj1 (by with_reducible assumption)) | exact (ck1 (by with_reducible assumption)) | exact (cj2 (by with_reducible assumption)) | exact (ck2 (by with_reducible assumption)) | exact (cj3 (by with_reducible assumption)) | exact (ck3 (by with_reducible assumption)) | exact (cj4 (by with_reducible assumption)) | exact (ck4 (by with_reducible assumption)) | exact (cj5 (by with_reducible assumption)) | exact (ck5 (by with_reducible assumption)) | exact (cj6 (by with_reducible assumption)) | exact (ck6 (by with_reducible assumption)) | exact (cj7 (by with_reducible assumption)) | exact (ck7 (by with_reducible assumption)) | exact (cj8 (by with_reducible assumption)) | exact (ck8 (by with_reducible assumption)) | exact (cj9 (by with_reducible assumption)) | exact (ck9 (by with_reducible assumption)) | exact (cj10 (by with_reducible assumption)) | exact (ck10 (by with_reducible assumption)) | exact (cj11 (by with_reducible assumption)) | exact (ck11 (by with_reducible assumption)) | exact (cj12 (by with_reducible assumption)) | exact (ck12 (by with_reducible assumption)) | exact (cj13 (by with_reducible assumption)) | exact (ck13 (by with_reducible assumption)) | exact (cj14 (by with_reducible assumption)) | exact (ck14 (by with_reducible assumption)) | exact (cj15 (by with_reducible assumption)) | exact (ck15 (by with_reducible assumption)) | exact (cj16 (by with_reducible assumption)) | exact (ck16 (by with_reducible assumption)) | exact Ne.symm (cj0 (by with_reducible assumption)) | exact Ne.symm (cj1 (by with_reducible assumption)) | exact Ne.symm (ck1 (by with_reducible assumption)) | exact Ne.symm (cj2 (by with_reducible assumption)) | exact Ne.symm (ck2 (by with_reducible assumption)) | exact Ne.symm (cj3 (by with_reducible assumption)) | exact Ne.symm (ck3 (by with_reducible assumption)) | exact Ne.symm (cj4 (by with_reducible assumption)) | exact Ne.symm (ck4 (by with_reducible assumption)) | exact Ne.symm (cj5 (by with_reducible assumption)) | exact Ne.symm (ck5 (by with_reducible assumption)) | exact Ne.symm (cj6 (by with_reducible assumption)) | exact Ne.symm (ck6 (by with_reducible assumption)) | exact Ne.symm (cj7 (by with_reducible assumption)) | exact Ne.symm (ck7 (by with_reducible assumption)) | exact Ne.symm (cj8 (by with_reducible assumption)) | exact Ne.symm (ck8 (by with_reducible assumption)) | exact Ne.symm (cj9 (by with_reducible assumption)) | exact Ne.symm (ck9 (by with_reducible assumption)) | exact Ne.symm (cj10 (by with_reducible assumption)) | exact Ne.symm (ck10 (by with_reducible assumption)) | exact Ne.symm (cj11 (by with_reducible assumption)) | exact Ne.symm (ck11 (by with_reducible assumption)) | exact Ne.symm (cj12 (by with_reducible assumption)) | exact Ne.symm (ck12 (by with_reducible assumption)) | exact Ne.symm (cj13 (by with_reducible assumption)) | exact Ne.symm (ck13 (by with_reducible assumption)) | exact Ne.symm (cj14 (by with_reducible assumption)) | exact Ne.symm (ck14 (by with_reducible assumption)) | exact Ne.symm (cj15 (by with_reducible assumption)) | exact Ne.symm (ck15 (by with_reducible assumption)) | exact Ne.symm (cj16 (by with_reducible assumption)) | exact Ne.symm (ck16 (by with_reducible assumption)) | exact (cj0 (cj0 (by with_reducible assumption))) | exact (cj1 (cj0 (by with_reducible assumption))) | exact (ck2 (cj0 (by with_reducible assumption))) | exact (cj0 (cj1 (by with_reducible assumption))) | exact (cj1 (cj1 (by with_reducible assumption))) | exact (ck2 (cj1 (by with_reducible assumption))) | exact (cj0 (ck1 (by with_reducible assumption))) | exact (cj1 (ck1 (by with_reducible assumption))) | exact (ck2 (ck1 (by with_reducible assumption))) | exact (cj0 (cj2 (by with_reducible assumption))) | exact (cj1 (cj2 (by with_reducible assumption))) | exact (ck2 (cj2 (by with_reducible assumption))) | exact (cj0 (ck2 (by with_reducible assumption))) | exact (cj1 (ck2 (by with_reducible assumption))) | exact (ck2 (ck2 (by with_reducible assumption))) | exact (cj0 (cj3 (by with_reducible assumption))) | exact (cj1 (cj3 (by with_reducible assumption))) | exact (ck2 (cj3 (by with_reducible assumption))) | exact (cj0 (ck3 (by with_reducible assumption))) | exact (cj1 (ck3 (by with_reducible assumption))) | exact (ck2 (ck3 (by with_reducible assumption))) | exact (cj0 (cj4 (by with_reducible assumption))) | exact (cj1 (cj4 (by with_reducible assumption))) | exact (ck2 (cj4 (by with_reducible assumption))) | exact (cj0 (ck4 (by with_reducible assumption))) | exact (cj1 (ck4 (by with_reducible assumption))) | exact (ck2 (ck4 (by with_reducible assumption))) | exact (cj0 (cj5 (by with_reducible assumption))) | exact (cj1 (cj5 (by with_reducible assumption))) | exact (ck2 (cj5 (by with_reducible assumption))) | exact (cj0 (ck5 (by with_reducible assumption))) | exact (cj1 (ck5 (by with_reducible assumption))) | exact (ck2 (ck5 (by with_reducible assumption))) | exact (cj0 (cj6 (by with_reducible assumption))) | exact (cj1 (cj6 (by with_reducible assumption))) | exact (ck2 (cj6 (by with_reducible assumption))) | exact (cj0 (ck6 (by with_reducible assumption))) | exact (cj1 (ck6 (by with_reducible assumption))) | exact (ck2 (ck6 (by with_reducible assumption))) | exact (cj0 (cj7 (by with_reducible assumption))) | exact (cj1 (cj7 (by with_reducible assumption))) | exact (ck2 (cj7 (by with_reducible assumption))) | exact (cj0 (ck7 (by with_reducible assumption))) | exact (cj1 (ck7 (by with_reducible assumption))) | exact (ck2 (ck7 (by with_reducible assumption))) | exact (cj0 (cj8 (by with_reducible assumption))) | exact (cj1 (cj8 (by with_reducible assumption))) | exact (ck2 (cj8 (by with_reducible assumption))) | exact (cj0 (ck8 (by with_reducible assumption))) | exact (cj1 (ck8 (by with_reducible assumption))) | exact (ck2 (ck8 (by with_reducible assumption))) | exact Ne.symm (cj0 (cj0 (by with_reducible assumption))) | exact Ne.symm (cj1 (cj0 (by with_reducible assumption))) | exact Ne.symm (ck2 (cj0 (by with_reducible assumption))) | exact Ne.symm (cj0 (cj1 (by with_reducible assumption))) | exact Ne.symm (cj1 (cj1 (by with_reducible assumption))) | exact Ne.symm (ck2 (cj1 (by with_reducible assumption))) | exact Ne.symm (cj0 (ck1 (by with_reducible assumption))) | exact Ne.symm (cj1 (ck1 (by with_reducible assumption))) | exact Ne.symm (ck2 (ck1 (by with_reducible assumption))) | exact Ne.symm (cj0 (cj2 (by with_reducible assumption))) | exact Ne.symm (cj1 (cj2 (by with_reducible assumption))) | exact Ne.symm (ck2 (cj2 (by with_reducible assumption))) | exact Ne.symm (cj0 (ck2 (by with_reducible assumption))) | exact Ne.symm (cj1 (ck2 (by with_reducible assumption))) | exact Ne.symm (ck2 (ck2 (by with_reducible assumption))) | exact Ne.symm (cj0 (cj3 (by with_reducible assumption))) | exact Ne.symm (cj1 (cj3 (by with_reducible assumption))) | exact Ne.symm (ck2 (cj3 (by with_reducible assumption))) | exact Ne.symm (cj0 (ck3 (by with_reducible assumption))) | exact Ne.symm (cj1 (ck3 (by with_reducible assumption))) | exact Ne.symm (ck2 (ck3 (by with_reducible assumption))) | exact Ne.symm (cj0 (cj4 (by with_reducible assumption))) | exact Ne.symm (cj1 (cj4 (by with_reducible assumption))) | exact Ne.symm (ck2 (cj4 (by with_reducible assumption))) | exact Ne.symm (cj0 (ck4 (by with_reducible assumption))) | exact Ne.symm (cj1 (ck4 (by with_reducible assumption))) | exact Ne.symm (ck2 (ck4 (by with_reducible assumption))) | exact Ne.symm (cj0 (cj5 (by with_reducible assumption))) | exact Ne.symm (cj1 (cj5 (by with_reducible assumption))) | exact Ne.symm (ck2 (cj5 (by with_reducible assumption))) | exact Ne.symm (cj0 (ck5 (by with_reducible assumption))) | exact Ne.symm (cj1 (ck5 (by with_reducible assumption))) | exact Ne.symm (ck2 (ck5 (by with_reducible assumption))) | exact Ne.symm (cj0 (cj6 (by with_reducible assumption))) | exact Ne.symm (cj1 (cj6 (by with_reducible assumption))) | exact Ne.symm (ck2 (cj6 (by with_reducible assumption))) | exact Ne.symm (cj0 (ck6 (by with_reducible assumption))) | exact Ne.symm (cj1 (ck6 (by with_reducible assumption))) | exact Ne.symm (ck2 (ck6 (by with_reducible assumption))) | exact Ne.symm (cj0 (cj7 (by with_reducible assumption))) | exact Ne.symm (cj1 (cj7 (by with_reducible assumption))) | exact Ne.symm (ck2 (cj7 (by with_reducible assumption))) | exact Ne.symm (cj0 (ck7 (by with_reducible assumption))) | exact Ne.symm (cj1 (ck7 (by with_reducible assumption))) | exact Ne.symm (ck2 (ck7 (by with_reducible assumption))) | exact Ne.symm (cj0 (cj8 (by with_reducible assumption))) | exact Ne.symm (cj1 (cj8 (by with_reducible assumption))) | exact Ne.symm (ck2 (cj8 (by with_reducible assumption))) | exact Ne.symm (cj0 (ck8 (by with_reducible assumption))) | exact Ne.symm (cj1 (ck8 (by with_reducible assumption))) | exact Ne.symm (ck2 (ck8 (by with_reducible assumption)))))
  refine wpAny_call ?_
  k_dflt (refine' code_pure (binds := [(Str.ofString "resp", Value.str x t1)]) ?k1 ?k2 ?k3 ?k5 ?kA ?kF ?kK ?k6 ?k7 ?k8 ?k9 ?kB ?_ ?c2 ?c3 ?c4 ?c5; (case kA => exact rfl); (case kF => exact rfl); (case kK => assumption); (case k1 => k_asm); (case k2 => k_asm); (case k3 => k_asm); (case k5 => k_asm); (case k6 => k_is); (case k7 => k_is); (case k8 => ktr_room); (case k9 => exact BindsTo.of_eq rfl); (case c5 => decide); (case kB => exact locs rfl); (case c2 => exact rfl); (case c3 => exact rfl); (case c4 => exact rfl); k_whole; intro L' h' F' N' B' X' T'; (try dsimp only); (try k_fold))
  repeat' ((fail_if_success (with_reducible show wpAny _ _ (PySem.leaving _ _) _ _ _)); (first | (k_unfold; (try dsimp only)) | (k_end; wrow_close) | walk1 | (dsimp only; walk1)))
  k_dflt (refine' leave_C (L := L) ?xa ?xb ?xc ?xd ?xe ?xf ?_ ?xg; (case xa => exact rfl); (case xb => exact rfl); (case xc => assumption); (case xd => exact F); (case xe => assumption); (case xf => assumption); (case xg => exact rfl); intro h8 z8 u8)
  exact hret _ _ _ z8 u8
end Mine
end
section
open PySem PySem.W PySem.Calls PyProof.Rows
namespace Mine
theorem getD_app (a r : List Nat) (c : Nat) : (a ++ c :: r).toArray.getD a.length 0 = c := by
  rw [Array.getD_eq_getD_getElem?, List.getElem?_toArray, List.getElem?_append_right (Nat.le_refl _), Nat.sub_self]
  rfl
theorem body_of : ∀ (l pre rest : List Nat), (∀ c ∈ l, c ≠ 10) → ∃ k n, pre.length + k < (pre ++ (escL l ++ 34 :: rest)).toArray.size ∧ (∀ j, j < k → Re.isQ ((pre ++ (escL l ++ 34 :: rest)).toArray.getD (pre.length + j) 0) = false) ∧ Re.isQ ((pre ++ (escL l ++ 34 :: rest)).toArray.getD (pre.length + k) 0) = true ∧
    Re.Body (pre ++ (escL l ++ 34 :: rest)).toArray n (pre.length + k) (pre.length + (escL l).length) ∧ n ≤ l.length
  | [], pre, rest, _ => by
    have e : escL [] ++ 34 :: rest = 34 :: rest := rfl
    have hsz : pre.length < (pre ++ 34 :: rest).toArray.size := by simp
    refine ⟨0, 0, ?_, fun j hj => absurd hj (Nat.not_lt_zero _), ?_, ?_, Nat.le_refl _⟩
    · rw [e]; exact hsz
    · rw [e, Nat.add_zero, getD_app]; rfl
    · rw [e]
      exact .fin hsz (getD_app _ _ _)
  | c :: l, pre, rest, h => by
    cases q : Re.isQ c with
    | true =>
      obtain ⟨k, n, i1, i2, i3, i4, i5⟩ := body_of l (pre ++ [92, c]) rest fun x hx => h x (.tail _ hx)
      have e : pre ++ (escL (c :: l) ++ 34 :: rest) = pre ++ [92, c] ++ (escL l ++ 34 :: rest) := by
        rw [escL_cons, q]; simp
      have hl : (pre ++ [92, c]).length = pre.length + 2 := by simp
      have hel : (escL (c :: l)).length = 2 + (escL l).length := by rw [escL_cons, q]; simp; omega
      rw [hl] at i1 i2 i3 i4
      rw [e, hel]
      have g0 : (pre ++ [92, c] ++ (escL l ++ 34 :: rest)).toArray.getD pre.length 0 = 92 := by
        rw [List.append_assoc]; exact getD_app pre _ 92
      have g1 : (pre ++ [92, c] ++ (escL l ++ 34 :: rest)).toArray.getD (pre.length + 1) 0 = c := by
        have := getD_app (pre ++ [92]) (escL l ++ 34 :: rest) c
        rw [List.length_append, List.length_singleton] at this
        rw [← this]
        congr 2
        simp
      refine ⟨0, n + 1, by omega, fun j hj => absurd hj (Nat.not_lt_zero _), by rw [Nat.add_zero, g0]; rfl, ?_, by rw [List.length_cons]; omega⟩
      rw [Nat.add_zero, ← Nat.add_assoc]
      exact .more (k := k) (by omega) g0 (by rw [g1]; exact h c (.head _)) i1 i2 i3 i4
    | false =>
      obtain ⟨k, n, i1, i2, i3, i4, i5⟩ := body_of l (pre ++ [c]) rest fun x hx => h x (.tail _ hx)
      have e : pre ++ (escL (c :: l) ++ 34 :: rest) = pre ++ [c] ++ (escL l ++ 34 :: rest) := by
        rw [escL_cons, q]; simp
      have hl : (pre ++ [c]).length = pre.length + 1 := by simp
      have hel : (escL (c :: l)).length = 1 + (escL l).length := by rw [escL_cons, q]; simp; omega
      rw [hl] at i1 i2 i3 i4
      rw [e, hel]
      have g0 : (pre ++ [c] ++ (escL l ++ 34 :: rest)).toArray.getD pre.length 0 = c := by
        rw [List.append_assoc]; exact getD_app pre _ c
      refine ⟨k + 1, n, by omega, fun j hj => ?_, by rw [show pre.length + (k + 1) = pre.length + 1 + k by omega]; exact i3, by rw [show pre.length + (k + 1) = pre.length + 1 + k by omega, ← Nat.add_assoc]; exact i4, by rw [List.length_cons]; omega⟩
      cases j with
      | zero => rw [Nat.add_zero, g0]; exact q
      | succ j => rw [show pre.length + (j + 1) = pre.length + 1 + j by omega]; exact i2 j (by omega)
theorem quo_facts (l : List Nat) (h10 : ∀ c ∈ l, c ≠ 10) (hl : l.length ≤ 40000) : Re.Wp (Sre.forSearch Re.cQuo ([61, 34] ++ (escL l ++ [34, 59, 32, 118])).toArray 1 0 ([61, 34] ++ (escL l ++ [34, 59, 32, 118])).toArray.size false) 10000000 (Re.Hit 0 (2 + (escL l).length + 1) 1 1 #[some 2, some (2 + (escL l).length)]) := by
  obtain ⟨k, n, i1, i2, i3, i4, i5⟩ := body_of l [61, 34] [59, 32, 118] h10
  have hz := (escL_len l).2
  refine Re.quo_hit _ n k _ ?_ (by omega) rfl rfl i1 i2 i3 i4
  rw [List.size_toArray]
  simp only [List.length_append, List.length_cons, List.length_nil]
  omega
theorem tok_facts : ∀ c : Fin 256, Re.tokOk c.val = true → Re.valOk c.val = true ∧ c.val ≠ 34 ∧ Unicode.isSpace c.val = false ∧ c.val < 128 ∧ c.val ≠ 10 ∧ c.val ≠ 92 ∧ c.val ≠ 59 ∧ spS ⟨#[c.val]⟩ = false := by decide +kernel
theorem tok_fact {c : Nat} (h : Re.tokOk c = true) : Re.valOk c = true ∧ c ≠ 34 ∧ Unicode.isSpace c = false ∧ c < 128 ∧ c ≠ 10 ∧ c ≠ 92 ∧ c ≠ 59 ∧ spS ⟨#[c]⟩ = false := by
  have hc : c < 256 := by
    unfold Re.tokOk at h
    rw [Bool.and_eq_true] at h
    exact of_decide_eq_true h.1
  exact tok_facts ⟨c, hc⟩ h
theorem mem_getD (a b : List Nat) (l : List Nat) (j : Nat) (hj : j < l.length) : (a ++ (l ++ b)).toArray.getD (a.length + j) 0 ∈ l := by
  rw [Array.getD_eq_getD_getElem?, List.getElem?_toArray, List.getElem?_append_right (by omega), show a.length + j - a.length = j by omega, List.getElem?_append_left hj, List.getElem?_eq_getElem hj]
  exact List.getElem_mem hj
theorem val_facts (l : List Nat) (ht : ∀ c ∈ l, Re.tokOk c = true) (h1 : 1 ≤ l.length) (hl : l.length ≤ 40000) : Re.Wp (Sre.forSearch Re.cVal ([61] ++ (l ++ [59, 32, 118])).toArray 1 0 ([61] ++ (l ++ [59, 32, 118])).toArray.size false) 100 (Re.Hit 0 (1 + l.length) 1 1 #[some 1, some (1 + l.length)]) := by
  have hsz : ([61] ++ (l ++ [59, 32, 118])).toArray.size = l.length + 4 := by
    rw [List.size_toArray]
    simp only [List.length_append, List.length_cons, List.length_nil]
    omega
  refine Re.val_hit _ l.length (by omega) rfl (by omega) h1 (fun j hj => ?_) ?_
  · exact (tok_fact (ht _ (mem_getD [61] [59, 32, 118] l j hj))).1
  · have := getD_app ([61] ++ l) [32, 118] 59
    have hlen : ([61] ++ l).length = 1 + l.length := by simp; omega
    rw [List.append_assoc, hlen] at this
    rw [show ([61] ++ (l ++ [59, 32, 118])) = ([61] ++ (l ++ 59 :: [32, 118])) from rfl, this]
    decide
theorem noq_facts (l : List Nat) (ht : ∀ c ∈ l, Re.tokOk c = true) (h1 : 1 ≤ l.length) (hl : l.length ≤ 40000) : Re.Wp (Sre.forSearch Re.cQuo ([61] ++ (l ++ [59, 32, 118])).toArray 1 0 ([61] ++ (l ++ [59, 32, 118])).toArray.size false) 3000000 Re.Miss := by
  have hsz : ([61] ++ (l ++ [59, 32, 118])).toArray.size = l.length + 4 := by
    rw [List.size_toArray]
    simp only [List.length_append, List.length_cons, List.length_nil]
    omega
  have hm := tok_fact (ht _ (mem_getD [61] [59, 32, 118] l 0 (by omega)))
  exact Re.quo_no _ (by omega) (by omega) rfl hm.2.1 hm.2.2.1
theorem key_facts (r : List Nat) (hl : r.length ≤ 90000) : Re.Wp (Sre.forSearch Re.cKey (107 :: 61 :: r).toArray 1 0 (107 :: 61 :: r).toArray.size false) 100 (Re.Hit 0 1 1 1 #[some 0, some 1]) := by
  have hsz : (107 :: 61 :: r).toArray.size = r.length + 2 := by
    rw [List.size_toArray]
    simp only [List.length_cons]
  exact Re.key_hit _ (by omega) (by omega) rfl rfl
theorem sub_all (l : List Nat) : Builtin.Str.strSub (S l) 0 (S l).length = S l := by
  refine Str.ext' ?_
  show (S l).cps.extract 0 (S l).cps.size = _
  simp
theorem rstrip_tok (l : List Nat) (ht : ∀ c ∈ l, Re.tokOk c = true) : Txt.rstrip (S l) = S l := by
  obtain ⟨hi, h1, h2, h3, h4⟩ := rstrip_cut (x := S l) (fun c hc => (tok_fact (ht c (by simpa using hc))).2.2.2.1)
  have e : hi = (S l).length := by
    by_cases hlt : hi < (S l).length
    · have hs := h3 hi (Nat.le_refl _) hlt
      have hm : (S l).cps.getD hi 0 ∈ l := by
        have := mem_getD [] [] l hi (by rw [S_length] at hlt; exact hlt)
        simpa using this
      have hn := (tok_fact (ht _ hm)).2.2.2.2.2.2.2
      rw [hn] at hs
      cases hs
    · omega
  rw [h2, e, sub_all]
end Mine
end
section
open PySem PySem.W PySem.Calls PyProof.Rows
set_option maxHeartbeats 0
namespace Mine

theorem canLayAll0_strs : ∀ ns : List Str, (∀ x ∈ ns, PyData.strOk x = true) → PyData.canLayAll0 (ns.map PyData.str) = true
  | [], _ => rfl
  | x :: r, h => by simp [PyData.canLayAll0, PyData.canLay0, canLayAll0_strs r (fun y hy => h y (.tail _ hy)), h x (.head _)]
theorem depthAll_strs : ∀ ns : List Str, PyData.depthAll (ns.map PyData.str) = 0
  | [] => rfl
  | _ :: r => by simp [PyData.depthAll, PyData.depth, depthAll_strs r]
theorem shaped_strs (ns : List Str) (h : ∀ x ∈ ns, PyData.strOk x = true) : SeqAt.shaped (.list (ns.map PyData.str)) = true := by
  simp [SeqAt.shaped, PyData.canLay0, PyData.depth, canLayAll0_strs ns h, depthAll_strs]
theorem signs_ok {x : Str} {q : Str → Bool} (h : PyData.strOk x = true) : ∀ y ∈ (signs x).filter q, PyData.strOk y = true := by
  intro y hy
  obtain ⟨n, hn, rfl⟩ := List.mem_map.mp (List.mem_filter.mp hy).1
  have := Array.all_eq_true_iff_forall_mem.mp h n (Array.mem_toList_iff.mp hn)
  simpa [PyData.strOk] using this
theorem eq_strs_nil {prog : Program} {w : World} {A : Around} {E : Value → Shared → Prop} {s : Shared} {a b : Addr} {xs : List Value} {ss : List Str} {Q : Value → Shared → Prop}
    (ha : s.heap.IsList a xs.toArray) (hc : CarriedAll xs (ss.map PyData.str)) (hb : s.heap.IsList b ([] : List Value).toArray) (hok : ∀ x ∈ ss, PyData.strOk x = true) (hu : A.units + 64 < cLine) (h : Q (.bool ss.isEmpty) s) :
    wpAny (model prog w) A (compareOp .Eq (.ref a) (.ref b)) Q E s := by
  refine eq_dataH (reads_newData ha hc) (reads_newData hb .nil) (shaped_strs ss hok) rfl hu ?_
  have e : PyData.eqv (.list (ss.map PyData.str)) (.list []) = ss.isEmpty := by
    cases ss with
    | nil => simp [PyData.eqv, PyData.eqvAll]
    | cons x r => simp [PyData.eqv, PyData.eqvAll]
  rw [e]; exact h


def plainF (core : Str) : Bool := ((signs core).filter fun a => !(Builtin.Str.occurrences (Str.ofString "\"\\;") a 0 (Str.ofString "\"\\;").length 1).isEmpty).isEmpty
abbrev WS := Str × Str × Str × Str
def stepF (plain : Bool) (hs : List Int) (st : WS) (n : Int) : WS :=
  let h := hs.getD n.toNat 0
  let fr := frameF h (plain && n == 0)
  (if h = 0 then st.1 ++ st.1 else st.2.1 ++ st.1, if h = 0 then st.2.1 else st.2.1 ++ st.2.1, st.2.2.1 ++ putI st.1 st.2.1 (KStt.codes fr.1), putI st.1 st.2.1 (KStt.codes fr.2) ++ st.2.2.2)
def initF : WS := (Str.ofString "\"", Str.ofString "\\", Str.ofString "", Str.ofString "")
def foldF (core : Str) (hs pre : List Int) : WS := pre.foldl (stepF (plainF core) hs) initF
theorem foldF_snoc (core : Str) (hs pre : List Int) (n : Int) : foldF core hs (pre ++ [n]) = stepF (plainF core) hs (foldF core hs pre) n := by
  unfold foldF; rw [List.foldl_append]; rfl

theorem snoc_ind {α : Type} {P : List α → Prop} (h0 : P []) (h1 : ∀ l c, P l → P (l ++ [c])) (l : List α) : P l := by
  rw [← List.reverse_reverse l]
  induction l.reverse with
  | nil => exact h0
  | cons c r ih => rw [List.reverse_cons]; exact h1 _ _ ih
theorem putI_len {mark slash : Str} {b : Nat} (h1 : 1 ≤ b) (hm : mark.length ≤ b) (hs : slash.length ≤ b) (l : List Int) : (putI mark slash l).length ≤ b * l.length := by
  induction l using snoc_ind with
  | h0 => exact Nat.le_refl _
  | h1 l c ih =>
    rw [putI_snoc, Str.length_append, List.length_append, List.length_singleton, Nat.mul_add, Nat.mul_one]
    have : (if c = 34 then mark else if c = 92 then slash else (⟨#[c.toNat]⟩ : Str)).length ≤ b := by
      split
      · exact hm
      · split
        · exact hs
        · exact h1
    omega
theorem codes_len (x : Str) : (KStt.codes x).length = x.length := KStt.codes_length x
theorem frameF_len (h : Int) (b : Bool) : (frameF h b).1.length ≤ 10 ∧ (frameF h b).2.length ≤ 10 := by
  unfold frameF
  split
  · decide
  · split <;> decide
theorem foldF_bounds (core : Str) (hs : List Int) (l : List Int) : l.length ≤ 4 →
    (foldF core hs l).1.length ≤ 2 ^ l.length ∧ (foldF core hs l).2.1.length ≤ 2 ^ l.length ∧ (foldF core hs l).2.2.1.length ≤ 160 * l.length ∧ (foldF core hs l).2.2.2.length ≤ 160 * l.length := by
  induction l using snoc_ind with
  | h0 => intro _; exact (by decide : initF.1.length ≤ 2 ^ 0 ∧ initF.2.1.length ≤ 2 ^ 0 ∧ initF.2.2.1.length ≤ 160 * 0 ∧ initF.2.2.2.length ≤ 160 * 0)
  | h1 l n ih =>
    intro hl
    rw [List.length_append, List.length_singleton] at hl
    obtain ⟨i1, i2, i3, i4⟩ := ih (by omega)
    rw [foldF_snoc, List.length_append, List.length_singleton]
    generalize foldF core hs l = st at i1 i2 i3 i4
    have p16 : 2 ^ l.length ≤ 16 := Nat.le_trans (Nat.pow_le_pow_right (by decide) (show l.length ≤ 4 by omega)) (by decide)
    have p1 : 1 ≤ 2 ^ l.length := Nat.one_le_two_pow
    have p2 : 2 ^ (l.length + 1) = 2 ^ l.length + 2 ^ l.length := by rw [Nat.pow_succ]; omega
    generalize 2 ^ l.length = k at i1 i2 p16 p1 p2
    rw [p2]
    obtain ⟨f1, f2⟩ := frameF_len (hs.getD n.toNat 0) (plainF core && n == 0)
    have q1 := putI_len (mark := st.1) (slash := st.2.1) (b := 16) (by decide) (by omega) (by omega) (KStt.codes (frameF (hs.getD n.toNat 0) (plainF core && n == 0)).1)
    have q2 := putI_len (mark := st.1) (slash := st.2.1) (b := 16) (by decide) (by omega) (by omega) (KStt.codes (frameF (hs.getD n.toNat 0) (plainF core && n == 0)).2)
    rw [codes_len] at q1 q2
    unfold stepF
    dsimp only
    simp only [Str.length_append]
    refine ⟨?_, ?_, by omega, by omega⟩
    · split
      · rw [Str.length_append]; omega
      · rw [Str.length_append]; omega
    · split
      · omega
      · rw [Str.length_append]; omega
abbrev WP (core : Str) (hs pre : List Int) (mark slash head tail : Str) : Prop := (mark, slash, head, tail) = foldF core hs pre ∧ mark.length ≤ 1000 ∧ slash.length ≤ 1000 ∧ head.length ≤ 100000 ∧ tail.length ≤ 100000
theorem wp_of {core : Str} {hs pre : List Int} {mark slash head tail : Str} (hl : pre.length ≤ 4) (e : (mark, slash, head, tail) = foldF core hs pre) : WP core hs pre mark slash head tail := by
  obtain ⟨i1, i2, i3, i4⟩ := foldF_bounds core hs pre hl
  rw [← e] at i1 i2 i3 i4
  have p16 : 2 ^ pre.length ≤ 16 := Nat.le_trans (Nat.pow_le_pow_right (by decide) hl) (by decide)
  dsimp only at i1 i2 i3 i4
  exact ⟨e, by omega, by omega, by omega, by omega⟩
theorem whole_turn {core : Str} {hs pre : List Int} {n : Int} {mk sl hd tl b c r1 r2 mk' sl' : Str} {bare : Bool} (h4 : hs.length ≤ 4) (hl : pre.length < ((hs.length : Int) - 1 - -1).toNat) (e : (mk, sl, hd, tl) = foldF core hs pre)
    (ef : (b, c) = frameF (hs.getD n.toNat 0) bare) (hb : bare = (plainF core && n == 0)) (e1 : r1 = putI mk sl (KStt.codes b)) (e2 : r2 = putI mk sl (KStt.codes c))
    (em : mk' = if hs.getD n.toNat 0 = 0 then mk ++ mk else sl ++ mk) (es : sl' = if hs.getD n.toNat 0 = 0 then sl else sl ++ sl) : WP core hs (pre ++ [n]) mk' sl' (hd ++ r1) (r2 ++ tl) := by
  refine wp_of (by rw [List.length_append, List.length_singleton]; omega) ?_
  rw [foldF_snoc, ← e]
  unfold stepF
  dsimp only
  rw [← hb, ← ef, ← em, ← es]
  dsimp only
  rw [← e1, ← e2]
theorem whole_start (core : Str) (hs : List Int) : WP core hs [] (Str.ofString "\"") (Str.ofString "\\") (Str.ofString "") (Str.ofString "") := ⟨rfl, by decide, by decide, by decide, by decide⟩
theorem bare_t {core : Str} {n : Int} (h : plainF core = true) : (n == 0) = (plainF core && n == 0) := by rw [h]; rfl
theorem bare_f {core : Str} {n : Int} (h : plainF core = false) : plainF core = (plainF core && n == 0) := by rw [h]; rfl
theorem if_z {x : Int} {a b : Str} (h : x = 0) : a = if x = 0 then a else b := by rw [if_pos h]
theorem if_nz {x : Int} {a b : Str} (h : x ≠ 0) : b = if x = 0 then a else b := by rw [if_neg h]
def wholeF (core : Str) (hs : List Int) : Str :=
  (foldF core hs (downKs ((hs.length : Int) - 1) hs.length)).2.2.1 ++ putI (foldF core hs (downKs ((hs.length : Int) - 1) hs.length)).1 (foldF core hs (downKs ((hs.length : Int) - 1) hs.length)).2.1 (KStt.codes core) ++ (foldF core hs (downKs ((hs.length : Int) - 1) hs.length)).2.2.2
theorem whole_end {core : Str} {hs : List Int} {mk sl hd tl r : Str} (e : (mk, sl, hd, tl) = foldF core hs (downKs ((hs.length : Int) - 1) ((hs.length : Int) - 1 - -1).toNat)) (er : r = putI mk sl (KStt.codes core)) : hd ++ r ++ tl = wholeF core hs := by
  have q : ((hs.length : Int) - 1 - -1).toNat = hs.length := by omega
  rw [q] at e
  unfold wholeF
  rw [← e, er]

theorem whole_spec {prog : Program} {w : World} {hd9 : Option Value} {dp un : Nat} {gd : Option (List Code)} {cn : Str} {cs : Scope} {a : Addr} {ccd : Value} {cl : List (Str × Addr)} {outer : List Env} {A₀ : Around} {base h₀ : Heap} {L : Addr} {m mg mb : Str → Option Value} {p : Program} {loose : List Str} {mean : ExcName → Option Value}
   {s : Shared} {Q E : Value → Shared → Prop} {core : Str} {hl : Addr} {vs : List Value} {hs : List Int} {t1 : Tok}
   (B : Below A₀ base outer h₀) (F : Fr h₀ L s.heap m) (X : (hd.heap_39 w.params).In h₀) (T : Top p loose mean mg mb h₀) (hk : cs.kind = .function)
   (hdp : dp + 2 < recursionLimit) (hun : un + 100 < cLine) (hn : hd9 = none)
   (h1 : core.length ≤ 4) (hok : PyData.strOk core = true) (hlist : s.heap.IsList hl vs.toArray) (hints : IntsAre vs hs) (h4 : hs.length ≤ 4)
   (hret : ∀ r t h' tk', Stays s.heap h' → r = wholeF core hs → r.length ≤ 300000 → Q (.str r t) { s with heap := h', toks := tk' }) :
   wpAny (model prog w) (topA hd9 dp un gd cn cs L a ccd cl outer) (call (.ref 138) [.str core t1, .ref hl]) Q E s := by
  subst hn
  k_with_none
  w_top off
  (k_with "my compareOp Eq ref ref" => k_search (by ((k_here; k_dflt (refine' eq_strs_nil ?zzk1 ?zzk2 ?zzk3 ?zzok ?zzu ?_; (case zzk1 => is_list); (case zzk2 => assumption); (case zzk3 => is_list); (case zzok => exact signs_ok (by assumption)); (case zzu => ktr_units))))))
  (k_with "my call ref" => k_search (by ((k_here; k_dflt (refine' put_spec ?zzk1 ?zzk2 ?zzk3 ?zzk5 ?zzkK ?zzd ?zzu ?zzhn ?zzs1 ?zzs2 ?zzs3 ?_; (case zzk1 => k_asm); (case zzk2 => k_asm); (case zzk3 => k_asm); (case zzk5 => k_asm); (case zzkK => first | exact rfl | assumption); (case zzhn => exact rfl); (case zzd => ktr_room); (case zzu => ktr_units); (case zzs1 => first | assumption | decide | omega); (case zzs2 => first | assumption | decide | omega); (case zzs3 => first | assumption | decide | omega); intro zzr9 zzt9 zzh9 zztk9 zzK9 zze9 zzl9; (have zzF9 := fr_on (by k_asm) zzK9); (have zzN9 := news_on (by k_asm) zzK9); clear zzK9; (try k_sweep); (try dsimp only))))))
  (k_with "my call ref" => k_search (by ((k_here; k_dflt (refine' frame_spec ?zzk1 ?zzk2 ?zzk3 ?zzk5 ?zzkK ?zzd ?zzu ?zzhn ?_; (case zzk1 => k_asm); (case zzk2 => k_asm); (case zzk3 => k_asm); (case zzk5 => k_asm); (case zzkK => first | exact rfl | assumption); (case zzhn => exact rfl); (case zzd => ktr_room); (case zzu => ktr_units); intro zzx9 zzb9 zzc9 zzu9 zzv9 zzn9 zzh9 zztk9 zzK9 zzhx9 zzhy9 zze9 zzl9 zzm9; (have zzne9 := news_ne zzhx9 (by k_asm)); (simp only [AllNe, and_true] at zzne9); (have zzN9 := news_more (by k_asm) (by k_asm) zzK9 zzhx9 zzhy9); (have zzF9 := fr_on (by k_asm) zzK9); clear zzK9 zzhx9 zzhy9; (try k_sweep); (try dsimp only))))))
  (k_with "my ne" => (first | exact Nat.ne_of_beq_eq_false rfl | exact Nat.ne_of_lt (by with_reducible assumption) | exact Nat.ne_of_gt (by with_reducible assumption) | with_reducible assumption | exact Ne.symm (by with_reducible assumption) | exact Nat.ne_of_gt (cj0 (by with_reducible assumption)) | exact Nat.ne_of_gt (cj1 (by with_reducible assumption)) | exact Nat.ne_of_gt (ck1 (by with_reducible assumption)) | exact Nat.ne_of_gt (cj2 (by with_reducible assumption)) | exact Nat.ne_of_gt (ck2 (by with_reducible assumption)) | exact Nat.ne_of_gt (cj3 (by with_reducible assumption)) | exact Nat.ne_of_gt (ck3 (by with_reducible assumption)) | exact Nat.ne_of_gt (cj4 (by with_reducible assumption)) | exact Nat.ne_of_gt (ck4 (by with_reducible assumption)) | exact Nat.ne_of_gt (cj5 (by with_reducible assumption)) | exact Nat.ne_of_gt (ck5 (by with_reducible assumption)) | exact Nat.ne_of_gt (cj6 (by with_reducible assumption)) | exact Nat.ne_of_gt (ck6 (by with_reducible assumption)) | exact Nat.ne_of_gt (cj7 (by with_reducible assumption)) | exact Nat.ne_of_gt (ck7 (by with_reducible assumption)) | exact Nat.ne_of_gt (cj8 (by with_reducible assumption)) | exact Nat.ne_of_gt (ck8 (by with_reducible assumption)) | exact Nat.ne_of_gt (cj9 (by with_reducible assumption)) | exact Nat.ne_of_gt (ck9 (by with_reducible assumption)) | exact Nat.ne_of_gt (cj10 (by with_reducible assumption)) | exact Nat.ne_of_gt (ck10 (by with_reducible assumption)) | exact Nat.ne_of_gt (cj11 (by with_reducible assumption)) | exact Nat.ne_of_gt (ck11 (by with_reducible assumption)) | exact Nat.ne_of_gt (cj12 (by with_reducible assumption)) | exact Nat.ne_of_gt (ck12 (by with_reducible assumption)) | exact Nat.ne_of_gt (cj13 (by with_reducible assumption)) | exact Nat.ne_of_gt (ck13 (by with_reducible assumption)) | exact Nat.ne_of_gt (cj14 (by with_reducible assumption)) | exact Nat.ne_of_gt (ck14 (by with_reducible assumption)) | exact Nat.ne_of_gt (cj15 (by with_reducible assumption)) | exact Nat.ne_of_gt (ck15 (by with_reducible assumption)) | exact Nat.ne_of_gt (cj16 (by with_reducible assumption)) | exact Nat.ne_of_gt (ck16 (by with_reducible assumption)) | exact Nat.ne_of_lt (cj0 (by with_reducible assumption)) | exact Nat.ne_of_lt (cj1 (by with_reducible assumption)) | exact Nat.ne_of_lt (ck1 (by with_reducible assumption)) | exact Nat.ne_of_lt (cj2 (by with_reducible assumption)) | exact Nat.ne_of_lt (ck2 (by with_reducible assumption)) | exact Nat.ne_of_lt (cj3 (by with_reducible assumption)) | exact Nat.ne_of_lt (ck3 (by with_reducible assumption)) | exact Nat.ne_of_lt (cj4 (by with_reducible assumption)) | exact Nat.ne_of_lt (ck4 (by with_reducible assumption)) | exact Nat.ne_of_lt (cj5 (by with_reducible assumption)) | exact Nat.ne_of_lt (ck5 (by with_reducible assumption)) | exact Nat.ne_of_lt (cj6 (by with_reducible assumption)) | exact Nat.ne_of_lt (ck6 (by with_reducible assumption)) | exact Nat.ne_of_lt (cj7 (by with_reducible assumption)) | exact Nat.ne_of_lt (ck7 (by with_reducible assumption)) | exact Nat.ne_of_lt (cj8 (by with_reducible assumption)) | exact Nat.ne_of_lt (ck8 (by with_reducible assumption)) | exact Nat.ne_of_lt (cj9 (by with_reducible assumption)) | exact Nat.ne_of_lt (ck9 (by with_reducible assumption)) | exact Nat.ne_of_lt (cj10 (by with_reducible assumption)) | exact Nat.ne_of_lt (ck10 (by with_reducible assumption)) | exact Nat.ne_of_lt (cj11 (by with_reducible assumption)) | exact Nat.ne_of_lt (ck11 (by with_reducible assumption)) | exact Nat.ne_of_lt (cj12 (by with_reducible assumption)) | exact Nat.ne_of_lt (ck12 (by with_reducible assumption)) | exact Nat.ne_of_lt (cj13 (by with_reducible assumption)) | exact Nat.ne_of_lt (ck13 (by with_reducible assumption)) | exact Nat.ne_of_lt (cj14 (by with_reducible assumption)) | exact Nat.ne_of_lt (ck14 (by with_reducible assumption)) | exact Nat.ne_of_lt (cj15 (by with_reducible assumption)) | exact Nat.ne_of_lt (ck15 (by with_reducible assumption)) | exact Nat.ne_of_lt (cj16 (by with_reducible assumption)) | exact Nat.ne_of_lt (ck16 (by with_reducible assumption)) | exact ne_gtt (by with_reducible assumption) (cj0 (by with_reducible assumption)) | exact ne_gtt (by with_reducible assumption) (cj1 (by with_reducible assumption)) | exact ne_gtt (by with_reducible assumption) (ck1 (by with_reducible assumption)) | exact ne_gtt (by with_reducible assumption) (cj2 (by with_reducible assumption)) | exact ne_gtt (by with_reducible assumption) (ck2 (by with_reducible assumption)) | exact ne_gtt (by with_reducible assumption) (cj3 (by with_reducible assumption)) | exact ne_gtt (by with_reducible assumption) (ck3 (by with_reducible assumption)) | exact ne_gtt (by with_reducible assumption) (cj4 (by with_reducible assumption)) | exact ne_gtt (by with_reducible assumption) (ck4 (by with_reducible assumption)) | exact ne_gtt (by with_reducible assumption) (cj5 (by with_reducible assumption)) | exact ne_gtt (by with_reducible assumption) (ck5 (by with_reducible assumption)) | exact ne_gtt (by with_reducible assumption) (cj6 (by with_reducible assumption)) | exact ne_gtt (by with_reducible assumption) (ck6 (by with_reducible assumption)) | exact ne_gtt (by with_reducible assumption) (cj7 (by with_reducible assumption)) | exact ne_gtt (by with_reducible assumption) (ck7 (by with_reducible assumption)) | exact ne_gtt (by with_reducible assumption) (cj8 (by with_reducible assumption)) | exact ne_gtt (by with_reducible assumption) (ck8 (by with_reducible assumption)) | exact ne_gtt (by with_reducible assumption) (cj9 (by with_reducible assumption)) | exact ne_gtt (by with_reducible assumption) (ck9 (by with_reducible assumption)) | exact ne_gtt (by with_reducible assumption) (cj10 (by with_reducible assumption)) | exact ne_gtt (by with_reducible assumption) (ck10 (by with_reducible assumption)) | exact ne_gtt (by with_reducible assumption) (cj11 (by with_reducible assumption)) | exact ne_gtt (by with_reducible assumption) (ck11 (by with_reducible assumption)) | exact ne_gtt (by with_reducible assumption) (cj12 (by with_reducible assumption)) | exact ne_gtt (by with_reducible assumption) (ck12 (by with_reducible assumption)) | exact ne_gtt (by with_reducible assumption) (cj13 (by with_reducible assumption)) | exact ne_gtt (by with_reducible assumption) (ck13 (by with_reducible assumption)) | exact ne_gtt (by with_reducible assumption) (cj14 (by with_reducible assumption)) | exact ne_gtt (by with_reducible assumption) (ck14 (by with_reducible assumption)) | exact ne_gtt (by with_reducible assumption) (cj15 (by with_reducible assumption)) | exact ne_gtt (by with_reducible assumption) (ck15 (by with_reducible assumption)) | exact ne_gtt (by with_reducible assumption) (cj16 (by with_reducible assumption)) | exact ne_gtt (by with_reducible assumption) (ck16 (by with_reducible assumption)) | exact ne_ltt (by with_reducible assumption) (cj0 (by with_reducible assumption)) | exact ne_ltt (by with_reducible assumption) (cj1 (by with_reducible assumption)) | exact ne_ltt (by with_reducible assumption) (ck1 (by with_reducible assumption)) | exact ne_ltt (by with_reducible assumption) (cj2 (by with_reducible assumption)) | exact ne_ltt (by with_reducible assumption) (ck2 (by with_reducible assumption)) | exact ne_ltt (by with_reducible assumption) (cj3 (by with_reducible assumption)) | exact ne_ltt (by with_reducible assumption) (ck3 (by with_reducible assumption)) | exact ne_ltt (by with_reducible assumption) (cj4 (by with_reducible assumption)) | exact ne_ltt (by with_reducible assumption) (ck4 (by with_reducible assumption)) | exact ne_ltt (by with_reducible assumption) (cj5 (by with_reducible assumption)) | exact ne_ltt (by with_reducible assumption) (ck5 (by with_reducible assumption)) | exact ne_ltt (by with_reducible assumption) (cj6 (by with_reducible assumption)) | exact ne_ltt (by with_reducible assumption) (ck6 (by with_reducible assumption)) | exact ne_ltt (by with_reducible assumption) (cj7 (by with_reducible assumption)) | exact ne_ltt (by with_reducible assumption) (ck7 (by with_reducible assumption)) | exact ne_ltt (by with_reducible assumption) (cj8 (by with_reducible assumption)) | exact ne_ltt (by with_reducible assumption) (ck8 (by with_reducible assumption)) | exact ne_ltt (by with_reducible assumption) (cj9 (by with_reducible assumption)) | exact ne_ltt (by with_reducible assumption) (ck9 (by with_reducible assumption)) | exact ne_ltt (by with_reducible assumption) (cj10 (by with_reducible assumption)) | exact ne_ltt (by with_reducible assumption) (ck10 (by with_reducible assumption)) | exact ne_ltt (by with_reducible assumption) (cj11 (by with_reducible assumption)) | exact ne_ltt (by with_reducible assumption) (ck11 (by with_reducible assumption)) | exact ne_ltt (by with_reducible assumption) (cj12 (by with_reducible assumption)) | exact ne_ltt (by with_reducible assumption) (ck12 (by with_reducible assumption)) | exact ne_ltt (by with_reducible assumption) (cj13 (by with_reducible assumption)) | exact ne_ltt (by with_reducible assumption) (ck13 (by with_reducible assumption)) | exact ne_ltt (by with_reducible assumption) (cj14 (by with_reducible assumption)) | exact ne_ltt (by with_reducible assumption) (ck14 (by with_reducible assumption)) | exact ne_ltt (by with_reducible assumption) (cj15 (by with_reducible assumption)) | exact ne_ltt (by with_reducible assumption) (ck15 (by with_reducible assumption)) | exact ne_ltt (by with_reducible assumption) (cj16 (by with_reducible assumption)) | exact ne_ltt (by with_reducible assumption) (ck16 (by with_reducible assumption)) | exact (cj0 (by with_reducible assumption)) | exact (cj1 (by with_reducible assumption)) | exact (ck1 (by with_reducible assumption)) | exact (cj2 (by with_reducible assumption)) | exact (ck2 (by with_reducible assumption)) | exact (cj3 (by with_reducible assumption)) | exact (ck3 (by with_reducible assumption)) | exact (cj4 (by with_reducible assumption)) | exact (ck4 (by with_reducible assumption)) | exact (cj5 (by with_reducible assumption)) | exact (ck5 (by with_reducible assumption)) | exact (cj6 (by with_reducible assumption)) | exact (ck6 (by with_reducible assumption)) | exact (cj7 (by with_reducible assumption)) | exact (ck7 (by with_reducible assumption)) | exact (cj8 (by with_reducible assumption)) | exact (ck8 (by with_reducible assumption)) | exact (cj9 (by with_reducible assumption)) | exact (ck9 (by with_reducible assumption)) | exact (cj10 (by with_reducible assumption)) | exact (ck10 (by with_reducible assumption)) | exact (cj11 (by with_reducible assumption)) | exact (ck11 (by with_reducible assumption)) | exact (cj12 (by with_reducible assumption)) | exact (ck12 (by with_reducible assumption)) | exact (cj13 (by with_reducible assumption)) | exact (ck13 (by with_reducible assumption)) | exact (cj14 (by with_reducible assumption)) | exact (ck14 (by with_reducible assumption)) | exact (cj15 (by with_reducible assumption)) | exact (ck15 (by with_reducible assumption)) | exact (cj16 (by with_reducible assumption)) | exact (ck16 (by with_reducible assumption)) | exact Ne.symm (cj0 (by with_reducible assumption)) | exact Ne.symm (cj1 (by with_reducible assumption)) | exact Ne.symm (ck1 (by with_reducible assumption)) | exact Ne.symm (cj2 (by with_reducible assumption)) | exact Ne.symm (ck2 (by with_reducible assumption)) | exact Ne.symm (cj3 (by with_reducible assumption)) | exact Ne.symm (ck3 (by with_reducible assumption)) | exact Ne.symm (cj4 (by with_reducible assumption)) | exact Ne.symm (ck4 (by with_reducible assumption)) | exact Ne.symm (cj5 (by with_reducible assumption)) | exact Ne.symm (ck5 (by with_reducible assumption)) | exact Ne.symm (cj6 (by with_reducible assumption)) | exact Ne.symm (ck6 (by with_reducible assumption)) | exact Ne.symm (cj7 (by with_reducible assumption)) | exact Ne.symm (ck7 (by with_reducible assumption)) | exact Ne.symm (cj8 (by with_reducible assumption)) | exact Ne.symm (ck8 (by with_reducible assumption)) | exact Ne.symm (cj9 (by with_reducible assumption)) | exact Ne.symm (ck9 (by with_reducible assumption)) | exact Ne.symm (cj10 (by with_reducible assumption)) | exact Ne.symm (ck10 (by with_reducible assumption)) | exact Ne.symm (cj11 (by with_reducible assumption)) | exact Ne.symm (ck11 (by with_reducible assumption)) | exact Ne.symm (cj12 (by with_reducible assumption)) | exact Ne.symm (ck12 (by with_reducible assumption)) | exact Ne.symm (cj13 (by with_reducible assumption)) | exact Ne.symm (ck13 (by with_reducible assumption)) | exact Ne.symm (cj14 (by with_reducible assumption)) | exact Ne.symm (ck14 (by with_reducible assumption)) | exact Ne.symm (cj15 (by with_reducible assumption)) | exact Ne.symm (ck15 (by with_reducible assumption)) | exact Ne.symm (cj16 (by with_reducible assumption)) | exact Ne.symm (ck16 (by with_reducible assumption)) | exact (cj0 (cj0 (by with_reducible assumption))) | exact (cj1 (cj0 (by with_reducible assumption))) | exact (ck2 (cj0 (by with_reducible assumption))) | exact (cj0 (cj1 (by with_reducible assumption))) | exact (cj1 (cj1 (by with_reducible assumption))) | exact (ck2 (cj1 (by with_reducible assumption))) | exact (cj0 (ck1 (by with_reducible assumption))) | exact (cj1 (ck1 (by with_reducible assumption))) | exact (ck2 (ck1 (by with_reducible assumption))) | exact (cj0 (cj2 (by with_reducible assumption))) | exact (cj1 (cj2 (by with_reducible assumption))) | exact (ck2 (cj2 (by with_reducible assumption))) | exact (cj0 (ck2 (by with_reducible assumption))) | exact (cj1 (ck2 (by with_reducible assumption))) | exact (ck2 (ck2 (by with_reducible assumption))) | exact (cj0 (cj3 (by with_reducible assumption))) | exact (cj1 (cj3 (by with_reducible assumption))) | exact (ck2 (cj3 (by with_reducible assumption))) | exact (cj0 (ck3 (by with_reducible assumption))) | exact (cj1 (ck3 (by with_reducible assumption))) | exact (ck2 (ck3 (by with_reducible assumption))) | exact (cj0 (cj4 (by with_reducible assumption))) | exact (cj1 (cj4 (by with_reducible assumption))) | exact (ck2 (cj4 (by with_reducible assumption))) | exact (cj0 (ck4 (by with_reducible assumption))) | exact (cj1 (ck4 (by with_reducible assumption))) | exact (ck2 (ck4 (by with_reducible assumption))) | exact (cj0 (cj5 (by with_reducible assumption))) | exact (cj1 (cj5 (by with_reducible assumption))) | exact (ck2 (cj5 (by with_reducible assumption))) | exact (cj0 (ck5 (by with_reducible assumption))) | exact (cj1 (ck5 (by with_reducible assumption))) | exact (ck2 (ck5 (by with_reducible assumption))) | exact (cj0 (cj6 (by with_reducible assumption))) | exact (cj1 (cj6 (by with_reducible assumption))) | exact (ck2 (cj6 (by with_reducible assumption))) | exact (cj0 (ck6 (by with_reducible assumption))) | exact (cj1 (ck6 (by with_reducible assumption))) | exact (ck2 (ck6 (by with_reducible assumption))) | exact (cj0 (cj7 (by with_reducible assumption))) | exact (cj1 (cj7 (by with_reducible assumption))) | exact (ck2 (cj7 (by with_reducible assumption))) | exact (cj0 (ck7 (by with_reducible assumption))) | exact (cj1 (ck7 (by with_reducible assumption))) | exact (ck2 (ck7 (by with_reducible assumption))) | exact (cj0 (cj8 (by with_reducible assumption))) | exact (cj1 (cj8 (by with_reducible assumption))) | exact (ck2 (cj8 (by with_reducible assumption))) | exact (cj0 (ck8 (by with_reducible assumption))) | exact (cj1 (ck8 (by with_reducible assumption))) | exact (ck2 (ck8 (by with_reducible assumption))) | exact Ne.symm (cj0 (cj0 (by with_reducible assumption))) | exact Ne.symm (cj1 (cj0 (by with_reducible assumption))) | exact Ne.symm (ck2 (cj0 (by with_reducible assumption))) | exact Ne.symm (cj0 (cj1 (by with_reducible assumption))) | exact Ne.symm (cj1 (cj1 (by with_reducible assumption))) | exact Ne.symm (ck2 (cj1 (by with_reducible assumption))) | exact Ne.symm (cj0 (ck1 (by with_reducible assumption))) | exact Ne.symm (cj1 (ck1 (by with_reducible assumption))) | exact Ne.symm (ck2 (ck1 (by with_reducible assumption))) | exact Ne.symm (cj0 (cj2 (by with_reducible assumption))) | exact Ne.symm (cj1 (cj2 (by with_reducible assumption))) | exact Ne.symm (ck2 (cj2 (by with_reducible assumption))) | exact Ne.symm (cj0 (ck2 (by with_reducible assumption))) | exact Ne.symm (cj1 (ck2 (by with_reducible assumption))) | exact Ne.symm (ck2 (ck2 (by with_reducible assumption))) | exact Ne.symm (cj0 (cj3 (by with_reducible assumption))) | exact Ne.symm (cj1 (cj3 (by with_reducible assumption))) | exact Ne.symm (ck2 (cj3 (by with_reducible assumption))) | exact Ne.symm (cj0 (ck3 (by with_reducible assumption))) | exact Ne.symm (cj1 (ck3 (by with_reducible assumption))) | exact Ne.symm (ck2 (ck3 (by with_reducible assumption))) | exact Ne.symm (cj0 (cj4 (by with_reducible assumption))) | exact Ne.symm (cj1 (cj4 (by with_reducible assumption))) | exact Ne.symm (ck2 (cj4 (by with_reducible assumption))) | exact Ne.symm (cj0 (ck4 (by with_reducible assumption))) | exact Ne.symm (cj1 (ck4 (by with_reducible assumption))) | exact Ne.symm (ck2 (ck4 (by with_reducible assumption))) | exact Ne.symm (cj0 (cj5 (by with_reducible assumption))) | exact Ne.symm (cj1 (cj5 (by with_reducible assumption))) | exact Ne.symm (ck2 (cj5 (by with_reducible assumption))) | exact Ne.symm (cj0 (ck5 (by with_reducible assumption))) | exact Ne.symm (cj1 (ck5 (by with_reducible assumption))) | exact Ne.symm (ck2 (ck5 (by with_reducible assumption))) | exact Ne.symm (cj0 (cj6 (by with_reducible assumption))) | exact Ne.symm (cj1 (cj6 (by with_reducible assumption))) | exact Ne.symm (ck2 (cj6 (by with_reducible assumption))) | exact Ne.symm (cj0 (ck6 (by with_reducible assumption))) | exact Ne.symm (cj1 (ck6 (by with_reducible assumption))) | exact Ne.symm (ck2 (ck6 (by with_reducible assumption))) | exact Ne.symm (cj0 (cj7 (by with_reducible assumption))) | exact Ne.symm (cj1 (cj7 (by with_reducible assumption))) | exact Ne.symm (ck2 (cj7 (by with_reducible assumption))) | exact Ne.symm (cj0 (ck7 (by with_reducible assumption))) | exact Ne.symm (cj1 (ck7 (by with_reducible assumption))) | exact Ne.symm (ck2 (ck7 (by with_reducible assumption))) | exact Ne.symm (cj0 (cj8 (by with_reducible assumption))) | exact Ne.symm (cj1 (cj8 (by with_reducible assumption))) | exact Ne.symm (ck2 (cj8 (by with_reducible assumption))) | exact Ne.symm (cj0 (ck8 (by with_reducible assumption))) | exact Ne.symm (cj1 (ck8 (by with_reducible assumption))) | exact Ne.symm (ck2 (ck8 (by with_reducible assumption)))))
  refine wpAny_call ?_
  k_dflt (refine' code_pure (binds := [(Str.ofString "core", Value.str core t1), (Str.ofString "hands", Value.ref hl)]) ?k1 ?k2 ?k3 ?k5 ?kA ?kF ?kK ?k6 ?k7 ?k8 ?k9 ?kB ?_ ?c2 ?c3 ?c4 ?c5; (case kA => exact rfl); (case kF => exact rfl); (case kK => assumption); (case k1 => k_asm); (case k2 => k_asm); (case k3 => k_asm); (case k5 => k_asm); (case k6 => k_is); (case k7 => k_is); (case k8 => ktr_room); (case k9 => exact BindsTo.of_eq rfl); (case c5 => decide); (case kB => exact locs rfl); (case c2 => exact rfl); (case c3 => exact rfl); (case c4 => exact rfl); k_whole; intro L' h' F' N' B' X' T'; (try dsimp only); (try k_fold))
  (k_with "pyIter ref" => k_state (fun pre mark slash head tail => (mark, slash, head, tail) = foldF core hs pre ∧ mark.length ≤ 1000 ∧ slash.length ≤ 1000 ∧ head.length ≤ 100000 ∧ tail.length ≤ 100000) "mark" "slash" "head" "tail")
  (k_with "state" => first
    | exact whole_start _ _
    | exact whole_turn h4 (by assumption) (by assumption) (by assumption) (bare_t (by assumption)) (by assumption) (by assumption) (if_z (by assumption)) (if_z (by assumption))
    | exact whole_turn h4 (by assumption) (by assumption) (by assumption) (bare_f (by assumption)) (by assumption) (by assumption) (if_z (by assumption)) (if_z (by assumption))
    | exact whole_turn h4 (by assumption) (by assumption) (by assumption) (bare_t (by assumption)) (by assumption) (by assumption) (if_nz (by assumption)) (if_nz (by assumption))
    | exact whole_turn h4 (by assumption) (by assumption) (by assumption) (bare_f (by assumption)) (by assumption) (by assumption) (if_nz (by assumption)) (if_nz (by assumption)))
  k_steps
  all_goals (refine hret _ _ _ _ (Fr.keep (by assumption)) (whole_end (by assumption) (by assumption)) ?_; simp only [Str.length_append]; omega)
end Mine
end
section
open PySem PySem.W PySem.Calls PyProof.Rows
set_option maxHeartbeats 0
namespace Mine
theorem full_miss_x {prog : Program} {w : World} {A : Around} {E : Value → Shared → Prop} {s : Shared} {x : Str} {t : Tok} {Q : Value → Shared → Prop} (P : PatAt s.heap 75 Re.cTok 0) (hx : x.length < 1000000) {n : Nat} (hn : n < x.length) (h : ∀ j, j < n → Re.tokOk (x.cps.getD j 0) = true) (hno : Re.tokOk (x.cps.getD n 0) = false)
    (hq : Q .none s) : wpAny (model prog w) A (call (.builtin "re.Pattern.fullmatch") [.ref 75, .str x t]) Q E s :=
  call_full_miss P (by omega) (by decide) (Re.tok_no x.cps n hx hn h hno) hq

theorem tuple_now {h₀ h : Heap} {L t : Addr} {m : Str → Option Value} {items : Array Value} (P : h₀.IsTuple t items) (F : Fr h₀ L h m) : h.IsTuple t items := ⟨_, F.keep _ _ P.choose_spec.1, P.choose_spec.2⟩
theorem codeHd_join {P : Params} {h : Heap} (X : (hd.heap_39 P).In h) : CodeHd h 86 82 := ⟨_, _, _, _, _, _, _, _, _, X 86 _ rfl, rfl, rfl, rfl, rfl, rfl, rfl, rfl, rfl, by decide⟩
theorem codeHd_split {P : Params} {h : Heap} (X : (hd.heap_39 P).In h) : CodeHd h 69 65 := ⟨_, _, _, _, _, _, _, _, _, X 69 _ rfl, rfl, rfl, rfl, rfl, rfl, rfl, rfl, rfl, by decide⟩
theorem code_hide {prog : Program} {w : World} {A A₀ : Around} {s : Shared} {K : Frag} {L : Addr} {h₀ base : Heap} {m mg mb : Str → Option Value} {p : Program} {loose : List Str} {mean : ExcName → Option Value} {news : List (Addr × Obj)}
    {env : Env} {outer : List Env} {R : Result → Shared → Prop} {name qual : Str} {params : Arguments} {body : List Stmt} {scope : Scope} {dV kV doc pm cdv ct oc : Value} {an od : Option Addr} {osl : Array (Option Value)} {f : Addr} {args : Args} {binds : List (Str × Value)}
    (B : Below A₀ base outer h₀) (F : Fr h₀ L s.heap m) (X₀ : K.In h₀) (T : Top p loose mean mg mb h₀) (N : News h₀ L s.heap news) (hA : A.frames = some (env :: outer)) (hf : env.frame = some L) (hke : env.scope.kind = .function)
    (ho : K.lookup f = some ⟨oc, od, .func (fnOf name qual params body scope dV kV doc pm an cdv ct), osl⟩) (hcd : codeIn K cdv qual = true) (hroom : A.depth < recursionLimit)
    (hbind : BindsTo s (fnOf name qual params body scope dV kV doc pm an cdv ct) args binds) (hloc : ∀ y ∈ binds, scope.names.lookup y.1 = some .local)
    (h : ∀ L' h₁, Fr (hideAll s.heap (news.map (·.1))) L' h₁ (fun y => binds.reverse.lookup y) → News (hideAll s.heap (news.map (·.1))) L' h₁ news → Below A base (env :: outer) (hideAll s.heap (news.map (·.1))) → K.In (hideAll s.heap (news.map (·.1))) → Top p loose mean mg mb (hideAll s.heap (news.map (·.1))) → (∀ q ∈ news, q.1 < L') →
      wpAny (model prog w) (A.deeper (envOf qual scope L' f cdv)) (execs body (envOf qual scope L' f cdv))
        (fun fl s' => R (.ok (.ret (match fl with | .ret v => v | _ => .none))) s')
        (fun e s' => wpAny (model prog w) (A.deeper (envOf qual scope L' f cdv)) (leaving (envOf qual scope L' f cdv) e) (fun _ s'' => R (.error e) s'') (fun e' s'' => R (.error e') s'') s')
        { s with heap := h₁, toks := s.toks + binds.length })
    (hco : scope.isCoroutine = false) (hgen : scope.isGenerator = false) (hk : scope.kind = .function)
    (hcell : ∀ x ∈ scope.names, x.2 ≠ .cell) : codeAny (model prog w) A (.call (.ref f) args) R s := by
  obtain ⟨FG, BG, st, lv⟩ := groundX (R := R) B F N hA hf hke
  refine codeAny_call_def (fd := fnOf name qual params body scope dV kV doc pm an cdv ct) (body := body) (binds := binds) hroom ((X₀.keeps F.keep) _ _ ho) rfl (T.nolimit.keeps F.keep) (codeRec_of (X₀.keeps F.keep) hcd) rfl hbind hcell hloc (fun h₁ hns hk₁ => ?_) hco hgen hk
  exact h s.heap.objs.size h₁ ⟨hns, fun b o e => hk₁ b o (of_hideAll _ e), Nat.le_of_eq (hideAll_size _ _)⟩ (fun q hq => ⟨hk₁ _ _ (N q hq).1, Nat.ne_of_lt (Heap.lt_size (N q hq).1), hideAll_none _ (List.mem_map_of_mem hq)⟩) BG (X₀.keeps st) (T.keeps st) (fun q hq => Heap.lt_size (N q hq).1)
theorem hide_list {h : Heap} {a l : Addr} {items : Array Value} {o : Obj} (P : h.IsList l items) (ho : h.get? a = some o) (hc : o.cls = .none) : (hideAll h [a]).IsList l items := by
  obtain ⟨o', h1, h2, h3⟩ := P
  refine ⟨o', hideAll_get [a] h1 (fun q => ?_), h2, h3⟩
  have : l = a := by simpa using q
  rw [this, ho] at h1
  cases h1
  rw [hc] at h2
  cases h2
theorem hide_tuple {h : Heap} {a l : Addr} {items : Array Value} {o : Obj} (P : h.IsTuple l items) (ho : h.get? a = some o) (hc : o.cls = .none) : (hideAll h [a]).IsTuple l items := by
  obtain ⟨o', h1, h2, h3⟩ := P
  refine ⟨o', hideAll_get [a] h1 (fun q => ?_), h2, h3⟩
  have : l = a := by simpa using q
  rw [this, ho] at h1
  cases h1
  rw [hc] at h2
  cases h2
theorem len_ke : (Str.ofString "k=").length = 2 := by decide
theorem len_qu : (Str.ofString "\"").length = 1 := by decide
theorem len_ve : (Str.ofString "v").length = 1 := by decide
theorem len_se : (Str.ofString "; ").length = 2 := by decide
theorem len_co : (Str.ofString ", ").length = 2 := by decide
theorem join_two {prog : Program} {w : World} {A : Around} {E : Value → Shared → Prop} {s : Shared} {Q : Value → Shared → Prop} {D : Addr} {its : Array Value} {y z sep : Str} {t u v : Tok} (hl : s.heap.IsList D its) (he : its = #[Value.str y t, Value.str z u]) (hok : y.length + z.length + 2 * sep.length ≤ 16777216)
    (h : ∀ t' k r, r = y ++ sep ++ z → r.length ≤ y.length + sep.length + z.length → Q (.str r t') { s with toks := k }) : wpAny (model prog w) A (call (.builtin "str.join") [.str sep v, .ref D]) Q E s := by
  subst he
  refine join_list hl (ys := [y, z]) (.cons _ _ (.cons _ _ .nil)) (by simp only [List.map_cons, List.map_nil, List.sum_cons, List.sum_nil, List.length_cons, List.length_nil]; omega) fun t' k => ?_
  have e : Txt.join sep [y, z] = y ++ sep ++ z := by
    refine Str.ext' ?_
    rw [Str.cps_append, Str.cps_append]
    rfl
  exact h t' k _ e (by rw [e, Str.length_append, Str.length_append]; omega)
theorem join_one {prog : Program} {w : World} {A : Around} {E : Value → Shared → Prop} {s : Shared} {Q : Value → Shared → Prop} {D : Addr} {its : Array Value} {y sep : Str} {t v : Tok} (hl : s.heap.IsList D its) (he : its = #[Value.str y t]) (hok : y.length + sep.length ≤ 16777216)
    (h : ∀ t' k r, r = y → Q (.str r t') { s with toks := k }) : wpAny (model prog w) A (call (.builtin "str.join") [.str sep v, .ref D]) Q E s := by
  subst he
  refine join_list hl (ys := [y]) (.cons _ _ .nil) (by simp only [List.map_cons, List.map_nil, List.sum_cons, List.sum_nil, List.length_cons, List.length_nil]; omega) fun t' k => ?_
  exact h t' k _ rfl
def qualJ : Str := (Str.ofString "join_header_words" ++ Str.ofString ".<locals>.") ++ Str.ofString "<lambda>"
/-- a def's table of the codes within it: nothing yet, or its one lambda -/
def TabIs (P : Addr) (ln col : Nat) (qual : Str) (h : Heap) : Prop := h.get? P = some (tabObj #[]) ∨ ∃ c', h.get? P = some (tabObj #[rawInt ln, rawInt col, .ref c']) ∧ h.CodeRec (.ref c') qual
/-- the table holds its one lambda, whose code is new -/
def TabNew (P : Addr) (ln col : Nat) (qual : Str) (h h' : Heap) : Prop := ∃ c' oc vs t, h'.get? P = some (tabObj #[rawInt ln, rawInt col, .ref c']) ∧ h.get? c' = none ∧ h'.get? c' = some oc ∧ oc.data = .fields vs ∧ vs[1]? = some (.str qual t)
theorem tab_new {h G h' : Heap} {L P c' : Addr} {news : List (Addr × Obj)} {ln col : Nat} {qual : Str} {oc : Obj} {vs : Array Value} {t : Tok} (hG : hideAll h [P] = G) (N : News G L h' news) (m1 : (P, tabObj #[rawInt ln, rawInt col, .ref c']) ∈ news) (m2 : (c', oc) ∈ news) (d1 : oc.data = .fields vs) (d2 : vs[1]? = some (.str qual t)) (q : @LT.lt Nat _ P c') : TabNew P ln col qual h h' := by
  refine ⟨c', oc, vs, t, (N _ m1).1, ?_, (N _ m2).1, d1, d2⟩
  cases e : h.get? c' with
  | none => rfl
  | some o =>
    have := hideAll_get [P] e (by simp; exact Nat.ne_of_gt q)
    rw [hG, (N _ m2).2.2] at this
    cases this
theorem hide_but {h h' : Heap} {a : Addr} (k : Stays (hideAll h [a]) h') : Heap.ExtBut a h h' := fun b o hb e => k b o (hideAll_get [a] e (by simpa using hb))
theorem hide_code {h : Heap} {a c : Addr} {q : Str} (x : h.CodeRec (.ref c) q) (hn : c ≠ a) : (hideAll h [a]).CodeRec (.ref c) q := by
  obtain ⟨cc, oc, vs, t, e1, e2, e3, e4⟩ := x
  cases e1
  exact ⟨_, oc, vs, t, rfl, hideAll_get [a] e2 (by simpa using hn), e3, e4⟩
theorem code_ne {h : Heap} {a c : Addr} {q : Str} {ps : Array Value} (x : h.CodeRec (.ref c) q) (ha : h.get? a = some (tabObj ps)) (hp : ∀ t, ps[1]? ≠ some (.str q t)) : c ≠ a := by
  intro e
  obtain ⟨cc, oc, vs, t, e1, e2, e3, e4⟩ := x
  cases e1
  rw [e, ha] at e2
  cases e2
  cases e3
  exact hp t e4
def joinQ (l : List Nat) : List Nat := [107, 61, 34] ++ escL l ++ [34, 59, 32, 118]
theorem joinQ_eq {x r1 r2 r3 : Str} (e1 : r1 = S (escL x.cps.toList)) (e2 : r2 = Str.ofString "k=" ++ (Str.ofString "\"" ++ r1 ++ Str.ofString "\"") ++ Str.ofString "; " ++ Str.ofString "v") (e3 : r3 = r2) : r3 = S (joinQ x.cps.toList) := by
  subst e3 e2 e1
  have a1 : Str.ofString "k=" = S [107, 61] := by decide
  have a2 : Str.ofString "\"" = S [34] := by decide
  have a3 : Str.ofString "; " = S [59, 32] := by decide
  have a4 : Str.ofString "v" = S [118] := by decide
  rw [a1, a2, a3, a4]
  simp only [S_append]
  unfold joinQ
  simp

theorem join_quoted_first {prog : Program} {w : World} {hd9 : Option Value} {dp un : Nat} {gd : Option (List Code)} {cn : Str} {cs : Scope} {a : Addr} {ccd : Value} {cl : List (Str × Addr)} {outer : List Env} {A₀ : Around} {base h₀ : Heap} {L : Addr} {m mg mb : Str → Option Value} {p : Program} {loose : List Str} {mean : ExcName → Option Value}
   {s : Shared} {Q E : Value → Shared → Prop} {ll pl a1 a2 : Addr} {x : Str} {t1 t2 t3 : Tok} {n : Nat} 
   (B : Below A₀ base outer h₀) (F : Fr h₀ L s.heap m) (X : (hd.heap_39 w.params).In h₀) (T : Top p loose mean mg mb h₀) (hk : cs.kind = .function)
   (hdp : dp + 3 < recursionLimit) (hun : un + 100 < cLine) (hn : hd9 = none)
   (N : News h₀ L s.heap [(82, tabObj #[])])
   (k1' : s.heap.IsList ll [Value.ref pl].toArray) (k2' : s.heap.IsList pl [Value.ref a1, Value.ref a2].toArray) (k3' : s.heap.IsTuple a1 [Value.str (Str.ofString "k") t1, Value.str x t2].toArray) (k4' : s.heap.IsTuple a2 [Value.str (Str.ofString "v") t3, Value.none].toArray)
   (hx : x.length < 100000) (hnx : n < x.length) (htok : ∀ j, j < n → Re.tokOk (x.cps.getD j 0) = true) (hno : Re.tokOk (x.cps.getD n 0) = false)
   (hret : ∀ r t h' tk', Heap.ExtBut 82 s.heap h' → TabNew 82 57 50 qualJ s.heap h' → r = S (joinQ x.cps.toList) → Q (.str r t) { s with heap := h', toks := tk' }) :
   wpAny (model prog w) (topA hd9 dp un gd cn cs L a ccd cl outer) (call (.ref 87) [.ref ll]) Q E s := by
  subst hn
  have k1 := hide_list k1' (N _ (.head _)).1 rfl
  have k2 := hide_list k2' (N _ (.head _)).1 rfl
  have k3 := hide_tuple k3' (N _ (.head _)).1 rfl
  have k4 := hide_tuple k4' (N _ (.head _)).1 rfl
  clear k1' k2' k3' k4'
  k_with_none
  w_top off
  (k_with "my getMethod ref" => k_search (by ((k_here; k_dflt (first
  | refine pat_method (pat_tok (by k_in)) Fc.slot_fullmatch Fc.type_fullmatch ?_
  | refine pat_method (pat_esc (by k_in)) Fc.slot_sub Fc.type_sub ?_)))))
  (k_with "my call builtin:re.Pattern.fullmatch" => k_search (by ((k_here; k_dflt (refine full_miss_x (pat_tok (by k_in)) (by omega) (by assumption) (by assumption) (by assumption) ?_)))))
  (k_with "my exec For Name Name cons nil" => k_search (by ((k_here; k_dflt (refine wpAny_For ?_ (by intro _; rfl))))))
  (k_with "my exec For Tuple Name cons nil" => k_search (by ((k_here; k_dflt (refine wpAny_For ?_ (by intro _; rfl))))))
  (k_with "my pyIter ref" => k_search (by ((k_here; k_dflt (refine' for_list ?zzF ?zzN ?zzl ?_; (case zzF => k_asm); (case zzN => k_asm); (case zzl => is_list); intro zzI9 zzh9 zzF9 zzN9 zzne9; k_lt zzne9; (try k_sweep); (try dsimp only))))))
  (k_with "my ForEnd" => k_search (by ((with_unfolding_all (show ForAt _ _ _ _ _ _ _ _ _ _)))))
  (k_with "my mine del" => k_search (by (first | exact Del.nil | (refine' Del.skip ?zza; (case zza => walk_at "mine del")) | (refine' Del.keep ?zza ?zzb; (case zza => k_ne); (case zzb => walk_at "mine del")))))
  (k_with "my ForAt" => k_search (by ((k_here; k_dflt (first
  | (refine' forAt_item ?zzF ?zzN ?zzU ?zzl ?zzx ?zzt ?_; (case zzF => k_asm); (case zzN => k_asm); (case zzU => k_upd); (case zzl => is_list); (case zzx => rfl); (case zzt => intro _; rfl); intro zzh9 zzF9 zzN9; (try k_sweep); (try dsimp only))
  | (refine' forAt_itemT ?zzF ?zzN ?zzU ?zzl ?zzx ?_; (case zzF => k_asm); (case zzN => k_asm); (case zzU => k_upd); (case zzl => is_list); (case zzx => rfl); intro zzh9 zzF9 zzN9; (try k_sweep); (try dsimp only))
  | (refine' forAt_end ?zzF ?zzN ?zzU ?zzD ?zzl ?zzx ?zzhh ?_; (case zzF => k_asm); (case zzN => k_asm); (case zzU => k_mem); (case zzD => walk_at "mine del"); (case zzl => is_list); (case zzx => rfl); (case zzhh => first | exact .inl rfl | exact hand_now (by assumption) (by k_asm)); intro zzh9 zzF9 zzN9; (try k_sweep); (try dsimp only)))))))
  (k_with "my assign Tuple" => k_search (by ((k_here; k_dflt (refine' assign_pair ?zzh ?zzt ?zzn ?_; (case zzh => first | exact .inl rfl | exact hand_now (by assumption) (by k_asm)); (case zzt => first | exact tuple_of_news (by k_asm) (by k_mem) | exact tuple_now (by assumption) (by k_asm)); (case zzn => rfl); intro zzh9 zzK9; (have zzF9 := fr_on (by k_asm) zzK9); (have zzN9 := news_on (by k_asm) zzK9); clear zzK9; (try k_sweep); (try dsimp only))))))
  (k_with "my call builtin:str.join" => k_search (by ((k_here; k_dflt (first
  | (refine' join_two ?zzl ?zze ?zzo ?_; (case zzl => is_list); (case zze => rfl); (case zzo => (simp only [Str.length_append, len_ke, len_qu, len_ve, len_se]; omega)); intro zzt9 zzk9 zzr9 zze9 zzl9; (try dsimp only))
  | (refine' join_one ?zzl ?zze ?zzo ?_; (case zzl => is_list); (case zze => rfl); (case zzo => (simp only [Str.length_append, len_ke, len_qu, len_ve, len_se, len_co] at *; omega)); intro zzt9 zzk9 zzr9 zze9; (try dsimp only)))))))
  (k_with "my call builtin:re.Pattern.sub" => k_search (by ((k_here; k_dflt (refine' sub_esc ?zzB ?zzF ?zzX ?zzT ?zzA ?zzf ?zzk ?zzo ?zzc ?zzr ?zzx ?_; (case zzB => k_asm); (case zzF => k_asm); (case zzX => k_asm); (case zzT => k_asm); (case zzA => exact rfl); (case zzf => exact rfl); (case zzk => exact rfl); (case zzo => exact News.get (by k_asm) (by k_mem)); (case zzc => first | exact codeRec_news (by k_asm) (by k_mem) (by assumption) (by assumption) | exact Heap.CodeRec.keeps (by assumption) (Fr.keep (by k_asm))); (case zzr => ktr_room); (case zzx => omega); intro zzr9 zzt9 zzh9 zztk9 zzK9 zze9 zzl9; (have zzF9 := fr_on (by k_asm) zzK9); (have zzN9 := news_on (by k_asm) zzK9); clear zzK9; (try k_sweep); (try dsimp only))))))
  (k_with "my ne" => (first | exact Nat.ne_of_beq_eq_false rfl | exact Nat.ne_of_lt (by with_reducible assumption) | exact Nat.ne_of_gt (by with_reducible assumption) | with_reducible assumption | exact Ne.symm (by with_reducible assumption) | exact Nat.ne_of_gt (cj0 (by with_reducible assumption)) | exact Nat.ne_of_gt (cj1 (by with_reducible assumption)) | exact Nat.ne_of_gt (ck1 (by with_reducible assumption)) | exact Nat.ne_of_gt (cj2 (by with_reducible assumption)) | exact Nat.ne_of_gt (ck2 (by with_reducible assumption)) | exact Nat.ne_of_gt (cj3 (by with_reducible assumption)) | exact Nat.ne_of_gt (ck3 (by with_reducible assumption)) | exact Nat.ne_of_gt (cj4 (by with_reducible assumption)) | exact Nat.ne_of_gt (ck4 (by with_reducible assumption)) | exact Nat.ne_of_gt (cj5 (by with_reducible assumption)) | exact Nat.ne_of_gt (ck5 (by with_reducible assumption)) | exact Nat.ne_of_gt (cj6 (by with_reducible assumption)) | exact Nat.ne_of_gt (ck6 (by with_reducible assumption)) | exact Nat.ne_of_gt (cj7 (by with_reducible assumption)) | exact Nat.ne_of_gt (ck7 (by with_reducible assumption)) | exact Nat.ne_of_gt (cj8 (by with_reducible assumption)) | exact Nat.ne_of_gt (ck8 (by with_reducible assumption)) | exact Nat.ne_of_gt (cj9 (by with_reducible assumption)) | exact Nat.ne_of_gt (ck9 (by with_reducible assumption)) | exact Nat.ne_of_gt (cj10 (by with_reducible assumption)) | exact Nat.ne_of_gt (ck10 (by with_reducible assumption)) | exact Nat.ne_of_gt (cj11 (by with_reducible assumption)) | exact Nat.ne_of_gt (ck11 (by with_reducible assumption)) | exact Nat.ne_of_gt (cj12 (by with_reducible assumption)) | exact Nat.ne_of_gt (ck12 (by with_reducible assumption)) | exact Nat.ne_of_gt (cj13 (by with_reducible assumption)) | exact Nat.ne_of_gt (ck13 (by with_reducible assumption)) | exact Nat.ne_of_gt (cj14 (by with_reducible assumption)) | exact Nat.ne_of_gt (ck14 (by with_reducible assumption)) | exact Nat.ne_of_gt (cj15 (by with_reducible assumption)) | exact Nat.ne_of_gt (ck15 (by with_reducible assumption)) | exact Nat.ne_of_gt (cj16 (by with_reducible assumption)) | exact Nat.ne_of_gt (ck16 (by with_reducible assumption)) | exact Nat.ne_of_lt (cj0 (by with_reducible assumption)) | exact Nat.ne_of_lt (cj1 (by with_reducible assumption)) | exact Nat.ne_of_lt (ck1 (by with_reducible assumption)) | exact Nat.ne_of_lt (cj2 (by with_reducible assumption)) | exact Nat.ne_of_lt (ck2 (by with_reducible assumption)) | exact Nat.ne_of_lt (cj3 (by with_reducible assumption)) | exact Nat.ne_of_lt (ck3 (by with_reducible assumption)) | exact Nat.ne_of_lt (cj4 (by with_reducible assumption)) | exact Nat.ne_of_lt (ck4 (by with_reducible assumption)) | exact Nat.ne_of_lt (cj5 (by with_reducible assumption)) | exact Nat.ne_of_lt (ck5 (by with_reducible assumption)) | exact Nat.ne_of_lt (cj6 (by with_reducible assumption)) | exact Nat.ne_of_lt (ck6 (by with_reducible assumption)) | exact Nat.ne_of_lt (cj7 (by with_reducible assumption)) | exact Nat.ne_of_lt (ck7 (by with_reducible assumption)) | exact Nat.ne_of_lt (cj8 (by with_reducible assumption)) | exact Nat.ne_of_lt (ck8 (by with_reducible assumption)) | exact Nat.ne_of_lt (cj9 (by with_reducible assumption)) | exact Nat.ne_of_lt (ck9 (by with_reducible assumption)) | exact Nat.ne_of_lt (cj10 (by with_reducible assumption)) | exact Nat.ne_of_lt (ck10 (by with_reducible assumption)) | exact Nat.ne_of_lt (cj11 (by with_reducible assumption)) | exact Nat.ne_of_lt (ck11 (by with_reducible assumption)) | exact Nat.ne_of_lt (cj12 (by with_reducible assumption)) | exact Nat.ne_of_lt (ck12 (by with_reducible assumption)) | exact Nat.ne_of_lt (cj13 (by with_reducible assumption)) | exact Nat.ne_of_lt (ck13 (by with_reducible assumption)) | exact Nat.ne_of_lt (cj14 (by with_reducible assumption)) | exact Nat.ne_of_lt (ck14 (by with_reducible assumption)) | exact Nat.ne_of_lt (cj15 (by with_reducible assumption)) | exact Nat.ne_of_lt (ck15 (by with_reducible assumption)) | exact Nat.ne_of_lt (cj16 (by with_reducible assumption)) | exact Nat.ne_of_lt (ck16 (by with_reducible assumption)) | exact ne_gtt (by with_reducible assumption) (cj0 (by with_reducible assumption)) | exact ne_gtt (by with_reducible assumption) (cj1 (by with_reducible assumption)) | exact ne_gtt (by with_reducible assumption) (ck1 (by with_reducible assumption)) | exact ne_gtt (by with_reducible assumption) (cj2 (by with_reducible assumption)) | exact ne_gtt (by with_reducible assumption) (ck2 (by with_reducible assumption)) | exact ne_gtt (by with_reducible assumption) (cj3 (by with_reducible assumption)) | exact ne_gtt (by with_reducible assumption) (ck3 (by with_reducible assumption)) | exact ne_gtt (by with_reducible assumption) (cj4 (by with_reducible assumption)) | exact ne_gtt (by with_reducible assumption) (ck4 (by with_reducible assumption)) | exact ne_gtt (by with_reducible assumption) (cj5 (by with_reducible assumption)) | exact ne_gtt (by with_reducible assumption) (ck5 (by with_reducible assumption)) | exact ne_gtt (by with_reducible assumption) (cj6 (by with_reducible assumption)) | exact ne_gtt (by with_reducible assumption) (ck6 (by with_reducible assumption)) | exact ne_gtt (by with_reducible assumption) (cj7 (by with_reducible assumption)) | exact ne_gtt (by with_reducible assumption) (ck7 (by with_reducible assumption)) | exact ne_gtt (by with_reducible assumption) (cj8 (by with_reducible assumption)) | exact ne_gtt (by with_reducible assumption) (ck8 (by with_reducible assumption)) | exact ne_gtt (by with_reducible assumption) (cj9 (by with_reducible assumption)) | exact ne_gtt (by with_reducible assumption) (ck9 (by with_reducible assumption)) | exact ne_gtt (by with_reducible assumption) (cj10 (by with_reducible assumption)) | exact ne_gtt (by with_reducible assumption) (ck10 (by with_reducible assumption)) | exact ne_gtt (by with_reducible assumption) (cj11 (by with_reducible assumption)) | exact ne_gtt (by with_reducible assumption) (ck11 (by with_reducible assumption)) | exact ne_gtt (by with_reducible assumption) (cj12 (by with_reducible assumption)) | exact ne_gtt (by with_reducible assumption) (ck12 (by with_reducible assumption)) | exact ne_gtt (by with_reducible assumption) (cj13 (by with_reducible assumption)) | exact ne_gtt (by with_reducible assumption) (ck13 (by with_reducible assumption)) | exact ne_gtt (by with_reducible assumption) (cj14 (by with_reducible assumption)) | exact ne_gtt (by with_reducible assumption) (ck14 (by with_reducible assumption)) | exact ne_gtt (by with_reducible assumption) (cj15 (by with_reducible assumption)) | exact ne_gtt (by with_reducible assumption) (ck15 (by with_reducible assumption)) | exact ne_gtt (by with_reducible assumption) (cj16 (by with_reducible assumption)) | exact ne_gtt (by with_reducible assumption) (ck16 (by with_reducible assumption)) | exact ne_ltt (by with_reducible assumption) (cj0 (by with_reducible assumption)) | exact ne_ltt (by with_reducible assumption) (cj1 (by with_reducible assumption)) | exact ne_ltt (by with_reducible assumption) (ck1 (by with_reducible assumption)) | exact ne_ltt (by with_reducible assumption) (cj2 (by with_reducible assumption)) | exact ne_ltt (by with_reducible assumption) (ck2 (by with_reducible assumption)) | exact ne_ltt (by with_reducible assumption) (cj3 (by with_reducible assumption)) | exact ne_ltt (by with_reducible assumption) (ck3 (by with_reducible assumption)) | exact ne_ltt (by with_reducible assumption) (cj4 (by with_reducible assumption)) | exact ne_ltt (by with_reducible assumption) (ck4 (by with_reducible assumption)) | exact ne_ltt (by with_reducible assumption) (cj5 (by with_reducible assumption)) | exact ne_ltt (by with_reducible assumption) (ck5 (by with_reducible assumption)) | exact ne_ltt (by with_reducible assumption) (cj6 (by with_reducible assumption)) | exact ne_ltt (by with_reducible assumption) (ck6 (by with_reducible assumption)) | exact ne_ltt (by with_reducible assumption) (cj7 (by with_reducible assumption)) | exact ne_ltt (by with_reducible assumption) (ck7 (by with_reducible assumption)) | exact ne_ltt (by with_reducible assumption) (cj8 (by with_reducible assumption)) | exact ne_ltt (by with_reducible assumption) (ck8 (by with_reducible assumption)) | exact ne_ltt (by with_reducible assumption) (cj9 (by with_reducible assumption)) | exact ne_ltt (by with_reducible assumption) (ck9 (by with_reducible assumption)) | exact ne_ltt (by with_reducible assumption) (cj10 (by with_reducible assumption)) | exact ne_ltt (by with_reducible assumption) (ck10 (by with_reducible assumption)) | exact ne_ltt (by with_reducible assumption) (cj11 (by with_reducible assumption)) | exact ne_ltt (by with_reducible assumption) (ck11 (by with_reducible assumption)) | exact ne_ltt (by with_reducible assumption) (cj12 (by with_reducible assumption)) | exact ne_ltt (by with_reducible assumption) (ck12 (by with_reducible assumption)) | exact ne_ltt (by with_reducible assumption) (cj13 (by with_reducible assumption)) | exact ne_ltt (by with_reducible assumption) (ck13 (by with_reducible assumption)) | exact ne_ltt (by with_reducible assumption) (cj14 (by with_reducible assumption)) | exact ne_ltt (by with_reducible assumption) (ck14 (by with_reducible assumption)) | exact ne_ltt (by with_reducible assumption) (cj15 (by with_reducible assumption)) | exact ne_ltt (by with_reducible assumption) (ck15 (by with_reducible assumption)) | exact ne_ltt (by with_reducible assumption) (cj16 (by with_reducible assumption)) | exact ne_ltt (by with_reducible assumption) (ck16 (by with_reducible assumption)) | exact (cj0 (by with_reducible assumption)) | exact (cj1 (by with_reducible assumption)) | exact (ck1 (by with_reducible assumption)) | exact (cj2 (by with_reducible assumption)) | exact (ck2 (by with_reducible assumption)) | exact (cj3 (by with_reducible assumption)) | exact (ck3 (by with_reducible assumption)) | exact (cj4 (by with_reducible assumption)) | exact (ck4 (by with_reducible assumption)) | exact (cj5 (by with_reducible assumption)) | exact (ck5 (by with_reducible assumption)) | exact (cj6 (by with_reducible assumption)) | exact (ck6 (by with_reducible assumption)) | exact (cj7 (by with_reducible assumption)) | exact (ck7 (by with_reducible assumption)) | exact (cj8 (by with_reducible assumption)) | exact (ck8 (by with_reducible assumption)) | exact (cj9 (by with_reducible assumption)) | exact (ck9 (by with_reducible assumption)) | exact (cj10 (by with_reducible assumption)) | exact (ck10 (by with_reducible assumption)) | exact (cj11 (by with_reducible assumption)) | exact (ck11 (by with_reducible assumption)) | exact (cj12 (by with_reducible assumption)) | exact (ck12 (by with_reducible assumption)) | exact (cj13 (by with_reducible assumption)) | exact (ck13 (by with_reducible assumption)) | exact (cj14 (by with_reducible assumption)) | exact (ck14 (by with_reducible assumption)) | exact (cj15 (by with_reducible assumption)) | exact (ck15 (by with_reducible assumption)) | exact (cj16 (by with_reducible assumption)) | exact (ck16 (by with_reducible assumption)) | exact Ne.symm (cj0 (by with_reducible assumption)) | exact Ne.symm (cj1 (by with_reducible assumption)) | exact Ne.symm (ck1 (by with_reducible assumption)) | exact Ne.symm (cj2 (by with_reducible assumption)) | exact Ne.symm (ck2 (by with_reducible assumption)) | exact Ne.symm (cj3 (by with_reducible assumption)) | exact Ne.symm (ck3 (by with_reducible assumption)) | exact Ne.symm (cj4 (by with_reducible assumption)) | exact Ne.symm (ck4 (by with_reducible assumption)) | exact Ne.symm (cj5 (by with_reducible assumption)) | exact Ne.symm (ck5 (by with_reducible assumption)) | exact Ne.symm (cj6 (by with_reducible assumption)) | exact Ne.symm (ck6 (by with_reducible assumption)) | exact Ne.symm (cj7 (by with_reducible assumption)) | exact Ne.symm (ck7 (by with_reducible assumption)) | exact Ne.symm (cj8 (by with_reducible assumption)) | exact Ne.symm (ck8 (by with_reducible assumption)) | exact Ne.symm (cj9 (by with_reducible assumption)) | exact Ne.symm (ck9 (by with_reducible assumption)) | exact Ne.symm (cj10 (by with_reducible assumption)) | exact Ne.symm (ck10 (by with_reducible assumption)) | exact Ne.symm (cj11 (by with_reducible assumption)) | exact Ne.symm (ck11 (by with_reducible assumption)) | exact Ne.symm (cj12 (by with_reducible assumption)) | exact Ne.symm (ck12 (by with_reducible assumption)) | exact Ne.symm (cj13 (by with_reducible assumption)) | exact Ne.symm (ck13 (by with_reducible assumption)) | exact Ne.symm (cj14 (by with_reducible assumption)) | exact Ne.symm (ck14 (by with_reducible assumption)) | exact Ne.symm (cj15 (by with_reducible assumption)) | exact Ne.symm (ck15 (by with_reducible assumption)) | exact Ne.symm (cj16 (by with_reducible assumption)) | exact Ne.symm (ck16 (by with_reducible assumption)) | exact (cj0 (cj0 (by with_reducible assumption))) | exact (cj1 (cj0 (by with_reducible assumption))) | exact (ck2 (cj0 (by with_reducible assumption))) | exact (cj0 (cj1 (by with_reducible assumption))) | exact (cj1 (cj1 (by with_reducible assumption))) | exact (ck2 (cj1 (by with_reducible assumption))) | exact (cj0 (ck1 (by with_reducible assumption))) | exact (cj1 (ck1 (by with_reducible assumption))) | exact (ck2 (ck1 (by with_reducible assumption))) | exact (cj0 (cj2 (by with_reducible assumption))) | exact (cj1 (cj2 (by with_reducible assumption))) | exact (ck2 (cj2 (by with_reducible assumption))) | exact (cj0 (ck2 (by with_reducible assumption))) | exact (cj1 (ck2 (by with_reducible assumption))) | exact (ck2 (ck2 (by with_reducible assumption))) | exact (cj0 (cj3 (by with_reducible assumption))) | exact (cj1 (cj3 (by with_reducible assumption))) | exact (ck2 (cj3 (by with_reducible assumption))) | exact (cj0 (ck3 (by with_reducible assumption))) | exact (cj1 (ck3 (by with_reducible assumption))) | exact (ck2 (ck3 (by with_reducible assumption))) | exact (cj0 (cj4 (by with_reducible assumption))) | exact (cj1 (cj4 (by with_reducible assumption))) | exact (ck2 (cj4 (by with_reducible assumption))) | exact (cj0 (ck4 (by with_reducible assumption))) | exact (cj1 (ck4 (by with_reducible assumption))) | exact (ck2 (ck4 (by with_reducible assumption))) | exact (cj0 (cj5 (by with_reducible assumption))) | exact (cj1 (cj5 (by with_reducible assumption))) | exact (ck2 (cj5 (by with_reducible assumption))) | exact (cj0 (ck5 (by with_reducible assumption))) | exact (cj1 (ck5 (by with_reducible assumption))) | exact (ck2 (ck5 (by with_reducible assumption))) | exact (cj0 (cj6 (by with_reducible assumption))) | exact (cj1 (cj6 (by with_reducible assumption))) | exact (ck2 (cj6 (by with_reducible assumption))) | exact (cj0 (ck6 (by with_reducible assumption))) | exact (cj1 (ck6 (by with_reducible assumption))) | exact (ck2 (ck6 (by with_reducible assumption))) | exact (cj0 (cj7 (by with_reducible assumption))) | exact (cj1 (cj7 (by with_reducible assumption))) | exact (ck2 (cj7 (by with_reducible assumption))) | exact (cj0 (ck7 (by with_reducible assumption))) | exact (cj1 (ck7 (by with_reducible assumption))) | exact (ck2 (ck7 (by with_reducible assumption))) | exact (cj0 (cj8 (by with_reducible assumption))) | exact (cj1 (cj8 (by with_reducible assumption))) | exact (ck2 (cj8 (by with_reducible assumption))) | exact (cj0 (ck8 (by with_reducible assumption))) | exact (cj1 (ck8 (by with_reducible assumption))) | exact (ck2 (ck8 (by with_reducible assumption))) | exact Ne.symm (cj0 (cj0 (by with_reducible assumption))) | exact Ne.symm (cj1 (cj0 (by with_reducible assumption))) | exact Ne.symm (ck2 (cj0 (by with_reducible assumption))) | exact Ne.symm (cj0 (cj1 (by with_reducible assumption))) | exact Ne.symm (cj1 (cj1 (by with_reducible assumption))) | exact Ne.symm (ck2 (cj1 (by with_reducible assumption))) | exact Ne.symm (cj0 (ck1 (by with_reducible assumption))) | exact Ne.symm (cj1 (ck1 (by with_reducible assumption))) | exact Ne.symm (ck2 (ck1 (by with_reducible assumption))) | exact Ne.symm (cj0 (cj2 (by with_reducible assumption))) | exact Ne.symm (cj1 (cj2 (by with_reducible assumption))) | exact Ne.symm (ck2 (cj2 (by with_reducible assumption))) | exact Ne.symm (cj0 (ck2 (by with_reducible assumption))) | exact Ne.symm (cj1 (ck2 (by with_reducible assumption))) | exact Ne.symm (ck2 (ck2 (by with_reducible assumption))) | exact Ne.symm (cj0 (cj3 (by with_reducible assumption))) | exact Ne.symm (cj1 (cj3 (by with_reducible assumption))) | exact Ne.symm (ck2 (cj3 (by with_reducible assumption))) | exact Ne.symm (cj0 (ck3 (by with_reducible assumption))) | exact Ne.symm (cj1 (ck3 (by with_reducible assumption))) | exact Ne.symm (ck2 (ck3 (by with_reducible assumption))) | exact Ne.symm (cj0 (cj4 (by with_reducible assumption))) | exact Ne.symm (cj1 (cj4 (by with_reducible assumption))) | exact Ne.symm (ck2 (cj4 (by with_reducible assumption))) | exact Ne.symm (cj0 (ck4 (by with_reducible assumption))) | exact Ne.symm (cj1 (ck4 (by with_reducible assumption))) | exact Ne.symm (ck2 (ck4 (by with_reducible assumption))) | exact Ne.symm (cj0 (cj5 (by with_reducible assumption))) | exact Ne.symm (cj1 (cj5 (by with_reducible assumption))) | exact Ne.symm (ck2 (cj5 (by with_reducible assumption))) | exact Ne.symm (cj0 (ck5 (by with_reducible assumption))) | exact Ne.symm (cj1 (ck5 (by with_reducible assumption))) | exact Ne.symm (ck2 (ck5 (by with_reducible assumption))) | exact Ne.symm (cj0 (cj6 (by with_reducible assumption))) | exact Ne.symm (cj1 (cj6 (by with_reducible assumption))) | exact Ne.symm (ck2 (cj6 (by with_reducible assumption))) | exact Ne.symm (cj0 (ck6 (by with_reducible assumption))) | exact Ne.symm (cj1 (ck6 (by with_reducible assumption))) | exact Ne.symm (ck2 (ck6 (by with_reducible assumption))) | exact Ne.symm (cj0 (cj7 (by with_reducible assumption))) | exact Ne.symm (cj1 (cj7 (by with_reducible assumption))) | exact Ne.symm (ck2 (cj7 (by with_reducible assumption))) | exact Ne.symm (cj0 (ck7 (by with_reducible assumption))) | exact Ne.symm (cj1 (ck7 (by with_reducible assumption))) | exact Ne.symm (ck2 (ck7 (by with_reducible assumption))) | exact Ne.symm (cj0 (cj8 (by with_reducible assumption))) | exact Ne.symm (cj1 (cj8 (by with_reducible assumption))) | exact Ne.symm (ck2 (cj8 (by with_reducible assumption))) | exact Ne.symm (cj0 (ck8 (by with_reducible assumption))) | exact Ne.symm (cj1 (ck8 (by with_reducible assumption))) | exact Ne.symm (ck2 (ck8 (by with_reducible assumption)))))
  refine wpAny_call ?_
  k_dflt (refine' code_hide (binds := [(Str.ofString "lists", Value.ref ll)]) ?k1 ?k2 ?k3 ?k5 ?kN ?kA ?kF ?kK ?k6 ?k7 ?k8 ?k9 ?kB ?_ ?c2 ?c3 ?c4 ?c5; (case kA => exact rfl); (case kF => exact rfl); (case kK => assumption); (case k1 => k_asm); (case k2 => k_asm); (case k3 => k_asm); (case k5 => k_asm); (case kN => k_asm); (case k6 => k_is); (case k7 => k_is); (case k8 => ktr_room); (case k9 => exact BindsTo.of_eq rfl); (case c5 => decide); (case kB => exact locs rfl); (case c2 => exact rfl); (case c3 => exact rfl); (case c4 => exact rfl); k_whole; intro L' h' F' N' B' X' T' l1; (try dsimp only); (try k_fold))
  k_lt l1
  have codeHd := codeHd_join X'
  generalize hG : hideAll s.heap (List.map (fun x => x.1) [(82, tabObj #[])]) = G at F' N' B' X' T' codeHd
  have hG' : hideAll s.heap [82] = G := hG
  rw [hG'] at k1 k2 k3 k4
  k_steps
  all_goals (refine hret _ _ _ _ (hide_but (by rw [hG']; exact Fr.keep (by assumption))) ?_ (joinQ_eq (by assumption) (by assumption) (by assumption)))
  all_goals exact tab_new hG' (by assumption) (by k_mem) (by k_mem) (by assumption) (by assumption) (by omega)
theorem join_quoted_again {prog : Program} {w : World} {hd9 : Option Value} {dp un : Nat} {gd : Option (List Code)} {cn : Str} {cs : Scope} {a : Addr} {ccd : Value} {cl : List (Str × Addr)} {outer : List Env} {A₀ : Around} {base h₀ : Heap} {L : Addr} {m mg mb : Str → Option Value} {p : Program} {loose : List Str} {mean : ExcName → Option Value}
   {s : Shared} {Q E : Value → Shared → Prop} {ll pl a1 a2 : Addr} {x : Str} {t1 t2 t3 : Tok} {n : Nat} {c9 : Addr} (hc9' : s.heap.CodeRec (.ref c9) qualJ)
   (B : Below A₀ base outer h₀) (F : Fr h₀ L s.heap m) (X : (hd.heap_39 w.params).In h₀) (T : Top p loose mean mg mb h₀) (hk : cs.kind = .function)
   (hdp : dp + 3 < recursionLimit) (hun : un + 100 < cLine) (hn : hd9 = none)
   (N : News h₀ L s.heap [(82, tabObj #[rawInt (57 : Nat), rawInt (50 : Nat), .ref c9])])
   (k1' : s.heap.IsList ll [Value.ref pl].toArray) (k2' : s.heap.IsList pl [Value.ref a1, Value.ref a2].toArray) (k3' : s.heap.IsTuple a1 [Value.str (Str.ofString "k") t1, Value.str x t2].toArray) (k4' : s.heap.IsTuple a2 [Value.str (Str.ofString "v") t3, Value.none].toArray)
   (hx : x.length < 100000) (hnx : n < x.length) (htok : ∀ j, j < n → Re.tokOk (x.cps.getD j 0) = true) (hno : Re.tokOk (x.cps.getD n 0) = false)
   (hret : ∀ r t h' tk', Heap.ExtBut 82 s.heap h' → h'.get? 82 = some (tabObj #[rawInt (57 : Nat), rawInt (50 : Nat), .ref c9]) → r = S (joinQ x.cps.toList) → Q (.str r t) { s with heap := h', toks := tk' }) :
   wpAny (model prog w) (topA hd9 dp un gd cn cs L a ccd cl outer) (call (.ref 87) [.ref ll]) Q E s := by
  subst hn
  have k1 := hide_list k1' (N _ (.head _)).1 rfl
  have k2 := hide_list k2' (N _ (.head _)).1 rfl
  have k3 := hide_tuple k3' (N _ (.head _)).1 rfl
  have k4 := hide_tuple k4' (N _ (.head _)).1 rfl
  have hc9 := hide_code hc9' (code_ne hc9' (N _ (.head _)).1 (by intro t q; cases q))
  clear k1' k2' k3' k4'
  k_with_none
  w_top off
  (k_with "my getMethod ref" => k_search (by ((k_here; k_dflt (first
  | refine pat_method (pat_tok (by k_in)) Fc.slot_fullmatch Fc.type_fullmatch ?_
  | refine pat_method (pat_esc (by k_in)) Fc.slot_sub Fc.type_sub ?_)))))
  (k_with "my call builtin:re.Pattern.fullmatch" => k_search (by ((k_here; k_dflt (refine full_miss_x (pat_tok (by k_in)) (by omega) (by assumption) (by assumption) (by assumption) ?_)))))
  (k_with "my exec For Name Name cons nil" => k_search (by ((k_here; k_dflt (refine wpAny_For ?_ (by intro _; rfl))))))
  (k_with "my exec For Tuple Name cons nil" => k_search (by ((k_here; k_dflt (refine wpAny_For ?_ (by intro _; rfl))))))
  (k_with "my pyIter ref" => k_search (by ((k_here; k_dflt (refine' for_list ?zzF ?zzN ?zzl ?_; (case zzF => k_asm); (case zzN => k_asm); (case zzl => is_list); intro zzI9 zzh9 zzF9 zzN9 zzne9; k_lt zzne9; (try k_sweep); (try dsimp only))))))
  (k_with "my ForEnd" => k_search (by ((with_unfolding_all (show ForAt _ _ _ _ _ _ _ _ _ _)))))
  (k_with "my mine del" => k_search (by (first | exact Del.nil | (refine' Del.skip ?zza; (case zza => walk_at "mine del")) | (refine' Del.keep ?zza ?zzb; (case zza => k_ne); (case zzb => walk_at "mine del")))))
  (k_with "my ForAt" => k_search (by ((k_here; k_dflt (first
  | (refine' forAt_item ?zzF ?zzN ?zzU ?zzl ?zzx ?zzt ?_; (case zzF => k_asm); (case zzN => k_asm); (case zzU => k_upd); (case zzl => is_list); (case zzx => rfl); (case zzt => intro _; rfl); intro zzh9 zzF9 zzN9; (try k_sweep); (try dsimp only))
  | (refine' forAt_itemT ?zzF ?zzN ?zzU ?zzl ?zzx ?_; (case zzF => k_asm); (case zzN => k_asm); (case zzU => k_upd); (case zzl => is_list); (case zzx => rfl); intro zzh9 zzF9 zzN9; (try k_sweep); (try dsimp only))
  | (refine' forAt_end ?zzF ?zzN ?zzU ?zzD ?zzl ?zzx ?zzhh ?_; (case zzF => k_asm); (case zzN => k_asm); (case zzU => k_mem); (case zzD => walk_at "mine del"); (case zzl => is_list); (case zzx => rfl); (case zzhh => first | exact .inl rfl | exact hand_now (by assumption) (by k_asm)); intro zzh9 zzF9 zzN9; (try k_sweep); (try dsimp only)))))))
  (k_with "my assign Tuple" => k_search (by ((k_here; k_dflt (refine' assign_pair ?zzh ?zzt ?zzn ?_; (case zzh => first | exact .inl rfl | exact hand_now (by assumption) (by k_asm)); (case zzt => first | exact tuple_of_news (by k_asm) (by k_mem) | exact tuple_now (by assumption) (by k_asm)); (case zzn => rfl); intro zzh9 zzK9; (have zzF9 := fr_on (by k_asm) zzK9); (have zzN9 := news_on (by k_asm) zzK9); clear zzK9; (try k_sweep); (try dsimp only))))))
  (k_with "my call builtin:str.join" => k_search (by ((k_here; k_dflt (first
  | (refine' join_two ?zzl ?zze ?zzo ?_; (case zzl => is_list); (case zze => rfl); (case zzo => (simp only [Str.length_append, len_ke, len_qu, len_ve, len_se]; omega)); intro zzt9 zzk9 zzr9 zze9 zzl9; (try dsimp only))
  | (refine' join_one ?zzl ?zze ?zzo ?_; (case zzl => is_list); (case zze => rfl); (case zzo => (simp only [Str.length_append, len_ke, len_qu, len_ve, len_se, len_co] at *; omega)); intro zzt9 zzk9 zzr9 zze9; (try dsimp only)))))))
  (k_with "my call builtin:re.Pattern.sub" => k_search (by ((k_here; k_dflt (refine' sub_esc ?zzB ?zzF ?zzX ?zzT ?zzA ?zzf ?zzk ?zzo ?zzc ?zzr ?zzx ?_; (case zzB => k_asm); (case zzF => k_asm); (case zzX => k_asm); (case zzT => k_asm); (case zzA => exact rfl); (case zzf => exact rfl); (case zzk => exact rfl); (case zzo => exact News.get (by k_asm) (by k_mem)); (case zzc => first | exact codeRec_news (by k_asm) (by k_mem) (by assumption) (by assumption) | exact Heap.CodeRec.keeps (by assumption) (Fr.keep (by k_asm))); (case zzr => ktr_room); (case zzx => omega); intro zzr9 zzt9 zzh9 zztk9 zzK9 zze9 zzl9; (have zzF9 := fr_on (by k_asm) zzK9); (have zzN9 := news_on (by k_asm) zzK9); clear zzK9; (try k_sweep); (try dsimp only))))))
  (k_with "my ne" => (first | exact Nat.ne_of_beq_eq_false rfl | exact Nat.ne_of_lt (by with_reducible assumption) | exact Nat.ne_of_gt (by with_reducible assumption) | with_reducible assumption | exact Ne.symm (by with_reducible assumption) | exact Nat.ne_of_gt (cj0 (by with_reducible assumption)) | exact Nat.ne_of_gt (cj1 (by with_reducible assumption)) | exact Nat.ne_of_gt (ck1 (by with_reducible assumption)) | exact Nat.ne_of_gt (cj2 (by with_reducible assumption)) | exact Nat.ne_of_gt (ck2 (by with_reducible assumption)) | exact Nat.ne_of_gt (cj3 (by with_reducible assumption)) | exact Nat.ne_of_gt (ck3 (by with_reducible assumption)) | exact Nat.ne_of_gt (cj4 (by with_reducible assumption)) | exact Nat.ne_of_gt (ck4 (by with_reducible assumption)) | exact Nat.ne_of_gt (cj5 (by with_reducible assumption)) | exact Nat.ne_of_gt (ck5 (by with_reducible assumption)) | exact Nat.ne_of_gt (cj6 (by with_reducible assumption)) | exact Nat.ne_of_gt (ck6 (by with_reducible assumption)) | exact Nat.ne_of_gt (cj7 (by with_reducible assumption)) | exact Nat.ne_of_gt (ck7 (by with_reducible assumption)) | exact Nat.ne_of_gt (cj8 (by with_reducible assumption)) | exact Nat.ne_of_gt (ck8 (by with_reducible assumption)) | exact Nat.ne_of_gt (cj9 (by with_reducible assumption)) | exact Nat.ne_of_gt (ck9 (by with_reducible assumption)) | exact Nat.ne_of_gt (cj10 (by with_reducible assumption)) | exact Nat.ne_of_gt (ck10 (by with_reducible assumption)) | exact Nat.ne_of_gt (cj11 (by with_reducible assumption)) | exact Nat.ne_of_gt (ck11 (by with_reducible assumption)) | exact Nat.ne_of_gt (cj12 (by with_reducible assumption)) | exact Nat.ne_of_gt (ck12 (by with_reducible assumption)) | exact Nat.ne_of_gt (cj13 (by with_reducible assumption)) | exact Nat.ne_of_gt (ck13 (by with_reducible assumption)) | exact Nat.ne_of_gt (cj14 (by with_reducible assumption)) | exact Nat.ne_of_gt (ck14 (by with_reducible assumption)) | exact Nat.ne_of_gt (cj15 (by with_reducible assumption)) | exact Nat.ne_of_gt (ck15 (by with_reducible assumption)) | exact Nat.ne_of_gt (cj16 (by with_reducible assumption)) | exact Nat.ne_of_gt (ck16 (by with_reducible assumption)) | exact Nat.ne_of_lt (cj0 (by with_reducible assumption)) | exact Nat.ne_of_lt (cj1 (by with_reducible assumption)) | exact Nat.ne_of_lt (ck1 (by with_reducible assumption)) | exact Nat.ne_of_lt (cj2 (by with_reducible assumption)) | exact Nat.ne_of_lt (ck2 (by with_reducible assumption)) | exact Nat.ne_of_lt (cj3 (by with_reducible assumption)) | exact Nat.ne_of_lt (ck3 (by with_reducible assumption)) | exact Nat.ne_of_lt (cj4 (by with_reducible assumption)) | exact Nat.ne_of_lt (ck4 (by with_reducible assumption)) | exact Nat.ne_of_lt (cj5 (by with_reducible assumption)) | exact Nat.ne_of_lt (ck5 (by with_reducible assumption)) | exact Nat.ne_of_lt (cj6 (by with_reducible assumption)) | exact Nat.ne_of_lt (ck6 (by with_reducible assumption)) | exact Nat.ne_of_lt (cj7 (by with_reducible assumption)) | exact Nat.ne_of_lt (ck7 (by with_reducible assumption)) | exact Nat.ne_of_lt (cj8 (by with_reducible assumption)) | exact Nat.ne_of_lt (ck8 (by with_reducible assumption)) | exact Nat.ne_of_lt (cj9 (by with_reducible assumption)) | exact Nat.ne_of_lt (ck9 (by with_reducible assumption)) | exact Nat.ne_of_lt (cj10 (by with_reducible assumption)) | exact Nat.ne_of_lt (ck10 (by with_reducible assumption)) | exact Nat.ne_of_lt (cj11 (by with_reducible assumption)) | exact Nat.ne_of_lt (ck11 (by with_reducible assumption)) | exact Nat.ne_of_lt (cj12 (by with_reducible assumption)) | exact Nat.ne_of_lt (ck12 (by with_reducible assumption)) | exact Nat.ne_of_lt (cj13 (by with_reducible assumption)) | exact Nat.ne_of_lt (ck13 (by with_reducible assumption)) | exact Nat.ne_of_lt (cj14 (by with_reducible assumption)) | exact Nat.ne_of_lt (ck14 (by with_reducible assumption)) | exact Nat.ne_of_lt (cj15 (by with_reducible assumption)) | exact Nat.ne_of_lt (ck15 (by with_reducible assumption)) | exact Nat.ne_of_lt (cj16 (by with_reducible assumption)) | exact Nat.ne_of_lt (ck16 (by with_reducible assumption)) | exact ne_gtt (by with_reducible assumption) (cj0 (by with_reducible assumption)) | exact ne_gtt (by with_reducible assumption) (cj1 (by with_reducible assumption)) | exact ne_gtt (by with_reducible assumption) (ck1 (by with_reducible assumption)) | exact ne_gtt (by with_reducible assumption) (cj2 (by with_reducible assumption)) | exact ne_gtt (by with_reducible assumption) (ck2 (by with_reducible assumption)) | exact ne_gtt (by with_reducible assumption) (cj3 (by with_reducible assumption)) | exact ne_gtt (by with_reducible assumption) (ck3 (by with_reducible assumption)) | exact ne_gtt (by with_reducible assumption) (cj4 (by with_reducible assumption)) | exact ne_gtt (by with_reducible assumption) (ck4 (by with_reducible assumption)) | exact ne_gtt (by with_reducible assumption) (cj5 (by with_reducible assumption)) | exact ne_gtt (by with_reducible assumption) (ck5 (by with_reducible assumption)) | exact ne_gtt (by with_reducible assumption) (cj6 (by with_reducible assumption)) | exact ne_gtt (by with_reducible assumption) (ck6 (by with_reducible assumption)) | exact ne_gtt (by with_reducible assumption) (cj7 (by with_reducible assumption)) | exact ne_gtt (by with_reducible assumption) (ck7 (by with_reducible assumption)) | exact ne_gtt (by with_reducible assumption) (cj8 (by with_reducible assumption)) | exact ne_gtt (by with_reducible assumption) (ck8 (by with_reducible assumption)) | exact ne_gtt (by with_reducible assumption) (cj9 (by with_reducible assumption)) | exact ne_gtt (by with_reducible assumption) (ck9 (by with_reducible assumption)) | exact ne_gtt (by with_reducible assumption) (cj10 (by with_reducible assumption)) | exact ne_gtt (by with_reducible assumption) (ck10 (by with_reducible assumption)) | exact ne_gtt (by with_reducible assumption) (cj11 (by with_reducible assumption)) | exact ne_gtt (by with_reducible assumption) (ck11 (by with_reducible assumption)) | exact ne_gtt (by with_reducible assumption) (cj12 (by with_reducible assumption)) | exact ne_gtt (by with_reducible assumption) (ck12 (by with_reducible assumption)) | exact ne_gtt (by with_reducible assumption) (cj13 (by with_reducible assumption)) | exact ne_gtt (by with_reducible assumption) (ck13 (by with_reducible assumption)) | exact ne_gtt (by with_reducible assumption) (cj14 (by with_reducible assumption)) | exact ne_gtt (by with_reducible assumption) (ck14 (by with_reducible assumption)) | exact ne_gtt (by with_reducible assumption) (cj15 (by with_reducible assumption)) | exact ne_gtt (by with_reducible assumption) (ck15 (by with_reducible assumption)) | exact ne_gtt (by with_reducible assumption) (cj16 (by with_reducible assumption)) | exact ne_gtt (by with_reducible assumption) (ck16 (by with_reducible assumption)) | exact ne_ltt (by with_reducible assumption) (cj0 (by with_reducible assumption)) | exact ne_ltt (by with_reducible assumption) (cj1 (by with_reducible assumption)) | exact ne_ltt (by with_reducible assumption) (ck1 (by with_reducible assumption)) | exact ne_ltt (by with_reducible assumption) (cj2 (by with_reducible assumption)) | exact ne_ltt (by with_reducible assumption) (ck2 (by with_reducible assumption)) | exact ne_ltt (by with_reducible assumption) (cj3 (by with_reducible assumption)) | exact ne_ltt (by with_reducible assumption) (ck3 (by with_reducible assumption)) | exact ne_ltt (by with_reducible assumption) (cj4 (by with_reducible assumption)) | exact ne_ltt (by with_reducible assumption) (ck4 (by with_reducible assumption)) | exact ne_ltt (by with_reducible assumption) (cj5 (by with_reducible assumption)) | exact ne_ltt (by with_reducible assumption) (ck5 (by with_reducible assumption)) | exact ne_ltt (by with_reducible assumption) (cj6 (by with_reducible assumption)) | exact ne_ltt (by with_reducible assumption) (ck6 (by with_reducible assumption)) | exact ne_ltt (by with_reducible assumption) (cj7 (by with_reducible assumption)) | exact ne_ltt (by with_reducible assumption) (ck7 (by with_reducible assumption)) | exact ne_ltt (by with_reducible assumption) (cj8 (by with_reducible assumption)) | exact ne_ltt (by with_reducible assumption) (ck8 (by with_reducible assumption)) | exact ne_ltt (by with_reducible assumption) (cj9 (by with_reducible assumption)) | exact ne_ltt (by with_reducible assumption) (ck9 (by with_reducible assumption)) | exact ne_ltt (by with_reducible assumption) (cj10 (by with_reducible assumption)) | exact ne_ltt (by with_reducible assumption) (ck10 (by with_reducible assumption)) | exact ne_ltt (by with_reducible assumption) (cj11 (by with_reducible assumption)) | exact ne_ltt (by with_reducible assumption) (ck11 (by with_reducible assumption)) | exact ne_ltt (by with_reducible assumption) (cj12 (by with_reducible assumption)) | exact ne_ltt (by with_reducible assumption) (ck12 (by with_reducible assumption)) | exact ne_ltt (by with_reducible assumption) (cj13 (by with_reducible assumption)) | exact ne_ltt (by with_reducible assumption) (ck13 (by with_reducible assumption)) | exact ne_ltt (by with_reducible assumption) (cj14 (by with_reducible assumption)) | exact ne_ltt (by with_reducible assumption) (ck14 (by with_reducible assumption)) | exact ne_ltt (by with_reducible assumption) (cj15 (by with_reducible assumption)) | exact ne_ltt (by with_reducible assumption) (ck15 (by with_reducible assumption)) | exact ne_ltt (by with_reducible assumption) (cj16 (by with_reducible assumption)) | exact ne_ltt (by with_reducible assumption) (ck16 (by with_reducible assumption)) | exact (cj0 (by with_reducible assumption)) | exact (cj1 (by with_reducible assumption)) | exact (ck1 (by with_reducible assumption)) | exact (cj2 (by with_reducible assumption)) | exact (ck2 (by with_reducible assumption)) | exact (cj3 (by with_reducible assumption)) | exact (ck3 (by with_reducible assumption)) | exact (cj4 (by with_reducible assumption)) | exact (ck4 (by with_reducible assumption)) | exact (cj5 (by with_reducible assumption)) | exact (ck5 (by with_reducible assumption)) | exact (cj6 (by with_reducible assumption)) | exact (ck6 (by with_reducible assumption)) | exact (cj7 (by with_reducible assumption)) | exact (ck7 (by with_reducible assumption)) | exact (cj8 (by with_reducible assumption)) | exact (ck8 (by with_reducible assumption)) | exact (cj9 (by with_reducible assumption)) | exact (ck9 (by with_reducible assumption)) | exact (cj10 (by with_reducible assumption)) | exact (ck10 (by with_reducible assumption)) | exact (cj11 (by with_reducible assumption)) | exact (ck11 (by with_reducible assumption)) | exact (cj12 (by with_reducible assumption)) | exact (ck12 (by with_reducible assumption)) | exact (cj13 (by with_reducible assumption)) | exact (ck13 (by with_reducible assumption)) | exact (cj14 (by with_reducible assumption)) | exact (ck14 (by with_reducible assumption)) | exact (cj15 (by with_reducible assumption)) | exact (ck15 (by with_reducible assumption)) | exact (cj16 (by with_reducible assumption)) | exact (ck16 (by with_reducible assumption)) | exact Ne.symm (cj0 (by with_reducible assumption)) | exact Ne.symm (cj1 (by with_reducible assumption)) | exact Ne.symm (ck1 (by with_reducible assumption)) | exact Ne.symm (cj2 (by with_reducible assumption)) | exact Ne.symm (ck2 (by with_reducible assumption)) | exact Ne.symm (cj3 (by with_reducible assumption)) | exact Ne.symm (ck3 (by with_reducible assumption)) | exact Ne.symm (cj4 (by with_reducible assumption)) | exact Ne.symm (ck4 (by with_reducible assumption)) | exact Ne.symm (cj5 (by with_reducible assumption)) | exact Ne.symm (ck5 (by with_reducible assumption)) | exact Ne.symm (cj6 (by with_reducible assumption)) | exact Ne.symm (ck6 (by with_reducible assumption)) | exact Ne.symm (cj7 (by with_reducible assumption)) | exact Ne.symm (ck7 (by with_reducible assumption)) | exact Ne.symm (cj8 (by with_reducible assumption)) | exact Ne.symm (ck8 (by with_reducible assumption)) | exact Ne.symm (cj9 (by with_reducible assumption)) | exact Ne.symm (ck9 (by with_reducible assumption)) | exact Ne.symm (cj10 (by with_reducible assumption)) | exact Ne.symm (ck10 (by with_reducible assumption)) | exact Ne.symm (cj11 (by with_reducible assumption)) | exact Ne.symm (ck11 (by with_reducible assumption)) | exact Ne.symm (cj12 (by with_reducible assumption)) | exact Ne.symm (ck12 (by with_reducible assumption)) | exact Ne.symm (cj13 (by with_reducible assumption)) | exact Ne.symm (ck13 (by with_reducible assumption)) | exact Ne.symm (cj14 (by with_reducible assumption)) | exact Ne.symm (ck14 (by with_reducible assumption)) | exact Ne.symm (cj15 (by with_reducible assumption)) | exact Ne.symm (ck15 (by with_reducible assumption)) | exact Ne.symm (cj16 (by with_reducible assumption)) | exact Ne.symm (ck16 (by with_reducible assumption)) | exact (cj0 (cj0 (by with_reducible assumption))) | exact (cj1 (cj0 (by with_reducible assumption))) | exact (ck2 (cj0 (by with_reducible assumption))) | exact (cj0 (cj1 (by with_reducible assumption))) | exact (cj1 (cj1 (by with_reducible assumption))) | exact (ck2 (cj1 (by with_reducible assumption))) | exact (cj0 (ck1 (by with_reducible assumption))) | exact (cj1 (ck1 (by with_reducible assumption))) | exact (ck2 (ck1 (by with_reducible assumption))) | exact (cj0 (cj2 (by with_reducible assumption))) | exact (cj1 (cj2 (by with_reducible assumption))) | exact (ck2 (cj2 (by with_reducible assumption))) | exact (cj0 (ck2 (by with_reducible assumption))) | exact (cj1 (ck2 (by with_reducible assumption))) | exact (ck2 (ck2 (by with_reducible assumption))) | exact (cj0 (cj3 (by with_reducible assumption))) | exact (cj1 (cj3 (by with_reducible assumption))) | exact (ck2 (cj3 (by with_reducible assumption))) | exact (cj0 (ck3 (by with_reducible assumption))) | exact (cj1 (ck3 (by with_reducible assumption))) | exact (ck2 (ck3 (by with_reducible assumption))) | exact (cj0 (cj4 (by with_reducible assumption))) | exact (cj1 (cj4 (by with_reducible assumption))) | exact (ck2 (cj4 (by with_reducible assumption))) | exact (cj0 (ck4 (by with_reducible assumption))) | exact (cj1 (ck4 (by with_reducible assumption))) | exact (ck2 (ck4 (by with_reducible assumption))) | exact (cj0 (cj5 (by with_reducible assumption))) | exact (cj1 (cj5 (by with_reducible assumption))) | exact (ck2 (cj5 (by with_reducible assumption))) | exact (cj0 (ck5 (by with_reducible assumption))) | exact (cj1 (ck5 (by with_reducible assumption))) | exact (ck2 (ck5 (by with_reducible assumption))) | exact (cj0 (cj6 (by with_reducible assumption))) | exact (cj1 (cj6 (by with_reducible assumption))) | exact (ck2 (cj6 (by with_reducible assumption))) | exact (cj0 (ck6 (by with_reducible assumption))) | exact (cj1 (ck6 (by with_reducible assumption))) | exact (ck2 (ck6 (by with_reducible assumption))) | exact (cj0 (cj7 (by with_reducible assumption))) | exact (cj1 (cj7 (by with_reducible assumption))) | exact (ck2 (cj7 (by with_reducible assumption))) | exact (cj0 (ck7 (by with_reducible assumption))) | exact (cj1 (ck7 (by with_reducible assumption))) | exact (ck2 (ck7 (by with_reducible assumption))) | exact (cj0 (cj8 (by with_reducible assumption))) | exact (cj1 (cj8 (by with_reducible assumption))) | exact (ck2 (cj8 (by with_reducible assumption))) | exact (cj0 (ck8 (by with_reducible assumption))) | exact (cj1 (ck8 (by with_reducible assumption))) | exact (ck2 (ck8 (by with_reducible assumption))) | exact Ne.symm (cj0 (cj0 (by with_reducible assumption))) | exact Ne.symm (cj1 (cj0 (by with_reducible assumption))) | exact Ne.symm (ck2 (cj0 (by with_reducible assumption))) | exact Ne.symm (cj0 (cj1 (by with_reducible assumption))) | exact Ne.symm (cj1 (cj1 (by with_reducible assumption))) | exact Ne.symm (ck2 (cj1 (by with_reducible assumption))) | exact Ne.symm (cj0 (ck1 (by with_reducible assumption))) | exact Ne.symm (cj1 (ck1 (by with_reducible assumption))) | exact Ne.symm (ck2 (ck1 (by with_reducible assumption))) | exact Ne.symm (cj0 (cj2 (by with_reducible assumption))) | exact Ne.symm (cj1 (cj2 (by with_reducible assumption))) | exact Ne.symm (ck2 (cj2 (by with_reducible assumption))) | exact Ne.symm (cj0 (ck2 (by with_reducible assumption))) | exact Ne.symm (cj1 (ck2 (by with_reducible assumption))) | exact Ne.symm (ck2 (ck2 (by with_reducible assumption))) | exact Ne.symm (cj0 (cj3 (by with_reducible assumption))) | exact Ne.symm (cj1 (cj3 (by with_reducible assumption))) | exact Ne.symm (ck2 (cj3 (by with_reducible assumption))) | exact Ne.symm (cj0 (ck3 (by with_reducible assumption))) | exact Ne.symm (cj1 (ck3 (by with_reducible assumption))) | exact Ne.symm (ck2 (ck3 (by with_reducible assumption))) | exact Ne.symm (cj0 (cj4 (by with_reducible assumption))) | exact Ne.symm (cj1 (cj4 (by with_reducible assumption))) | exact Ne.symm (ck2 (cj4 (by with_reducible assumption))) | exact Ne.symm (cj0 (ck4 (by with_reducible assumption))) | exact Ne.symm (cj1 (ck4 (by with_reducible assumption))) | exact Ne.symm (ck2 (ck4 (by with_reducible assumption))) | exact Ne.symm (cj0 (cj5 (by with_reducible assumption))) | exact Ne.symm (cj1 (cj5 (by with_reducible assumption))) | exact Ne.symm (ck2 (cj5 (by with_reducible assumption))) | exact Ne.symm (cj0 (ck5 (by with_reducible assumption))) | exact Ne.symm (cj1 (ck5 (by with_reducible assumption))) | exact Ne.symm (ck2 (ck5 (by with_reducible assumption))) | exact Ne.symm (cj0 (cj6 (by with_reducible assumption))) | exact Ne.symm (cj1 (cj6 (by with_reducible assumption))) | exact Ne.symm (ck2 (cj6 (by with_reducible assumption))) | exact Ne.symm (cj0 (ck6 (by with_reducible assumption))) | exact Ne.symm (cj1 (ck6 (by with_reducible assumption))) | exact Ne.symm (ck2 (ck6 (by with_reducible assumption))) | exact Ne.symm (cj0 (cj7 (by with_reducible assumption))) | exact Ne.symm (cj1 (cj7 (by with_reducible assumption))) | exact Ne.symm (ck2 (cj7 (by with_reducible assumption))) | exact Ne.symm (cj0 (ck7 (by with_reducible assumption))) | exact Ne.symm (cj1 (ck7 (by with_reducible assumption))) | exact Ne.symm (ck2 (ck7 (by with_reducible assumption))) | exact Ne.symm (cj0 (cj8 (by with_reducible assumption))) | exact Ne.symm (cj1 (cj8 (by with_reducible assumption))) | exact Ne.symm (ck2 (cj8 (by with_reducible assumption))) | exact Ne.symm (cj0 (ck8 (by with_reducible assumption))) | exact Ne.symm (cj1 (ck8 (by with_reducible assumption))) | exact Ne.symm (ck2 (ck8 (by with_reducible assumption)))))
  refine wpAny_call ?_
  k_dflt (refine' code_hide (binds := [(Str.ofString "lists", Value.ref ll)]) ?k1 ?k2 ?k3 ?k5 ?kN ?kA ?kF ?kK ?k6 ?k7 ?k8 ?k9 ?kB ?_ ?c2 ?c3 ?c4 ?c5; (case kA => exact rfl); (case kF => exact rfl); (case kK => assumption); (case k1 => k_asm); (case k2 => k_asm); (case k3 => k_asm); (case k5 => k_asm); (case kN => k_asm); (case k6 => k_is); (case k7 => k_is); (case k8 => ktr_room); (case k9 => exact BindsTo.of_eq rfl); (case c5 => decide); (case kB => exact locs rfl); (case c2 => exact rfl); (case c3 => exact rfl); (case c4 => exact rfl); k_whole; intro L' h' F' N' B' X' T' l1; (try dsimp only); (try k_fold))
  k_lt l1
  have codeHd := codeHd_join X'
  generalize hG : hideAll s.heap (List.map (fun x => x.1) [(82, tabObj #[rawInt (57 : Nat), rawInt (50 : Nat), .ref c9])]) = G at F' N' B' X' T' codeHd
  have hG' : hideAll s.heap [82] = G := hG
  rw [hG'] at k1 k2 k3 k4 hc9
  k_steps
  all_goals (refine hret _ _ _ _ (hide_but (by rw [hG']; exact Fr.keep (by assumption))) ?_ (joinQ_eq (by assumption) (by assumption) (by assumption)))
  all_goals exact News.get (by assumption) (by k_mem)
end Mine
end
section
open PySem PySem.W PySem.Calls PyProof.Rows
set_option maxHeartbeats 0
namespace Mine
namespace Fc
theorem no_bool : typeLookup (.type "re.Match") "__bool__" = pure none := by rw [typeLookup_type, builtinLookup_eq_fast]; kernel_rfl
theorem no_len : typeLookup (.type "re.Match") "__len__" = pure none := by rw [typeLookup_type, builtinLookup_eq_fast]; kernel_rfl
end Fc
theorem truthy_mat {M : Model} {A : Around} {E : Value → Shared → Prop} {s : Shared} {mo : Addr} {x : Str} {sp : Array Int} {Q : Bool → Shared → Prop} (P : MatAt s.heap mo x sp) (h : Q true s) : wpAny M A (truthy (.ref mo)) Q E s := by
  unfold truthy
  refine wpAny_bind (wpAny_callSpecial?_none P.typeIs Fc.no_bool ?_)
  refine wpAny_bind (wpAny_specialOf P.typeIs Fc.no_len ?_)
  exact wpAny_pure h


theorem full_hit_x {prog : Program} {w : World} {A : Around} {E : Value → Shared → Prop} {s : Shared} {x : Str} {t : Tok} {Q : Value → Shared → Prop} (P : PatAt s.heap 75 Re.cTok 0) (hx : x.length < 1000000) (h1 : 1 ≤ x.length) (h : ∀ j, j < x.length → Re.tokOk (x.cps.getD j 0) = true)
    (hq : ∀ mo h', Stays s.heap h' → s.heap.get? mo = none → MatAt h' mo x #[((0 : Nat) : Int), x.cps.size] → Q (.ref mo) { s with heap := h' }) : wpAny (model prog w) A (call (.builtin "re.Pattern.fullmatch") [.ref 75, .str x t]) Q E s :=
  call_full_hit P (by omega) (by decide) (Re.tok_yes x.cps h1 hx h) hq
def joinB (l : List Nat) : List Nat := [107, 61] ++ l ++ [59, 32, 118]
theorem joinB_eq {x r2 r3 : Str} (e2 : r2 = Str.ofString "k=" ++ x ++ Str.ofString "; " ++ Str.ofString "v") (e3 : r3 = r2) : r3 = S (joinB x.cps.toList) := by
  subst e3 e2
  have a1 : Str.ofString "k=" = S [107, 61] := by decide
  have a3 : Str.ofString "; " = S [59, 32] := by decide
  have a4 : Str.ofString "v" = S [118] := by decide
  rw [a1, a3, a4, ← S_toList x]
  simp only [S_append]
  unfold joinB
  simp
theorem join_bare {prog : Program} {w : World} {hd9 : Option Value} {dp un : Nat} {gd : Option (List Code)} {cn : Str} {cs : Scope} {a : Addr} {ccd : Value} {cl : List (Str × Addr)} {outer : List Env} {A₀ : Around} {base h₀ : Heap} {L : Addr} {m mg mb : Str → Option Value} {p : Program} {loose : List Str} {mean : ExcName → Option Value}
   {s : Shared} {Q E : Value → Shared → Prop} {ll pl a1 a2 : Addr} {x : Str} {t1 t2 t3 : Tok}
   (B : Below A₀ base outer h₀) (F : Fr h₀ L s.heap m) (X : (hd.heap_39 w.params).In h₀) (T : Top p loose mean mg mb h₀) (hk : cs.kind = .function)
   (hdp : dp + 3 < recursionLimit) (_hun : un + 100 < cLine) (hn : hd9 = none)
   (k1 : s.heap.IsList ll [Value.ref pl].toArray) (k2 : s.heap.IsList pl [Value.ref a1, Value.ref a2].toArray) (k3 : s.heap.IsTuple a1 [Value.str (Str.ofString "k") t1, Value.str x t2].toArray) (k4 : s.heap.IsTuple a2 [Value.str (Str.ofString "v") t3, Value.none].toArray)
   (hx : x.length < 100000) (hx1 : 1 ≤ x.length) (htok : ∀ j, j < x.length → Re.tokOk (x.cps.getD j 0) = true)
   (hret : ∀ r t h' tk', Stays s.heap h' → r = S (joinB x.cps.toList) → Q (.str r t) { s with heap := h', toks := tk' }) :
   wpAny (model prog w) (topA hd9 dp un gd cn cs L a ccd cl outer) (call (.ref 87) [.ref ll]) Q E s := by
  subst hn
  k_with_none
  w_top off
  (k_with "my exec For Name Name cons nil" => k_search (by ((k_here; k_dflt (refine wpAny_For ?_ (by intro _; rfl))))))
  (k_with "my exec For Tuple Name cons nil" => k_search (by ((k_here; k_dflt (refine wpAny_For ?_ (by intro _; rfl))))))
  (k_with "my pyIter ref" => k_search (by ((k_here; k_dflt (refine' for_list ?zzF ?zzN ?zzl ?_; (case zzF => k_asm); (case zzN => k_asm); (case zzl => is_list); intro zzI9 zzh9 zzF9 zzN9 zzne9; k_lt zzne9; (try k_sweep); (try dsimp only))))))
  (k_with "my ForEnd" => k_search (by ((with_unfolding_all (show ForAt _ _ _ _ _ _ _ _ _ _)))))
  (k_with "my mine del" => k_search (by (first | exact Del.nil | (refine' Del.skip ?zza; (case zza => walk_at "mine del")) | (refine' Del.keep ?zza ?zzb; (case zza => k_ne); (case zzb => walk_at "mine del")))))
  (k_with "my assign Tuple" => k_search (by ((k_here; k_dflt (refine' assign_pair ?zzh ?zzt ?zzn ?_; (case zzh => first | exact .inl rfl | exact hand_now (by assumption) (by k_asm)); (case zzt => first | exact tuple_of_news (by k_asm) (by k_mem) | exact tuple_now (by assumption) (by k_asm)); (case zzn => rfl); intro zzh9 zzK9; (have zzF9 := fr_on (by k_asm) zzK9); (have zzN9 := news_on (by k_asm) zzK9); clear zzK9; (try k_sweep); (try dsimp only))))))
  (k_with "my ForAt" => k_search (by ((k_here; k_dflt (first
  | (refine' forAt_item ?zzF ?zzN ?zzU ?zzl ?zzx ?zzt ?_; (case zzF => k_asm); (case zzN => k_asm); (case zzU => k_upd); (case zzl => is_list); (case zzx => rfl); (case zzt => intro _; rfl); intro zzh9 zzF9 zzN9; (try k_sweep); (try dsimp only))
  | (refine' forAt_itemT ?zzF ?zzN ?zzU ?zzl ?zzx ?_; (case zzF => k_asm); (case zzN => k_asm); (case zzU => k_upd); (case zzl => is_list); (case zzx => rfl); intro zzh9 zzF9 zzN9; (try k_sweep); (try dsimp only))
  | (refine' forAt_end ?zzF ?zzN ?zzU ?zzD ?zzl ?zzx ?zzhh ?_; (case zzF => k_asm); (case zzN => k_asm); (case zzU => k_mem); (case zzD => walk_at "mine del"); (case zzl => is_list); (case zzx => rfl); (case zzhh => first | exact .inl rfl | exact hand_now (by assumption) (by k_asm)); intro zzh9 zzF9 zzN9; (try k_sweep); (try dsimp only)))))))
  (k_with "my call builtin:str.join" => k_search (by ((k_here; k_dflt (first
  | (refine' join_two ?zzl ?zze ?zzo ?_; (case zzl => is_list); (case zze => rfl); (case zzo => (simp only [Str.length_append, len_ke, len_qu, len_ve, len_se]; omega)); intro zzt9 zzk9 zzr9 zze9 zzl9; (try dsimp only))
  | (refine' join_one ?zzl ?zze ?zzo ?_; (case zzl => is_list); (case zze => rfl); (case zzo => (simp only [Str.length_append, len_ke, len_qu, len_ve, len_se, len_co] at *; omega)); intro zzt9 zzk9 zzr9 zze9; (try dsimp only)))))))
  (k_with "my getMethod ref" => k_search (by ((k_here; k_dflt (refine pat_method (pat_tok (by k_in)) Fc.slot_fullmatch Fc.type_fullmatch ?_)))))
  (k_with "my call builtin:re.Pattern.fullmatch" => k_search (by ((k_here; k_dflt (refine full_hit_x (pat_tok (by k_in)) (by omega) (by assumption) (by assumption) ?_; intro zzx9 zzh9 zzK9 zzhx9 zzhm9; (have zzF9 := fr_on (by k_asm) zzK9); (have zzN9 := news_on (by k_asm) zzK9); clear zzK9; (try k_sweep); (try dsimp only))))))
  (k_with "my truthy ref" => k_search (by ((k_here; k_dflt (refine truthy_mat (by assumption) ?_)))))
  (k_with "my ne" => (first | exact Nat.ne_of_beq_eq_false rfl | exact Nat.ne_of_lt (by with_reducible assumption) | exact Nat.ne_of_gt (by with_reducible assumption) | with_reducible assumption | exact Ne.symm (by with_reducible assumption) | exact Nat.ne_of_gt (cj0 (by with_reducible assumption)) | exact Nat.ne_of_gt (cj1 (by with_reducible assumption)) | exact Nat.ne_of_gt (ck1 (by with_reducible assumption)) | exact Nat.ne_of_gt (cj2 (by with_reducible assumption)) | exact Nat.ne_of_gt (ck2 (by with_reducible assumption)) | exact Nat.ne_of_gt (cj3 (by with_reducible assumption)) | exact Nat.ne_of_gt (ck3 (by with_reducible assumption)) | exact Nat.ne_of_gt (cj4 (by with_reducible assumption)) | exact Nat.ne_of_gt (ck4 (by with_reducible assumption)) | exact Nat.ne_of_gt (cj5 (by with_reducible assumption)) | exact Nat.ne_of_gt (ck5 (by with_reducible assumption)) | exact Nat.ne_of_gt (cj6 (by with_reducible assumption)) | exact Nat.ne_of_gt (ck6 (by with_reducible assumption)) | exact Nat.ne_of_gt (cj7 (by with_reducible assumption)) | exact Nat.ne_of_gt (ck7 (by with_reducible assumption)) | exact Nat.ne_of_gt (cj8 (by with_reducible assumption)) | exact Nat.ne_of_gt (ck8 (by with_reducible assumption)) | exact Nat.ne_of_gt (cj9 (by with_reducible assumption)) | exact Nat.ne_of_gt (ck9 (by with_reducible assumption)) | exact Nat.ne_of_gt (cj10 (by with_reducible assumption)) | exact Nat.ne_of_gt (ck10 (by with_reducible assumption)) | exact Nat.ne_of_gt (cj11 (by with_reducible assumption)) | exact Nat.ne_of_gt (ck11 (by with_reducible assumption)) | exact Nat.ne_of_gt (cj12 (by with_reducible assumption)) | exact Nat.ne_of_gt (ck12 (by with_reducible assumption)) | exact Nat.ne_of_gt (cj13 (by with_reducible assumption)) | exact Nat.ne_of_gt (ck13 (by with_reducible assumption)) | exact Nat.ne_of_gt (cj14 (by with_reducible assumption)) | exact Nat.ne_of_gt (ck14 (by with_reducible assumption)) | exact Nat.ne_of_gt (cj15 (by with_reducible assumption)) | exact Nat.ne_of_gt (ck15 (by with_reducible assumption)) | exact Nat.ne_of_gt (cj16 (by with_reducible assumption)) | exact Nat.ne_of_gt (ck16 (by with_reducible assumption)) | exact Nat.ne_of_lt (cj0 (by with_reducible assumption)) | exact Nat.ne_of_lt (cj1 (by with_reducible assumption)) | exact Nat.ne_of_lt (ck1 (by with_reducible assumption)) | exact Nat.ne_of_lt (cj2 (by with_reducible assumption)) | exact Nat.ne_of_lt (ck2 (by with_reducible assumption)) | exact Nat.ne_of_lt (cj3 (by with_reducible assumption)) | exact Nat.ne_of_lt (ck3 (by with_reducible assumption)) | exact Nat.ne_of_lt (cj4 (by with_reducible assumption)) | exact Nat.ne_of_lt (ck4 (by with_reducible assumption)) | exact Nat.ne_of_lt (cj5 (by with_reducible assumption)) | exact Nat.ne_of_lt (ck5 (by with_reducible assumption)) | exact Nat.ne_of_lt (cj6 (by with_reducible assumption)) | exact Nat.ne_of_lt (ck6 (by with_reducible assumption)) | exact Nat.ne_of_lt (cj7 (by with_reducible assumption)) | exact Nat.ne_of_lt (ck7 (by with_reducible assumption)) | exact Nat.ne_of_lt (cj8 (by with_reducible assumption)) | exact Nat.ne_of_lt (ck8 (by with_reducible assumption)) | exact Nat.ne_of_lt (cj9 (by with_reducible assumption)) | exact Nat.ne_of_lt (ck9 (by with_reducible assumption)) | exact Nat.ne_of_lt (cj10 (by with_reducible assumption)) | exact Nat.ne_of_lt (ck10 (by with_reducible assumption)) | exact Nat.ne_of_lt (cj11 (by with_reducible assumption)) | exact Nat.ne_of_lt (ck11 (by with_reducible assumption)) | exact Nat.ne_of_lt (cj12 (by with_reducible assumption)) | exact Nat.ne_of_lt (ck12 (by with_reducible assumption)) | exact Nat.ne_of_lt (cj13 (by with_reducible assumption)) | exact Nat.ne_of_lt (ck13 (by with_reducible assumption)) | exact Nat.ne_of_lt (cj14 (by with_reducible assumption)) | exact Nat.ne_of_lt (ck14 (by with_reducible assumption)) | exact Nat.ne_of_lt (cj15 (by with_reducible assumption)) | exact Nat.ne_of_lt (ck15 (by with_reducible assumption)) | exact Nat.ne_of_lt (cj16 (by with_reducible assumption)) | exact Nat.ne_of_lt (ck16 (by with_reducible assumption)) | exact ne_gtt (by with_reducible assumption) (cj0 (by with_reducible assumption)) | exact ne_gtt (by with_reducible assumption) (cj1 (by with_reducible assumption)) | exact ne_gtt (by with_reducible assumption) (ck1 (by with_reducible assumption)) | exact ne_gtt (by with_reducible assumption) (cj2 (by with_reducible assumption)) | exact ne_gtt (by with_reducible assumption) (ck2 (by with_reducible assumption)) | exact ne_gtt (by with_reducible assumption) (cj3 (by with_reducible assumption)) | exact ne_gtt (by with_reducible assumption) (ck3 (by with_reducible assumption)) | exact ne_gtt (by with_reducible assumption) (cj4 (by with_reducible assumption)) | exact ne_gtt (by with_reducible assumption) (ck4 (by with_reducible assumption)) | exact ne_gtt (by with_reducible assumption) (cj5 (by with_reducible assumption)) | exact ne_gtt (by with_reducible assumption) (ck5 (by with_reducible assumption)) | exact ne_gtt (by with_reducible assumption) (cj6 (by with_reducible assumption)) | exact ne_gtt (by with_reducible assumption) (ck6 (by with_reducible assumption)) | exact ne_gtt (by with_reducible assumption) (cj7 (by with_reducible assumption)) | exact ne_gtt (by with_reducible assumption) (ck7 (by with_reducible assumption)) | exact ne_gtt (by with_reducible assumption) (cj8 (by with_reducible assumption)) | exact ne_gtt (by with_reducible assumption) (ck8 (by with_reducible assumption)) | exact ne_gtt (by with_reducible assumption) (cj9 (by with_reducible assumption)) | exact ne_gtt (by with_reducible assumption) (ck9 (by with_reducible assumption)) | exact ne_gtt (by with_reducible assumption) (cj10 (by with_reducible assumption)) | exact ne_gtt (by with_reducible assumption) (ck10 (by with_reducible assumption)) | exact ne_gtt (by with_reducible assumption) (cj11 (by with_reducible assumption)) | exact ne_gtt (by with_reducible assumption) (ck11 (by with_reducible assumption)) | exact ne_gtt (by with_reducible assumption) (cj12 (by with_reducible assumption)) | exact ne_gtt (by with_reducible assumption) (ck12 (by with_reducible assumption)) | exact ne_gtt (by with_reducible assumption) (cj13 (by with_reducible assumption)) | exact ne_gtt (by with_reducible assumption) (ck13 (by with_reducible assumption)) | exact ne_gtt (by with_reducible assumption) (cj14 (by with_reducible assumption)) | exact ne_gtt (by with_reducible assumption) (ck14 (by with_reducible assumption)) | exact ne_gtt (by with_reducible assumption) (cj15 (by with_reducible assumption)) | exact ne_gtt (by with_reducible assumption) (ck15 (by with_reducible assumption)) | exact ne_gtt (by with_reducible assumption) (cj16 (by with_reducible assumption)) | exact ne_gtt (by with_reducible assumption) (ck16 (by with_reducible assumption)) | exact ne_ltt (by with_reducible assumption) (cj0 (by with_reducible assumption)) | exact ne_ltt (by with_reducible assumption) (cj1 (by with_reducible assumption)) | exact ne_ltt (by with_reducible assumption) (ck1 (by with_reducible assumption)) | exact ne_ltt (by with_reducible assumption) (cj2 (by with_reducible assumption)) | exact ne_ltt (by with_reducible assumption) (ck2 (by with_reducible assumption)) | exact ne_ltt (by with_reducible assumption) (cj3 (by with_reducible assumption)) | exact ne_ltt (by with_reducible assumption) (ck3 (by with_reducible assumption)) | exact ne_ltt (by with_reducible assumption) (cj4 (by with_reducible assumption)) | exact ne_ltt (by with_reducible assumption) (ck4 (by with_reducible assumption)) | exact ne_ltt (by with_reducible assumption) (cj5 (by with_reducible assumption)) | exact ne_ltt (by with_reducible assumption) (ck5 (by with_reducible assumption)) | exact ne_ltt (by with_reducible assumption) (cj6 (by with_reducible assumption)) | exact ne_ltt (by with_reducible assumption) (ck6 (by with_reducible assumption)) | exact ne_ltt (by with_reducible assumption) (cj7 (by with_reducible assumption)) | exact ne_ltt (by with_reducible assumption) (ck7 (by with_reducible assumption)) | exact ne_ltt (by with_reducible assumption) (cj8 (by with_reducible assumption)) | exact ne_ltt (by with_reducible assumption) (ck8 (by with_reducible assumption)) | exact ne_ltt (by with_reducible assumption) (cj9 (by with_reducible assumption)) | exact ne_ltt (by with_reducible assumption) (ck9 (by with_reducible assumption)) | exact ne_ltt (by with_reducible assumption) (cj10 (by with_reducible assumption)) | exact ne_ltt (by with_reducible assumption) (ck10 (by with_reducible assumption)) | exact ne_ltt (by with_reducible assumption) (cj11 (by with_reducible assumption)) | exact ne_ltt (by with_reducible assumption) (ck11 (by with_reducible assumption)) | exact ne_ltt (by with_reducible assumption) (cj12 (by with_reducible assumption)) | exact ne_ltt (by with_reducible assumption) (ck12 (by with_reducible assumption)) | exact ne_ltt (by with_reducible assumption) (cj13 (by with_reducible assumption)) | exact ne_ltt (by with_reducible assumption) (ck13 (by with_reducible assumption)) | exact ne_ltt (by with_reducible assumption) (cj14 (by with_reducible assumption)) | exact ne_ltt (by with_reducible assumption) (ck14 (by with_reducible assumption)) | exact ne_ltt (by with_reducible assumption) (cj15 (by with_reducible assumption)) | exact ne_ltt (by with_reducible assumption) (ck15 (by with_reducible assumption)) | exact ne_ltt (by with_reducible assumption) (cj16 (by with_reducible assumption)) | exact ne_ltt (by with_reducible assumption) (ck16 (by with_reducible assumption)) | exact (cj0 (by with_reducible assumption)) | exact (cj1 (by with_reducible assumption)) | exact (ck1 (by with_reducible assumption)) | exact (cj2 (by with_reducible assumption)) | exact (ck2 (by with_reducible assumption)) | exact (cj3 (by with_reducible assumption)) | exact (ck3 (by with_reducible assumption)) | exact (cj4 (by with_reducible assumption)) | exact (ck4 (by with_reducible assumption)) | exact (cj5 (by with_reducible assumption)) | exact (ck5 (by with_reducible assumption)) | exact (cj6 (by with_reducible assumption)) | exact (ck6 (by with_reducible assumption)) | exact (cj7 (by with_reducible assumption)) | exact (ck7 (by with_reducible assumption)) | exact (cj8 (by with_reducible assumption)) | exact (ck8 (by with_reducible assumption)) | exact (cj9 (by with_reducible assumption)) | exact (ck9 (by with_reducible assumption)) | exact (cj10 (by with_reducible assumption)) | exact (ck10 (by with_reducible assumption)) | exact (cj11 (by with_reducible assumption)) | exact (ck11 (by with_reducible assumption)) | exact (cj12 (by with_reducible assumption)) | exact (ck12 (by with_reducible assumption)) | exact (cj13 (by with_reducible assumption)) | exact (ck13 (by with_reducible assumption)) | exact (cj14 (by with_reducible assumption)) | exact (ck14 (by with_reducible assumption)) | exact (cj15 (by with_reducible assumption)) | exact (ck15 (by with_reducible assumption)) | exact (cj16 (by with_reducible assumption)) | exact (ck16 (by with_reducible assumption)) | exact Ne.symm (cj0 (by with_reducible assumption)) | exact Ne.symm (cj1 (by with_reducible assumption)) | exact Ne.symm (ck1 (by with_reducible assumption)) | exact Ne.symm (cj2 (by with_reducible assumption)) | exact Ne.symm (ck2 (by with_reducible assumption)) | exact Ne.symm (cj3 (by with_reducible assumption)) | exact Ne.symm (ck3 (by with_reducible assumption)) | exact Ne.symm (cj4 (by with_reducible assumption)) | exact Ne.symm (ck4 (by with_reducible assumption)) | exact Ne.symm (cj5 (by with_reducible assumption)) | exact Ne.symm (ck5 (by with_reducible assumption)) | exact Ne.symm (cj6 (by with_reducible assumption)) | exact Ne.symm (ck6 (by with_reducible assumption)) | exact Ne.symm (cj7 (by with_reducible assumption)) | exact Ne.symm (ck7 (by with_reducible assumption)) | exact Ne.symm (cj8 (by with_reducible assumption)) | exact Ne.symm (ck8 (by with_reducible assumption)) | exact Ne.symm (cj9 (by with_reducible assumption)) | exact Ne.symm (ck9 (by with_reducible assumption)) | exact Ne.symm (cj10 (by with_reducible assumption)) | exact Ne.symm (ck10 (by with_reducible assumption)) | exact Ne.symm (cj11 (by with_reducible assumption)) | exact Ne.symm (ck11 (by with_reducible assumption)) | exact Ne.symm (cj12 (by with_reducible assumption)) | exact Ne.symm (ck12 (by with_reducible assumption)) | exact Ne.symm (cj13 (by with_reducible assumption)) | exact Ne.symm (ck13 (by with_reducible assumption)) | exact Ne.symm (cj14 (by with_reducible assumption)) | exact Ne.symm (ck14 (by with_reducible assumption)) | exact Ne.symm (cj15 (by with_reducible assumption)) | exact Ne.symm (ck15 (by with_reducible assumption)) | exact Ne.symm (cj16 (by with_reducible assumption)) | exact Ne.symm (ck16 (by with_reducible assumption)) | exact (cj0 (cj0 (by with_reducible assumption))) | exact (cj1 (cj0 (by with_reducible assumption))) | exact (ck2 (cj0 (by with_reducible assumption))) | exact (cj0 (cj1 (by with_reducible assumption))) | exact (cj1 (cj1 (by with_reducible assumption))) | exact (ck2 (cj1 (by with_reducible assumption))) | exact (cj0 (ck1 (by with_reducible assumption))) | exact (cj1 (ck1 (by with_reducible assumption))) | exact (ck2 (ck1 (by with_reducible assumption))) | exact (cj0 (cj2 (by with_reducible assumption))) | exact (cj1 (cj2 (by with_reducible assumption))) | exact (ck2 (cj2 (by with_reducible assumption))) | exact (cj0 (ck2 (by with_reducible assumption))) | exact (cj1 (ck2 (by with_reducible assumption))) | exact (ck2 (ck2 (by with_reducible assumption))) | exact (cj0 (cj3 (by with_reducible assumption))) | exact (cj1 (cj3 (by with_reducible assumption))) | exact (ck2 (cj3 (by with_reducible assumption))) | exact (cj0 (ck3 (by with_reducible assumption))) | exact (cj1 (ck3 (by with_reducible assumption))) | exact (ck2 (ck3 (by with_reducible assumption))) | exact (cj0 (cj4 (by with_reducible assumption))) | exact (cj1 (cj4 (by with_reducible assumption))) | exact (ck2 (cj4 (by with_reducible assumption))) | exact (cj0 (ck4 (by with_reducible assumption))) | exact (cj1 (ck4 (by with_reducible assumption))) | exact (ck2 (ck4 (by with_reducible assumption))) | exact (cj0 (cj5 (by with_reducible assumption))) | exact (cj1 (cj5 (by with_reducible assumption))) | exact (ck2 (cj5 (by with_reducible assumption))) | exact (cj0 (ck5 (by with_reducible assumption))) | exact (cj1 (ck5 (by with_reducible assumption))) | exact (ck2 (ck5 (by with_reducible assumption))) | exact (cj0 (cj6 (by with_reducible assumption))) | exact (cj1 (cj6 (by with_reducible assumption))) | exact (ck2 (cj6 (by with_reducible assumption))) | exact (cj0 (ck6 (by with_reducible assumption))) | exact (cj1 (ck6 (by with_reducible assumption))) | exact (ck2 (ck6 (by with_reducible assumption))) | exact (cj0 (cj7 (by with_reducible assumption))) | exact (cj1 (cj7 (by with_reducible assumption))) | exact (ck2 (cj7 (by with_reducible assumption))) | exact (cj0 (ck7 (by with_reducible assumption))) | exact (cj1 (ck7 (by with_reducible assumption))) | exact (ck2 (ck7 (by with_reducible assumption))) | exact (cj0 (cj8 (by with_reducible assumption))) | exact (cj1 (cj8 (by with_reducible assumption))) | exact (ck2 (cj8 (by with_reducible assumption))) | exact (cj0 (ck8 (by with_reducible assumption))) | exact (cj1 (ck8 (by with_reducible assumption))) | exact (ck2 (ck8 (by with_reducible assumption))) | exact Ne.symm (cj0 (cj0 (by with_reducible assumption))) | exact Ne.symm (cj1 (cj0 (by with_reducible assumption))) | exact Ne.symm (ck2 (cj0 (by with_reducible assumption))) | exact Ne.symm (cj0 (cj1 (by with_reducible assumption))) | exact Ne.symm (cj1 (cj1 (by with_reducible assumption))) | exact Ne.symm (ck2 (cj1 (by with_reducible assumption))) | exact Ne.symm (cj0 (ck1 (by with_reducible assumption))) | exact Ne.symm (cj1 (ck1 (by with_reducible assumption))) | exact Ne.symm (ck2 (ck1 (by with_reducible assumption))) | exact Ne.symm (cj0 (cj2 (by with_reducible assumption))) | exact Ne.symm (cj1 (cj2 (by with_reducible assumption))) | exact Ne.symm (ck2 (cj2 (by with_reducible assumption))) | exact Ne.symm (cj0 (ck2 (by with_reducible assumption))) | exact Ne.symm (cj1 (ck2 (by with_reducible assumption))) | exact Ne.symm (ck2 (ck2 (by with_reducible assumption))) | exact Ne.symm (cj0 (cj3 (by with_reducible assumption))) | exact Ne.symm (cj1 (cj3 (by with_reducible assumption))) | exact Ne.symm (ck2 (cj3 (by with_reducible assumption))) | exact Ne.symm (cj0 (ck3 (by with_reducible assumption))) | exact Ne.symm (cj1 (ck3 (by with_reducible assumption))) | exact Ne.symm (ck2 (ck3 (by with_reducible assumption))) | exact Ne.symm (cj0 (cj4 (by with_reducible assumption))) | exact Ne.symm (cj1 (cj4 (by with_reducible assumption))) | exact Ne.symm (ck2 (cj4 (by with_reducible assumption))) | exact Ne.symm (cj0 (ck4 (by with_reducible assumption))) | exact Ne.symm (cj1 (ck4 (by with_reducible assumption))) | exact Ne.symm (ck2 (ck4 (by with_reducible assumption))) | exact Ne.symm (cj0 (cj5 (by with_reducible assumption))) | exact Ne.symm (cj1 (cj5 (by with_reducible assumption))) | exact Ne.symm (ck2 (cj5 (by with_reducible assumption))) | exact Ne.symm (cj0 (ck5 (by with_reducible assumption))) | exact Ne.symm (cj1 (ck5 (by with_reducible assumption))) | exact Ne.symm (ck2 (ck5 (by with_reducible assumption))) | exact Ne.symm (cj0 (cj6 (by with_reducible assumption))) | exact Ne.symm (cj1 (cj6 (by with_reducible assumption))) | exact Ne.symm (ck2 (cj6 (by with_reducible assumption))) | exact Ne.symm (cj0 (ck6 (by with_reducible assumption))) | exact Ne.symm (cj1 (ck6 (by with_reducible assumption))) | exact Ne.symm (ck2 (ck6 (by with_reducible assumption))) | exact Ne.symm (cj0 (cj7 (by with_reducible assumption))) | exact Ne.symm (cj1 (cj7 (by with_reducible assumption))) | exact Ne.symm (ck2 (cj7 (by with_reducible assumption))) | exact Ne.symm (cj0 (ck7 (by with_reducible assumption))) | exact Ne.symm (cj1 (ck7 (by with_reducible assumption))) | exact Ne.symm (ck2 (ck7 (by with_reducible assumption))) | exact Ne.symm (cj0 (cj8 (by with_reducible assumption))) | exact Ne.symm (cj1 (cj8 (by with_reducible assumption))) | exact Ne.symm (ck2 (cj8 (by with_reducible assumption))) | exact Ne.symm (cj0 (ck8 (by with_reducible assumption))) | exact Ne.symm (cj1 (ck8 (by with_reducible assumption))) | exact Ne.symm (ck2 (ck8 (by with_reducible assumption)))))
  refine wpAny_call ?_
  k_dflt (refine' code_pure (binds := [(Str.ofString "lists", Value.ref ll)]) ?k1 ?k2 ?k3 ?k5 ?kA ?kF ?kK ?k6 ?k7 ?k8 ?k9 ?kB ?_ ?c2 ?c3 ?c4 ?c5; (case kA => exact rfl); (case kF => exact rfl); (case kK => assumption); (case k1 => k_asm); (case k2 => k_asm); (case k3 => k_asm); (case k5 => k_asm); (case k6 => k_is); (case k7 => k_is); (case k8 => ktr_room); (case k9 => exact BindsTo.of_eq rfl); (case c5 => decide); (case kB => exact locs rfl); (case c2 => exact rfl); (case c3 => exact rfl); (case c4 => exact rfl); k_whole; intro L' h' F' N' B' X' T'; (try dsimp only); (try k_fold))
  k_steps
  all_goals (refine hret _ _ _ _ (Fr.keep (by assumption)) (joinB_eq (by assumption) (by assumption)))
end Mine
end
section
open PySem PySem.W PySem.Calls PyProof.Rows
namespace Mine
def putL (M Sl l : List Nat) : List Nat := l.flatMap fun c => if c = 34 then M else if c = 92 then Sl else [c]
theorem putL_append (M Sl a b : List Nat) : putL M Sl (a ++ b) = putL M Sl a ++ putL M Sl b := List.flatMap_append
theorem putL_cons (M Sl b : List Nat) (c : Nat) : putL M Sl (c :: b) = (if c = 34 then M else if c = 92 then Sl else [c]) ++ putL M Sl b := rfl
theorem putL_nil (M Sl : List Nat) : putL M Sl [] = [] := rfl
theorem codes_snoc (l : List Nat) (c : Nat) : KStt.codes (S (l ++ [c])) = KStt.codes (S l) ++ [(c : Int)] := by
  unfold KStt.codes
  simp
theorem putI_S (M Sl l : List Nat) : putI (S M) (S Sl) (KStt.codes (S l)) = S (putL M Sl l) := by
  induction l using snoc_ind with
  | h0 => rfl
  | h1 l c ih =>
    rw [codes_snoc, putI_snoc, ih, putL_append, putL_cons, putL_nil, List.append_nil, ← S_append]
    congr 1
    by_cases h1 : c = 34
    · subst h1; rfl
    · rw [if_neg (by omega), if_neg h1]
      by_cases h2 : c = 92
      · subst h2; rfl
      · rw [if_neg (by omega), if_neg h2]; rfl
theorem putL_putL (M Sl m s : List Nat) : ∀ l, putL M Sl (putL m s l) = putL (putL M Sl m) (putL M Sl s) l
  | [] => rfl
  | c :: l => by
    rw [putL_cons, putL_append, putL_putL M Sl m s l, putL_cons]
    congr 1
    by_cases h1 : c = 34
    · rw [if_pos h1, if_pos h1]
    · rw [if_neg h1, if_neg h1]
      by_cases h2 : c = 92
      · rw [if_pos h2, if_pos h2]
      · rw [if_neg h2, if_neg h2, putL_cons, if_neg h1, if_neg h2]; rfl
theorem putL_free (M Sl : List Nat) : ∀ l : List Nat, (∀ c ∈ l, c ≠ 34 ∧ c ≠ 92) → putL M Sl l = l
  | [], _ => rfl
  | c :: l, h => by
    rw [putL_cons, if_neg (h c (.head _)).1, if_neg (h c (.head _)).2, putL_free M Sl l fun x hx => h x (.tail _ hx)]; rfl
theorem dbl_put : ∀ l, dblL l = putL [34, 34] [92] l
  | [] => rfl
  | c :: l => by
    rw [putL_cons, ← dbl_put l]
    show (if c = 34 then [34, 34] else [c]) ++ dblL l = _
    congr 1
    by_cases h1 : c = 34
    · rw [if_pos h1, if_pos h1]
    · rw [if_neg h1, if_neg h1]
      by_cases h2 : c = 92
      · rw [if_pos h2, h2]
      · rw [if_neg h2]
theorem esc_put : ∀ l, escL l = putL [92, 34] [92, 92] l
  | [] => rfl
  | c :: l => by
    rw [putL_cons, ← esc_put l, escL_cons]
    congr 1
    unfold Re.isQ
    by_cases h1 : c = 34
    · subst h1; rfl
    · rw [if_neg h1]
      by_cases h2 : c = 92
      · subst h2; rfl
      · rw [if_neg h2, if_neg]
        simp [h1, h2]
def joinF (l : List Nat) : List Nat := if l.all Re.tokOk then joinB l else joinQ l
def layerL (h : Int) (l : List Nat) : List Nat := if h = 0 then fr257 l else joinF l
def VL (cl : List Nat) (hs : List Int) : Nat → List Nat
  | 0 => cl
  | j + 1 => layerL (hs.getD j 0) (VL cl hs j)
def Five (c : Nat) : Prop := c = 97 ∨ c = 34 ∨ c = 92 ∨ c = 59 ∨ c = 126
theorem signs_eq (l : List Nat) : signs (S l) = l.map fun c => (⟨#[c]⟩ : Str) := rfl
theorem plain_one {c : Nat} (h : Five c) : (!(Builtin.Str.occurrences (Str.ofString "\"\\;") (⟨#[c]⟩ : Str) 0 (Str.ofString "\"\\;").length 1).isEmpty) = !Re.tokOk c := by
  rcases h with rfl | rfl | rfl | rfl | rfl <;> decide +kernel
theorem plain_all : ∀ (l : List Nat), (∀ c ∈ l, Five c) → plainF (S l) = l.all Re.tokOk
  | [], _ => rfl
  | c :: l, h => by
    have ih := plain_all l fun x hx => h x (.tail _ hx)
    unfold plainF at ih ⊢
    rw [signs_eq] at ih ⊢
    rw [List.map_cons, List.filter_cons, plain_one (h c (.head _)), List.all_cons, ← ih]
    cases Re.tokOk c with
    | true => rfl
    | false => rfl
theorem space_in (l : List Nat) (h : Int) : 32 ∈ layerL h l := by
  unfold layerL
  split
  · unfold fr257; simp
  · unfold joinF
    split
    · unfold joinB; simp
    · unfold joinQ; simp
theorem layer_not_tok (l : List Nat) (h : Int) : (layerL h l).all Re.tokOk = false := by
  rw [List.all_eq_false]
  exact ⟨32, space_in l h, by decide⟩
theorem VL_tok (cl : List Nat) (hs : List Int) (n : Nat) : ((VL cl hs n).all Re.tokOk) = (cl.all Re.tokOk && (n : Int) == 0) := by
  cases n with
  | zero => simp [VL]
  | succ n =>
    show (layerL _ _).all Re.tokOk = _
    rw [layer_not_tok]
    have : (((n + 1 : Nat) : Int) == 0) = false := by
      rw [beq_eq_false_iff_ne]; omega
    rw [this, Bool.and_false]
theorem S_of (x : String) (l : List Nat) (h : (Str.ofString x).cps.toList = l) : Str.ofString x = S l := by
  rw [← h]
theorem down_snoc (a : Int) (i : Nat) : downKs a (i + 1) = downKs a i ++ [a - (i : Int)] := by
  unfold downKs
  rw [List.range_succ, List.map_append]
  rfl
theorem fold_inv (cl : List Nat) (hc : ∀ c ∈ cl, Five c) (hs : List Int) (j : Nat) : ∀ i, i ≤ j → ∃ M Sl H T, foldF (S cl) hs (downKs ((j : Int) - 1) i) = (S M, S Sl, S H, S T) ∧ H ++ putL M Sl (VL cl hs (j - i)) ++ T = VL cl hs j
  | 0, _ => by
    refine ⟨[34], [92], [], [], rfl, ?_⟩
    have : ∀ l, putL [34] [92] l = l := by
      intro l
      induction l with
      | nil => rfl
      | cons c l ih =>
        rw [putL_cons, ih]
        by_cases h1 : c = 34
        · subst h1; rfl
        · rw [if_neg h1]
          by_cases h2 : c = 92
          · subst h2; rfl
          · rw [if_neg h2]; rfl
    rw [this]
    simp
  | i + 1, hi => by
    obtain ⟨M, Sl, H, T, e, ih⟩ := fold_inv cl hc hs j i (by omega)
    rw [down_snoc, foldF_snoc, e]
    have hn : j - i = (j - (i + 1)) + 1 := by omega
    rw [hn] at ih
    generalize hnn : j - (i + 1) = n at ih ⊢
    have hz : ((j : Int) - 1 - (i : Int)) = (n : Int) := by omega
    rw [hz]
    unfold stepF
    dsimp only
    rw [Int.toNat_natCast, plain_all cl hc, ← VL_tok cl hs n]
    have ih' : H ++ putL M Sl (layerL (hs.getD n 0) (VL cl hs n)) ++ T = VL cl hs j := ih
    generalize hh : hs.getD n 0 = h at ih' ⊢
    generalize hv : VL cl hs n = v at ih' ⊢
    unfold layerL at ih'
    unfold frameF
    by_cases h0 : h = 0
    · rw [if_pos h0] at ih'
      simp only [if_pos h0]
      refine ⟨M ++ M, Sl, H ++ putL M Sl [50, 53, 55, 32, 34], putL M Sl [34, 32, 105, 115, 32, 34, 92] ++ T, ?_, ?_⟩
      · rw [S_of "257 \"" [50, 53, 55, 32, 34] (by decide), S_of "\" is \"\\" [34, 32, 105, 115, 32, 34, 92] (by decide), putI_S, putI_S, S_append, S_append, S_append]
      · rw [← ih']
        unfold fr257
        rw [dbl_put, putL_append, putL_append, putL_putL]
        have a1 : putL M Sl [34, 34] = M ++ M := by simp [putL]
        have a2 : putL M Sl [92] = Sl := by simp [putL]
        rw [a1, a2]
        simp only [List.append_assoc]
    · rw [if_neg h0] at ih'
      simp only [if_neg h0]
      unfold joinF at ih'
      cases hb : v.all Re.tokOk with
      | true =>
        rw [if_pos hb] at ih'
        simp only [if_true]
        refine ⟨Sl ++ M, Sl ++ Sl, H ++ putL M Sl [107, 61], putL M Sl [59, 32, 118] ++ T, ?_, ?_⟩
        · rw [S_of "k=" [107, 61] (by decide), S_of "; v" [59, 32, 118] (by decide), putI_S, putI_S, S_append, S_append, S_append, S_append]
        · have hf : ∀ c ∈ v, c ≠ 34 ∧ c ≠ 92 := fun c hc' => by
            have := tok_fact (List.all_eq_true.mp hb c hc')
            exact ⟨this.2.1, this.2.2.2.2.2.1⟩
          rw [← ih', putL_free _ _ v hf]
          unfold joinB
          rw [putL_append, putL_append, putL_free _ _ v hf]
          simp only [List.append_assoc]
      | false =>
        rw [if_neg (by rw [hb]; exact Bool.false_ne_true)] at ih'
        simp only [Bool.false_eq_true, if_false]
        refine ⟨Sl ++ M, Sl ++ Sl, H ++ putL M Sl [107, 61, 34], putL M Sl [34, 59, 32, 118] ++ T, ?_, ?_⟩
        · rw [S_of "k=\"" [107, 61, 34] (by decide), S_of "\"; v" [34, 59, 32, 118] (by decide), putI_S, putI_S, S_append, S_append, S_append, S_append]
        · rw [← ih']
          unfold joinQ
          rw [esc_put, putL_append, putL_append, putL_putL]
          have a1 : putL M Sl [92, 34] = Sl ++ M := by simp [putL]
          have a2 : putL M Sl [92, 92] = Sl ++ Sl := by simp [putL]
          rw [a1, a2]
          simp only [List.append_assoc]
theorem VL_take (cl : List Nat) (hs : List Int) (j : Nat) : ∀ i, i ≤ j → VL cl (hs.take j) i = VL cl hs i
  | 0, _ => rfl
  | i + 1, h => by
    show layerL _ _ = layerL _ _
    rw [VL_take cl hs j i (by omega)]
    congr 1
    rw [List.getD_eq_getElem?_getD, List.getD_eq_getElem?_getD, List.getElem?_take, if_pos (by omega)]
theorem whole_VL (cl : List Nat) (hc : ∀ c ∈ cl, Five c) (hs : List Int) (j : Nat) (hj : j ≤ hs.length) : wholeF (S cl) (hs.take j) = S (VL cl hs j) := by
  have hl : (hs.take j).length = j := by rw [List.length_take]; omega
  obtain ⟨M, Sl, H, T, e, q⟩ := fold_inv cl hc (hs.take j) j j (Nat.le_refl _)
  rw [Nat.sub_self, VL_take cl hs j j (Nat.le_refl _)] at q
  unfold wholeF
  rw [hl, e, putI_S, S_append, S_append, ← q]
  rfl
theorem layer_len (h : Int) (l : List Nat) : l.length + 5 ≤ (layerL h l).length ∧ (layerL h l).length ≤ 2 * l.length + 12 := by
  have d1 : ∀ l, l.length ≤ (dblL l).length ∧ (dblL l).length ≤ 2 * l.length := by
    intro l
    induction l with
    | nil => exact ⟨Nat.le_refl _, Nat.le_refl _⟩
    | cons c r ih =>
      show r.length + 1 ≤ ((if c = 34 then [34, 34] else [c]) ++ dblL r).length ∧ ((if c = 34 then [34, 34] else [c]) ++ dblL r).length ≤ 2 * (r.length + 1)
      rw [List.length_append]
      split <;> simp only [List.length_cons, List.length_nil] <;> omega
  have e1 := escL_len l
  have d2 := d1 l
  unfold layerL
  split
  · unfold fr257
    simp only [List.length_append, List.length_cons, List.length_nil]
    omega
  · unfold joinF
    split
    · unfold joinB
      simp only [List.length_append, List.length_cons, List.length_nil]
      omega
    · unfold joinQ
      simp only [List.length_append, List.length_cons, List.length_nil]
      omega
theorem layer_10 (h : Int) (l : List Nat) (h10 : ∀ c ∈ l, c ≠ 10) : ∀ c ∈ layerL h l, c ≠ 10 := by
  have p10 : ∀ (M Sl : List Nat), (∀ c ∈ M, c ≠ 10) → (∀ c ∈ Sl, c ≠ 10) → ∀ c ∈ putL M Sl l, c ≠ 10 := by
    intro M Sl hM hS c hc
    obtain ⟨d, hd, hc⟩ := List.mem_flatMap.mp hc
    split at hc
    · exact hM c hc
    · split at hc
      · exact hS c hc
      · rw [List.mem_singleton.mp hc]; exact h10 d hd
  have fr : ∀ (a b m : List Nat), (∀ c ∈ a, c ≠ 10) → (∀ c ∈ b, c ≠ 10) → (∀ c ∈ m, c ≠ 10) → ∀ c ∈ a ++ m ++ b, c ≠ 10 := by
    intro a b m ha hb hm c hc
    rcases List.mem_append.mp hc with hc | hc
    · rcases List.mem_append.mp hc with hc | hc
      · exact ha c hc
      · exact hm c hc
    · exact hb c hc
  unfold layerL
  split
  · unfold fr257
    rw [dbl_put]
    exact fr _ _ _ (by decide) (by decide) (p10 _ _ (by decide) (by decide))
  · unfold joinF
    split
    · exact fr _ _ _ (by decide) (by decide) h10
    · unfold joinQ
      rw [esc_put]
      exact fr _ _ _ (by decide) (by decide) (p10 _ _ (by decide) (by decide))
theorem VL_facts (cl : List Nat) (hc : ∀ c ∈ cl, Five c) (h1 : 1 ≤ cl.length) (h4 : cl.length ≤ 4) (hs : List Int) : ∀ j, j ≤ 4 → 1 ≤ (VL cl hs j).length ∧ (VL cl hs j).length + 12 ≤ 16 * 2 ^ j ∧ ∀ c ∈ VL cl hs j, c ≠ 10
  | 0, _ => ⟨h1, by show cl.length + 12 ≤ 16; omega, fun c hc' => by rcases hc c hc' with rfl | rfl | rfl | rfl | rfl <;> decide⟩
  | j + 1, hj => by
    obtain ⟨i1, i2, i3⟩ := VL_facts cl hc h1 h4 hs j (by omega)
    have := layer_len (hs.getD j 0) (VL cl hs j)
    refine ⟨?_, ?_, layer_10 _ _ i3⟩
    · show 1 ≤ (layerL _ _).length; omega
    · show (layerL _ _).length + 12 ≤ _
      rw [Nat.pow_succ]; omega
theorem VL_len (cl : List Nat) (hc : ∀ c ∈ cl, Five c) (h1 : 1 ≤ cl.length) (h4 : cl.length ≤ 4) (hs : List Int) (j : Nat) (hj : j ≤ 4) : 1 ≤ (VL cl hs j).length ∧ (VL cl hs j).length ≤ 300 ∧ ∀ c ∈ VL cl hs j, c ≠ 10 := by
  obtain ⟨i1, i2, i3⟩ := VL_facts cl hc h1 h4 hs j hj
  have : 2 ^ j ≤ 2 ^ 4 := Nat.pow_le_pow_right (by decide) hj
  exact ⟨i1, by omega, i3⟩
end Mine
end
section
open PySem PySem.W PySem.Calls PyProof.Rows Builtin Builtin.Re
set_option maxHeartbeats 400000
namespace Mine
abbrev matO (x : Str) (t : Tok) (pa : Addr) (lim : Nat) (li : Int) (ta : Addr) : Obj := { cls := .type "re.Match", data := .fields #[.str x t, .ref pa, rawInt (0 : Nat), rawInt (lim : Nat), rawInt li, .ref ta] }
abbrev spO (st hd b e : Nat) : Obj := { cls := .type "tuple", data := .seq #[rawInt st, rawInt hd, rawInt b, rawInt e] 0 }
theorem mat_of_news {h₀ h : Heap} {L mo ta pa : Addr} {news : List (Addr × Obj)} {x : Str} {t : Tok} {lim : Nat} {li : Int} {st hd b e : Nat} (N : News h₀ L h news) (h1 : (mo, matO x t pa lim li ta) ∈ news) (h2 : (ta, spO st hd b e) ∈ news) : MatAt h mo x #[(st : Int), hd, b, e] :=
  ⟨_, _, t, (N _ h1).1, rfl, rfl, rfl, rfl, ta, _, _, 0, rfl, (N _ h2).1, rfl, by simp [reRawOf, rawInt]⟩
theorem get_size (h : Heap) : h.get? h.objs.size = none := by
  cases q : h.get? h.objs.size with
  | none => rfl
  | some o => exact absurd (Heap.lt_size q) (Nat.lt_irrefl _)
theorem get_past {h : Heap} {a : Addr} (hl : h.objs.size ≤ a) : h.get? a = none := by
  cases q : h.get? a with
  | none => rfl
  | some o => exact absurd (Heap.lt_size q) (Nat.not_lt.mpr hl)
section
variable {M : Model} {prog : Program} {w : World} {A : Around} {E : Value → Shared → Prop} {s : Shared}
theorem newMatch_x {pa : Addr} {x : Str} {t : Tok} {lim st hd b e : Nat} {li : Int} {m : Sre.M} {Q : Value → Shared → Prop} (hm : Re.Hit st hd 1 li #[some b, some e] m) (hbe : b ≤ e)
    (h : ∀ ta mo h', Stays s.heap h' → s.heap.objs.size ≤ ta → @LT.lt Nat _ ta mo → h'.get? ta = some (spO st hd b e) → h'.get? mo = some (matO x t pa lim li ta) → Q (.ref mo) { s with heap := h' }) : wpAny M A (reNewMatch (.ref pa) (.str x t) 1 0 lim m) Q E s := by
  obtain ⟨h0, h1, h2, h3, h4, h5⟩ := hm
  unfold reNewMatch
  dsimp only
  rw [if_neg]
  · rw [h1, h2, h3, h5, h4]
    show wpAny _ _ (do
      let tp ← newTuple [rawInt st, rawInt hd, rawInt b, rawInt e]
      newFields "re.Match" [Value.str x t, Value.ref pa, rawInt (0 : Nat), rawInt (lim : Nat), rawInt li, tp]) _ _ _
    refine wpAny_bind (wpAny_newTuple ?_ (by rw [sizeLine_eq]; exact Nat.le_of_ble_eq_true rfl))
    unfold newFields
    refine wpAny_newObj_type ?_
    refine h s.heap.objs.size _ _ (fun b o e => stays_push _ _ _ _ (stays_push _ _ _ _ e)) (Nat.le_refl _) ?_ (stays_push _ _ _ _ (get_push_self _ _ rfl)) (get_push_self _ _ rfl)
    rw [Heap.size_push]
    exact Nat.lt_succ_self _
  · rw [h3, h5]
    show ¬ ((decide (((1 : Nat) : Int) ≤ 1) && decide (e < b) || false) = true)
    rw [decide_eq_false (show ¬ e < b by omega)]
    decide
theorem search_x {pa : Addr} {code : Array Nat} {x : Str} {t : Tok} {k st hd b e : Nat} {li : Int} {Q : Value → Shared → Prop} (P : PatAt s.heap pa code 1) (hx : x.length < 2 ^ 62) (hk : k ≤ 4 * (2 ^ 64 - 1)) (hbe : b ≤ e) (hw : Re.Wp (Sre.forSearch code x.cps 1 0 x.cps.size false) k (Re.Hit st hd 1 li #[some b, some e]))
    (h : ∀ ta mo h', Stays s.heap h' → s.heap.objs.size ≤ ta → @LT.lt Nat _ ta mo → h'.get? ta = some (spO st hd b e) → h'.get? mo = some (matO x t pa x.cps.size li ta) → Q (.ref mo) { s with heap := h' }) : wpAny (model prog w) A (call (.builtin "re.Pattern.search") [.ref pa, .str x t]) Q E s := by
  refine call_slot Fc.slot_search Fc.entry_search P.typeIs (Fc.args_search _ _) ?_
  unfold Builtin.«re.Pattern.search»
  refine wpAny_bind (target_at P hx rfl ?_)
  unfold reAnswer
  refine wpAny_bind (end_hit hw hk fun m' hm => ?_)
  refine wpAny_bind (newMatch_x hm hbe fun ta mo h' k1 k2 k4 k5 k6 => ?_)
  exact wpAny_pure (h ta mo h' k1 k2 k4 k5 k6)
theorem news_lt {h₀ h : Heap} {L x : Addr} {news : List (Addr × Obj)} (N : News h₀ L h news) (hx : h.objs.size ≤ x) : ∀ q ∈ news, q.1 < x := fun q hq => Nat.lt_of_lt_of_le (Heap.lt_size (N q hq).1) hx
theorem news_add {h₀ h h' : Heap} {L x : Addr} {o : Obj} {m : Str → Option Value} {news : List (Addr × Obj)} (F : Fr h₀ L h m) (N : News h₀ L h' news) (hx : h.get? x = none) (hx' : h'.get? x = some o) : News h₀ L h' ((x, o) :: news) := by
  intro p hp
  rcases List.mem_cons.mp hp with rfl | hp
  · refine ⟨hx', fun e => ?_, ?_⟩
    · obtain ⟨oL, es, ep, hL, r⟩ := F.ns
      have e' : x = L := e
      subst e'
      rw [hL] at hx; cases hx
    · cases q : h₀.get? x with
      | none => rfl
      | some o' => have := F.keep _ _ q; rw [hx] at this; cases this
  · exact N p hp

namespace Fc
theorem no_strcall : typeLookup (.type "str") "__call__" = pure none := by rw [typeLookup_type, builtinLookup_eq_fast]; kernel_rfl
end Fc
abbrev subnArgs (pa : Addr) (x : Str) (t : Tok) (y : Str) (u : Tok) (n : Int) (p : Nat) (must : Bool) (pl : Addr) : Args := ⟨[.ref pa, .str x t, .str y u, rawInt 0, rawInt 0, rawInt n, rawInt p, rawInt p, .bool must, .ref pl, .bool true], []⟩
theorem lit_ok {y : Str} {u : Tok} {Q : Unit → Shared → Prop} (h : Q () s) : wpAny M A (reLiteralCannotBeTurned (.str y u)) Q E s := by
  unfold reLiteralCannotBeTurned
  refine wpAny_bind (wpAny_pure ?_)
  exact wpAny_pure h
theorem subn_end {pa pl : Addr} {code : Array Nat} {vs : List Value} {cnt k p : Nat} {n : Int} {must : Bool} {tx u : Tok} {x y : Str} {R : Result → Shared → Prop} (P : PatAt s.heap pa code 0) (hl : s.heap.get? pl = some (lstO vs cnt)) (hv : ∃ t, vs = [.str y t])
    (hk : k ≤ 4 * (2 ^ 64 - 1)) (hw : Re.Wp (Sre.forSearch code x.cps 0 p x.cps.size must) k Re.Miss) (hlt : p < x.cps.size) (hx : x.length ≤ 1000) (hy : y.length ≤ 1000)
    (h : ∀ ta t v h' tk', Heap.ExtBut pl s.heap h' → s.heap.objs.size ≤ ta → h'.get? ta = some { cls := .type "tuple", data := .seq #[.str (Txt.join (Str.ofString "") [y, ⟨x.cps.extract p x.cps.size⟩]) t, .int n v] 0 } → R (.ok (.ret (.ref ta))) { s with heap := h', toks := tk' }) :
    codeAny (model prog w) A (.builtin "re.Pattern.sub.loop" (subnArgs pa x tx y u n p must pl)) R s := by
  refine codeAny_builtin Fc.entry_subloop ?_
  rw [Around.under_plainId (by decide +kernel)]
  unfold Builtin.«re.Pattern.sub.loop»
  dsimp only
  refine wpAny_bind (whole_at P ?_)
  dsimp only
  rw [if_pos (show ((0 : Int) == 0) = true from rfl)]
  refine wpAny_bind (lit_ok ?_)
  rw [if_neg (by simp)]
  unfold reNextFound
  refine wpAny_bind (end_miss (by exact hw) hk ?_)
  dsimp only [Int.toNat_natCast]
  obtain ⟨t0, rfl⟩ := hv
  have hsz : x.cps.size ≤ sizeLine := by rw [sizeLine_eq]; have : x.cps.size ≤ 1000 := hx; omega
  rw [if_pos (by show (p : Int).toNat < x.cps.size; omega)]
  refine wpAny_bind (slice_at hsz ?_)
  refine wpAny_bind (push_at hl (Nat.le_of_ble_eq_true rfl) fun h' cnt' hs ho => ?_)
  refine wpAny_bind (slice_at hsz ?_)
  refine wpAny_bind (wpAny_seqItems ho rfl ?_)
  rw [if_neg (by simp)]
  have e0 : (⟨x.cps.extract 0 0⟩ : Str) = Str.ofString "" := by
    refine Str.ext' ?_
    show x.cps.extract 0 0 = #[]
    simp
  rw [e0]
  refine wpAny_bind (join_list (ys := [y, ⟨x.cps.extract p x.cps.size⟩]) ⟨_, ho, rfl, cnt', rfl⟩ (.cons _ _ (.cons _ _ .nil)) ?_ fun t' k => ?_)
  · have h1 : (⟨x.cps.extract p x.cps.size⟩ : Str).length ≤ x.length := by
      show (x.cps.extract p x.cps.size).size ≤ x.cps.size
      rw [Array.size_extract]
      omega
    have h2 : (Str.ofString "").length = 0 := by decide
    simp only [List.map_cons, List.map_nil, List.sum_cons, List.sum_nil, List.length_cons, List.length_nil, h2]
    omega
  rw [if_pos rfl]
  refine wpAny_bind (wpAny_holding (wpAny_bind (wpAny_mkInt (wpAny_newTuple ?_ (by rw [sizeLine_eq]; exact Nat.le_of_ble_eq_true rfl)))))
  refine wpAny_pure (h h'.objs.size t' k _ _ (fun b o hb e => stays_push _ _ _ _ (hs.extBut b o hb e)) ?_ ?_)
  · exact Nat.le_of_eq hs.1.symm
  · rw [get_push_self _ _ rfl]
theorem subn_one {pa pl : Addr} {code : Array Nat} {k st hd : Nat} {li lm : Int} {mk : Array (Option Nat)} {must : Bool} {tx u : Tok} {x y : Str} {R : Result → Shared → Prop} (P : PatAt s.heap pa code 0) (hl : s.heap.get? pl = some (lstO [] 0))
    (hk : k ≤ 4 * (2 ^ 64 - 1)) (hw : Re.Wp (Sre.forSearch code x.cps 0 0 x.cps.size must) k (Re.Hit st hd lm li mk)) (hst : st = 0)
    (h : ∀ t h' cnt', Heap.SameBut pl s.heap h' → h'.get? pl = some (lstO [.str y t] cnt') → codeAny (model prog w) A (.builtin "re.Pattern.sub.loop" (subnArgs pa x tx y u ((0 : Nat) + 1) hd (hd == st) pl)) R { s with heap := h' }) :
    codeAny (model prog w) A (.builtin "re.Pattern.sub.loop" (subnArgs pa x tx y u (0 : Nat) 0 must pl)) R s := by
  refine codeAny_builtin Fc.entry_subloop ?_
  rw [Around.under_plainId (by decide +kernel)]
  unfold Builtin.«re.Pattern.sub.loop»
  dsimp only
  refine wpAny_bind (whole_at P ?_)
  dsimp only
  rw [if_pos (show ((0 : Int) == 0) = true from rfl)]
  refine wpAny_bind (lit_ok ?_)
  rw [if_neg (by simp)]
  unfold reNextFound
  refine wpAny_bind (end_hit (by exact hw) hk fun m' hm => ?_)
  dsimp only
  have h1 : m'.start = st := hm.2.1
  have h2 : m'.handed = hd := hm.2.2.1
  rw [h1, h2, if_neg (by subst hst; exact Nat.not_lt_zero _), if_pos (show ((0 : Int) == 0) = true from rfl)]
  refine wpAny_bind (wpAny_pure ?_)
  rw [if_pos (show (Value.str y u != Value.none) = true from rfl)]
  refine wpAny_bind (push_at hl (by decide) fun h1 cnt1 hs1 ho1 => ?_)
  exact wpAny_pure ⟨Code.quiet_builtin _ (by decide +kernel), h _ h1 cnt1 hs1 ho1⟩
theorem subn_go {pa : Addr} {code : Array Nat} {k k' hd : Nat} {li lm : Int} {mk : Array (Option Nat)} {tx u : Tok} {x y : Str} {Q : Value → Shared → Prop} (P : PatAt s.heap pa code 0)
    (hy : y.cps.contains 92 = false) (hk : k ≤ 4 * (2 ^ 64 - 1)) (hw : Re.Wp (Sre.forSearch code x.cps 0 0 x.cps.size false) k (Re.Hit 0 hd lm li mk))
    (hk' : k' ≤ 4 * (2 ^ 64 - 1)) (hw' : Re.Wp (Sre.forSearch code x.cps 0 hd x.cps.size (hd == 0)) k' Re.Miss) (hlt : hd < x.cps.size) (hx : x.length ≤ 1000) (hyl : y.length ≤ 1000)
    (h : ∀ ta t v h' tk', Stays s.heap h' → s.heap.objs.size ≤ ta → h'.get? ta = some { cls := .type "tuple", data := .seq #[.str (Txt.join (Str.ofString "") [y, ⟨x.cps.extract hd x.cps.size⟩]) t, .int 1 v] 0 } → Q (.ref ta) { s with heap := h', toks := tk' }) :
    wpAny (model prog w) A (call (.builtin "re.Pattern.subn") [.ref pa, .str y u, .str x tx]) Q E s := by
  refine call_slot Fc.slot_subn Fc.entry_subn P.typeIs (Fc.args_subn _ _ _) ?_
  unfold Builtin.«re.Pattern.subn» reSubstitute
  dsimp only
  have hn : reNamed "re.Pattern.subn" "subn" ["repl", "string", "count"] 2 [.str y u, .str x tx] [] = pure [some (.str y u), some (.str x tx), none] := rfl
  rw [hn]
  refine wpAny_bind (wpAny_pure ?_)
  refine wpAny_bind (wpAny_pure ?_)
  refine wpAny_bind (wpAny_specialOf (T := "str") rfl Fc.no_strcall ?_)
  simp only [Option.isSome_none, Bool.false_eq_true, if_false]
  refine wpAny_bind (wpAny_pure ?_)
  dsimp only
  refine wpAny_bind (wpAny_pure ?_)
  rw [hy, if_pos (show (!false) = true from rfl)]
  refine wpAny_bind (wpAny_pure ?_)
  refine wpAny_bind (wpAny_holding (whole_at P ?_))
  rw [if_neg (show ¬ (((0 : Int) == 1) = true) from Bool.false_ne_true)]
  refine wpAny_bind (wpAny_newList ?_)
  refine wpAny_pure ⟨Code.quiet_builtin _ (by decide +kernel), ?_⟩
  have hne : ∀ b o, s.heap.get? b = some o → b ≠ s.heap.objs.size := fun b o e => Nat.ne_of_lt (Heap.lt_size e)
  refine subn_one (P.keeps (stays_push _ _)) (get_push_self _ _ rfl) hk hw rfl ?_
  intro t h1 cnt1 hs1 ho1
  have hst1 : Stays s.heap h1 := fun b o e => hs1.extBut b o (hne b o e) (stays_push _ _ _ _ e)
  refine subn_end (P.keeps hst1) ho1 ⟨_, rfl⟩ hk' hw' hlt hx hyl ?_
  intro ta t v h' tk' k1 k2 k3
  refine h ta t v h' tk' (fun b o e => k1 b o (hne b o e) (hst1 b o e)) ?_ k3
  have q : h1.objs.size = _ := hs1.1
  rw [Heap.size_push] at q
  exact Nat.le_trans (Nat.le_of_lt (by rw [q]; exact Nat.lt_succ_self _)) k2
theorem call_subn {tx u : Tok} {Q : Value → Shared → Prop} (P : PatAt s.heap 36 Re.cJunk 0)
    (h : ∀ ta t v h' tk', Stays s.heap h' → s.heap.objs.size ≤ ta → h'.get? ta = some { cls := .type "tuple", data := .seq #[.str (S [118]) t, .int 1 v] 0 } → Q (.ref ta) { s with heap := h', toks := tk' }) :
    wpAny (model prog w) A (call (.builtin "re.Pattern.subn") [.ref 36, .str (Str.ofString "") u, .str (S [59, 32, 118]) tx]) Q E s :=
  subn_go P (by decide +kernel) (by decide) Re.junk_one (by decide) Re.junk_two (by decide) (by decide) (by decide) (fun ta t v h' tk' k1 k2 k3 => h ta t v h' tk' k1 k2 (by
    have e : Txt.join (Str.ofString "") [Str.ofString "", ⟨(S [59, 32, 118]).cps.extract 2 (S [59, 32, 118]).cps.size⟩] = S [118] := by decide
    rw [e] at k3
    exact k3))
end
theorem hide_hand {hd : Option Value} {h : Heap} {a : Addr} {ps : Array Value} (x : HandOk hd h) (ho : h.get? a = some (tabObj ps)) (hp : ps[2]? ≠ some .none) : HandOk hd (hideAll h [a]) := by
  rcases x with x | ⟨ea, e, o, vs, x1, x2, x3⟩
  · exact .inl x
  · refine .inr ⟨ea, e, o, vs, hideAll_get [a] x1 (fun q => ?_), x2, x3⟩
    have : ea = a := by simpa using q
    rw [this, ho] at x1
    cases x1
    have : ps = vs := by
      have y : (tabObj ps).data = .fields ps := rfl
      rw [y] at x2
      cases x2
      rfl
    subst this
    exact hp x3
end Mine
end
section
open PySem PySem.W PySem.Calls PyProof.Rows
set_option maxHeartbeats 2500000
namespace Mine

theorem drop_v : S ((S [118]).cps.toList.drop 1) = S [] := rfl
theorem len_ne {n : Nat} (h : 0 < n) : (((n : Nat) : Int) != 0) = true := by
  rw [bne_iff_ne]
  omega
structure KeyHit (x : Str) (e b c : Nat) : Prop where
  ex : ∃ k, k ≤ 10000000 ∧ Re.Wp (Sre.forSearch Re.cKey x.cps 1 0 x.cps.size false) k (Re.Hit 0 e 1 1 #[some b, some c])
  bc : b ≤ c
  len : x.length < 100000
structure QuoHit (x : Str) (e b c : Nat) : Prop where
  ex : ∃ k, k ≤ 10000000 ∧ Re.Wp (Sre.forSearch Re.cQuo x.cps 1 0 x.cps.size false) k (Re.Hit 0 e 1 1 #[some b, some c])
  bc : b ≤ c
  len : x.length < 100000
structure ValHit (x : Str) (e b c : Nat) : Prop where
  ex : ∃ k, k ≤ 10000000 ∧ Re.Wp (Sre.forSearch Re.cVal x.cps 1 0 x.cps.size false) k (Re.Hit 0 e 1 1 #[some b, some c])
  bc : b ≤ c
  len : x.length < 100000
structure KeyMiss (x : Str) : Prop where
  ex : ∃ k, k ≤ 10000000 ∧ Re.Wp (Sre.forSearch Re.cKey x.cps 1 0 x.cps.size false) k Re.Miss
  len : x.length < 100000
structure QuoMiss (x : Str) : Prop where
  ex : ∃ k, k ≤ 10000000 ∧ Re.Wp (Sre.forSearch Re.cQuo x.cps 1 0 x.cps.size false) k Re.Miss
  len : x.length < 100000
structure ValMiss (x : Str) : Prop where
  ex : ∃ k, k ≤ 10000000 ∧ Re.Wp (Sre.forSearch Re.cVal x.cps 1 0 x.cps.size false) k Re.Miss
  len : x.length < 100000
theorem miss_semi : KeyMiss (S [59, 32, 118]) := ⟨⟨100, by decide, Re.key_semi⟩, by decide⟩
theorem hit_v : KeyHit (S [118]) 1 0 1 := ⟨⟨100, by decide, Re.key_v⟩, by decide, by decide⟩
theorem quo_nil : QuoMiss (S []) := ⟨⟨100, by decide, Re.quo_empty⟩, by decide⟩
theorem val_nil : ValMiss (S []) := ⟨⟨100, by decide, Re.val_empty⟩, by decide⟩
section
variable {prog : Program} {w : World} {A : Around} {E : Value → Shared → Prop} {s : Shared} {e b c : Nat} {x : Str} {t : Tok} {Q : Value → Shared → Prop}
theorem key_srch (P : PatAt s.heap 48 Re.cKey 1) (hw : KeyHit x e b c)
    (h : ∀ ta mo h', Stays s.heap h' → s.heap.objs.size ≤ ta → @LT.lt Nat _ ta mo → h'.get? ta = some (spO 0 e b c) → h'.get? mo = some (matO x t 48 x.cps.size 1 ta) → Q (.ref mo) { s with heap := h' }) : wpAny (model prog w) A (call (.builtin "re.Pattern.search") [.ref 48, .str x t]) Q E s := by
  obtain ⟨⟨k, hk, hw⟩, hbc, hl⟩ := hw
  exact search_x P (by omega) (by omega) hbc hw h
theorem quo_srch (P : PatAt s.heap 53 Re.cQuo 1) (hw : QuoHit x e b c)
    (h : ∀ ta mo h', Stays s.heap h' → s.heap.objs.size ≤ ta → @LT.lt Nat _ ta mo → h'.get? ta = some (spO 0 e b c) → h'.get? mo = some (matO x t 53 x.cps.size 1 ta) → Q (.ref mo) { s with heap := h' }) : wpAny (model prog w) A (call (.builtin "re.Pattern.search") [.ref 53, .str x t]) Q E s := by
  obtain ⟨⟨k, hk, hw⟩, hbc, hl⟩ := hw
  exact search_x P (by omega) (by omega) hbc hw h
theorem val_srch (P : PatAt s.heap 58 Re.cVal 1) (hw : ValHit x e b c)
    (h : ∀ ta mo h', Stays s.heap h' → s.heap.objs.size ≤ ta → @LT.lt Nat _ ta mo → h'.get? ta = some (spO 0 e b c) → h'.get? mo = some (matO x t 58 x.cps.size 1 ta) → Q (.ref mo) { s with heap := h' }) : wpAny (model prog w) A (call (.builtin "re.Pattern.search") [.ref 58, .str x t]) Q E s := by
  obtain ⟨⟨k, hk, hw⟩, hbc, hl⟩ := hw
  exact search_x P (by omega) (by omega) hbc hw h
theorem key_miss (P : PatAt s.heap 48 Re.cKey 1) (hw : KeyMiss x) (h : Q .none s) : wpAny (model prog w) A (call (.builtin "re.Pattern.search") [.ref 48, .str x t]) Q E s := by
  obtain ⟨⟨k, hk, hw⟩, hl⟩ := hw
  exact call_search_miss P (by omega) (by omega) hw h
theorem quo_miss (P : PatAt s.heap 53 Re.cQuo 1) (hw : QuoMiss x) (h : Q .none s) : wpAny (model prog w) A (call (.builtin "re.Pattern.search") [.ref 53, .str x t]) Q E s := by
  obtain ⟨⟨k, hk, hw⟩, hl⟩ := hw
  exact call_search_miss P (by omega) (by omega) hw h
theorem val_miss (P : PatAt s.heap 58 Re.cVal 1) (hw : ValMiss x) (h : Q .none s) : wpAny (model prog w) A (call (.builtin "re.Pattern.search") [.ref 58, .str x t]) Q E s := by
  obtain ⟨⟨k, hk, hw⟩, hl⟩ := hw
  exact call_search_miss P (by omega) (by omega) hw h
end
def qualS : Str := (Str.ofString "split_header_words" ++ Str.ofString ".<locals>.") ++ Str.ofString "<lambda>"
abbrev tupO (vs : List Value) : Obj := { cls := .type "tuple", data := .seq vs.toArray 0 }
/-- what split hands back: a list of one list of two pairs, all new -/
def SplitOut (h h' : Heap) (r : Addr) (v : Str) : Prop := ∃ (pl a1 a2 : Addr) (n1 n2 : Nat) (t1 t2 t3 : Tok), (h.get? r = none ∧ h.get? pl = none ∧ h.get? a1 = none ∧ h.get? a2 = none) ∧ h'.get? r = some (W.listOf [Value.ref pl].toArray n1) ∧ h'.get? pl = some (W.listOf [Value.ref a1, Value.ref a2].toArray n2) ∧
  h'.get? a1 = some (tupO [.str (Str.ofString "k") t1, .str v t2]) ∧ h'.get? a2 = some (tupO [.str (Str.ofString "v") t3, .none])
theorem split_out {h G h' : Heap} {L r pl a1 a2 : Addr} {news : List (Addr × Obj)} {n1 n2 : Nat} {t1 t2 t3 : Tok} {v k1 k2 : Str} (hG : hideAll h [65] = G) (N : News G L h' news) (m1 : (r, W.listOf [Value.ref pl].toArray n1) ∈ news) (m2 : (pl, W.listOf [Value.ref a1, Value.ref a2].toArray n2) ∈ news)
    (m3 : (a1, tupO [.str k1 t1, .str v t2]) ∈ news) (m4 : (a2, tupO [.str k2 t3, .none]) ∈ news) (q1 : @LT.lt Nat _ 65 r) (q2 : @LT.lt Nat _ 65 pl) (q3 : @LT.lt Nat _ 65 a1) (q4 : @LT.lt Nat _ 65 a2) (e1 : k1 = Str.ofString "k") (e2 : k2 = Str.ofString "v") : SplitOut h h' r v := by
  have fr : ∀ a : Addr, @LT.lt Nat _ 65 a → G.get? a = none → h.get? a = none := by
    intro a ha hn
    cases q : h.get? a with
    | none => rfl
    | some o =>
      have := hideAll_get [65] q (by simp; exact Nat.ne_of_gt ha)
      rw [hG, hn] at this
      cases this
  subst e1 e2
  exact ⟨pl, a1, a2, n1, n2, t1, t2, t3, ⟨fr _ q1 (N _ m1).2.2, fr _ q2 (N _ m2).2.2, fr _ q3 (N _ m3).2.2, fr _ q4 (N _ m4).2.2⟩, (N _ m1).1, (N _ m2).1, (N _ m3).1, (N _ m4).1⟩
theorem ext_v : (⟨(S [118]).cps.extract 0 1⟩ : Str) = Str.ofString "v" := by decide
theorem split_quoted_first {prog : Program} {w : World} {hd9 : Option Value} {dp un : Nat} {gd : Option (List Code)} {cn : Str} {cs : Scope} {a : Addr} {ccd : Value} {cl : List (Str × Addr)} {outer : List Env} {A₀ : Around} {base h₀ : Heap} {L : Addr} {m mg mb : Str → Option Value} {p : Program} {loose : List Str} {mean : ExcName → Option Value}
   {s : Shared} {Q E : Value → Shared → Prop} {ll : Addr} {x y : Str} {l : List Nat} {t1 : Tok} {e1 e2 : Nat}
   (B : Below A₀ base outer h₀) (F : Fr h₀ L s.heap m) (X : (hd.heap_39 w.params).In h₀) (T : Top p loose mean mg mb h₀) (hk : cs.kind = .function)
   (hdp : dp + 3 < recursionLimit) (hun : un + 300 < cLine) (hh' : HandOk hd9 s.heap)
   (N : News h₀ L s.heap [(65, tabObj #[])])
   (k1' : s.heap.IsList ll [Value.str x t1].toArray)
   (hl : x.length < 100000) (hx1 : 0 < x.length) (hx1' : 1 ≤ x.length) (hyl : y.length < 100000)
   (hw1 : KeyHit x 1 0 1) (hd1 : S (x.cps.toList.drop 1) = y) (hw2 : QuoHit y e1 2 e2) (b3 : e1 ≤ y.length)
   (hd2 : S (y.cps.toList.drop e1) = S [59, 32, 118]) (hvl : (⟨y.cps.extract 2 e2⟩ : Str).length ≤ 900000) (hun2 : Une (y.cps.extract 2 e2).toList l) (hkk : (⟨x.cps.extract 0 1⟩ : Str) = Str.ofString "k")
   (hret : ∀ r h' tk', Heap.ExtBut 65 s.heap h' → TabNew 65 26 49 qualS s.heap h' → SplitOut s.heap h' r (S l) → Q (.ref r) { s with heap := h', toks := tk' }) :
   wpAny (model prog w) (topA hd9 dp un gd cn cs L a ccd cl outer) (call (.ref 70) [.ref ll]) Q E s := by
  have k1 := hide_list k1' (N _ (.head _)).1 rfl
  have hh9 := hide_hand hh' (N _ (.head _)).1 (by decide +kernel)
  clear k1' hh'
  k_with_none
  w_top off
  (k_with "my exec For Name Name cons nil" => k_search (by ((k_here; k_dflt (refine wpAny_For ?_ (by intro _; rfl))))))
  (k_with "my pyIter ref" => k_search (by ((k_here; k_dflt (refine' for_list ?zzF ?zzN ?zzl ?_; (case zzF => k_asm); (case zzN => k_asm); (case zzl => is_list); intro zzI9 zzh9 zzF9 zzN9 zzne9; k_lt zzne9; (try k_sweep); (try dsimp only))))))
  (k_with "my ForEnd" => k_search (by ((with_unfolding_all (show ForAt _ _ _ _ _ _ _ _ _ _)))))
  (k_with "my mine del" => k_search (by (first | exact Del.nil | (refine' Del.skip ?zza; (case zza => walk_at "mine del")) | (refine' Del.keep ?zza ?zzb; (case zza => k_ne); (case zzb => walk_at "mine del")))))
  (k_with "my assign Tuple" => k_search (by ((k_here; k_dflt (refine' assign_pair ?zzh ?zzt ?zzn ?_; (case zzh => first | exact .inl rfl | exact hand_now (by assumption) (by k_asm)); (case zzt => first | exact tuple_of_news (by k_asm) (by k_mem) | exact tuple_now (by assumption) (by k_asm)); (case zzn => rfl); intro zzh9 zzK9; (have zzF9 := fr_on (by k_asm) zzK9); (have zzN9 := news_on (by k_asm) zzK9); clear zzK9; (try k_sweep); (try dsimp only))))))
  (k_with "my ForAt" => k_search (by ((k_here; k_dflt (first
  | (refine' forAt_item ?zzF ?zzN ?zzU ?zzl ?zzx ?zzt ?_; (case zzF => k_asm); (case zzN => k_asm); (case zzU => k_upd); (case zzl => is_list); (case zzx => rfl); (case zzt => intro _; rfl); intro zzh9 zzF9 zzN9; (try k_sweep); (try dsimp only))
  | (refine' forAt_itemT ?zzF ?zzN ?zzU ?zzl ?zzx ?_; (case zzF => k_asm); (case zzN => k_asm); (case zzU => k_upd); (case zzl => is_list); (case zzx => rfl); intro zzh9 zzF9 zzN9; (try k_sweep); (try dsimp only))
  | (refine' forAt_end ?zzF ?zzN ?zzU ?zzD ?zzl ?zzx ?zzhh ?_; (case zzF => k_asm); (case zzN => k_asm); (case zzU => k_mem); (case zzD => walk_at "mine del"); (case zzl => is_list); (case zzx => rfl); (case zzhh => first | exact .inl rfl | exact hand_now (by assumption) (by k_asm)); intro zzh9 zzF9 zzN9; (try k_sweep); (try dsimp only)))))))
  (k_with "my WhlIf" => k_search (by (first | (refine WhlIf.yes (len_ne (by assumption)) ?_) | (refine WhlIf.yes (by decide) ?_) | (refine WhlIf.no (by decide) ?_))))
  (k_with "my truthy ref" => k_search (by ((k_here; k_dflt (refine truthy_mat (mat_of_news (by k_asm) (by k_mem) (by k_mem)) ?_)))))
  (k_with "my getMethod ref" => k_search (by ((k_here; k_dflt (first
  | ((with_reducible show wpAny _ _ (getMethod (Value.ref 48) _ _) _ _ _); refine pat_method (pat_key (by k_in)) Fc.slot_search Fc.type_search ?_)
  | ((with_reducible show wpAny _ _ (getMethod (Value.ref 53) _ _) _ _ _); refine pat_method (pat_quo (by k_in)) Fc.slot_search Fc.type_search ?_)
  | ((with_reducible show wpAny _ _ (getMethod (Value.ref 58) _ _) _ _ _); refine pat_method (pat_val (by k_in)) Fc.slot_search Fc.type_search ?_)
  | ((with_reducible show wpAny _ _ (getMethod (Value.ref 63) _ _) _ _ _); refine pat_method (pat_une (by k_in)) Fc.slot_sub Fc.type_sub ?_)
  | ((with_reducible show wpAny _ _ (getMethod (Value.ref 36) _ _) _ _ _); refine pat_method (pat_junk (by k_in)) Fc.slot_subn Fc.type_subn ?_)
  | ((with_reducible show wpAny _ _ (getMethod _ (Str.ofString "group") _) _ _ _); refine mat_method (mat_of_news (by k_asm) (by k_mem) (by k_mem)) Fc.slot_group Fc.type_group ?_))))))
  (k_with "my call builtin:list.append" => k_search (by ((k_here; (with_reducible show wpAny _ _ (call (Value.builtin _) [Value.ref _, _]) _ _ _); k_dflt (refine' append_K ?zzk1 ?zzk2 ?zzk3 ?_ ?zzz; (case zzk1 => k_asm); (case zzk2 => k_asm); (case zzk3 => k_upd); (case zzz => size_fits); k_whole); intro h' F' N'; (try k_sweep)))))
  (k_with "my mine hit" => k_search (by ((intro zzta9 zzmo9 zzh9 zzK9 zzht9 zzhm9 zzq9 zzr9; (have zzl9 := news_lt (by k_asm) zzht9); k_lt zzl9; (have zzN9 := news_add (by k_asm) (news_add (by k_asm) (news_on (by k_asm) zzK9) (get_past zzht9) zzq9) (get_past (Nat.le_trans zzht9 (Nat.le_of_lt zzhm9))) zzr9); (have zzF9 := fr_on (by k_asm) zzK9); clear zzK9 zzht9 zzq9 zzr9; (try k_sweep); (try dsimp only)))))
  (k_with "my call builtin:re.Pattern.search" => k_search (by ((k_here; k_dflt (first
  | ((with_reducible show wpAny _ _ (PySem.call _ [Value.ref 48, _]) _ _ _); first
    | (refine' key_srch ?zzP ?zzw ?_; (case zzw => first | assumption | exact hit_v); (case zzP => exact pat_key (by k_in)); walk_at "mine hit")
    | (refine' key_miss ?zzP ?zzw ?_; (case zzw => exact miss_semi); (case zzP => exact pat_key (by k_in)); (try dsimp only)))
  | ((with_reducible show wpAny _ _ (PySem.call _ [Value.ref 53, _]) _ _ _); first
    | (refine' quo_srch ?zzP ?zzw ?_; (case zzw => assumption); (case zzP => exact pat_quo (by k_in)); walk_at "mine hit")
    | (refine' quo_miss ?zzP ?zzw ?_; (case zzw => first | assumption | exact quo_nil); (case zzP => exact pat_quo (by k_in)); (try dsimp only)))
  | ((with_reducible show wpAny _ _ (PySem.call _ [Value.ref 58, _]) _ _ _); first
    | (refine' val_srch ?zzP ?zzw ?_; (case zzw => assumption); (case zzP => exact pat_val (by k_in)); walk_at "mine hit")
    | (refine' val_miss ?zzP ?zzw ?_; (case zzw => exact val_nil); (case zzP => exact pat_val (by k_in)); (try dsimp only))))))))
  (k_with "my call ref" => k_search (by ((k_here; k_dflt (refine' unmatched_spec ?zzk1 ?zzk2 ?zzk3 ?zzk5 ?zzkK ?zzd ?zzu ?zzhh ?zzhm ?zzs1 ?zzs2 ?_; (case zzk1 => k_asm); (case zzk2 => k_asm); (case zzk3 => k_asm); (case zzk5 => k_asm); (case zzkK => first | exact rfl | assumption); (case zzhh => first | exact .inl rfl | exact hand_now (by assumption) (by k_asm)); (case zzhm => exact mat_of_news (by k_asm) (by k_mem) (by k_mem)); (case zzd => ktr_room); (case zzu => ktr_units); (case zzs1 => first | decide | omega); (case zzs2 => first | assumption | decide | omega); intro zzr9 zzt9 zzh9 zztk9 zzK9 zze9; (have zze8 := zze9.trans (by first | assumption | exact drop_v)); subst zze8; clear zze9; (have zzF9 := fr_on (by k_asm) zzK9); (have zzN9 := news_on (by k_asm) zzK9); clear zzK9; (try k_sweep); (try dsimp only))))))
  (k_with "my call builtin:re.Match.group" => k_search (by ((k_here; k_dflt (refine call_group1 (mat_of_news (by k_asm) (by k_mem) (by k_mem)) (by rw [sizeLine_eq]; first | decide | omega) ?_; (try dsimp only))))))
  (k_with "my call builtin:re.Pattern.sub" => k_search (by ((k_here; k_dflt (refine' sub_une ?zzB ?zzF ?zzX ?zzT ?zzA ?zzf ?zzk ?zzo ?zzc ?zzr ?zzx ?zzun ?_; (case zzB => k_asm); (case zzF => k_asm); (case zzX => k_asm); (case zzT => k_asm); (case zzA => exact rfl); (case zzf => exact rfl); (case zzk => exact rfl); (case zzo => exact News.get (by k_asm) (by k_mem)); (case zzc => first | exact codeRec_news (by k_asm) (by k_mem) (by assumption) (by assumption) | exact Heap.CodeRec.keeps (by assumption) (Fr.keep (by k_asm))); (case zzr => ktr_room); (case zzx => assumption); (case zzun => assumption); intro zzr9 zzt9 zzh9 zztk9 zzK9 zze9; subst zze9; (have zzF9 := fr_on (by k_asm) zzK9); (have zzN9 := news_on (by k_asm) zzK9); clear zzK9; (try k_sweep); (try dsimp only))))))
  (k_with "my call builtin:re.Pattern.subn" => k_search (by ((k_here; k_dflt (refine call_subn (pat_junk (by k_in)) ?_; intro zzx9 zzt9 zzv9 zzh9 zztk9 zzK9 zzhx9 zzhy9; (have zzl9 := news_lt (by k_asm) zzhx9); k_lt zzl9; (have zzN9 := news_more (by k_asm) (by k_asm) zzK9 (get_past zzhx9) zzhy9); (have zzF9 := fr_on (by k_asm) zzK9); clear zzK9 zzhx9 zzhy9; (try k_sweep); (try dsimp only))))))
  (k_with "my ne" => (first | exact Nat.ne_of_beq_eq_false rfl | exact Nat.ne_of_lt (by with_reducible assumption) | exact Nat.ne_of_gt (by with_reducible assumption) | with_reducible assumption | exact Ne.symm (by with_reducible assumption) | exact Nat.ne_of_gt (cj0 (by with_reducible assumption)) | exact Nat.ne_of_gt (cj1 (by with_reducible assumption)) | exact Nat.ne_of_gt (ck1 (by with_reducible assumption)) | exact Nat.ne_of_gt (cj2 (by with_reducible assumption)) | exact Nat.ne_of_gt (ck2 (by with_reducible assumption)) | exact Nat.ne_of_gt (cj3 (by with_reducible assumption)) | exact Nat.ne_of_gt (ck3 (by with_reducible assumption)) | exact Nat.ne_of_gt (cj4 (by with_reducible assumption)) | exact Nat.ne_of_gt (ck4 (by with_reducible assumption)) | exact Nat.ne_of_gt (cj5 (by with_reducible assumption)) | exact Nat.ne_of_gt (ck5 (by with_reducible assumption)) | exact Nat.ne_of_gt (cj6 (by with_reducible assumption)) | exact Nat.ne_of_gt (ck6 (by with_reducible assumption)) | exact Nat.ne_of_gt (cj7 (by with_reducible assumption)) | exact Nat.ne_of_gt (ck7 (by with_reducible assumption)) | exact Nat.ne_of_gt (cj8 (by with_reducible assumption)) | exact Nat.ne_of_gt (ck8 (by with_reducible assumption)) | exact Nat.ne_of_gt (cj9 (by with_reducible assumption)) | exact Nat.ne_of_gt (ck9 (by with_reducible assumption)) | exact Nat.ne_of_gt (cj10 (by with_reducible assumption)) | exact Nat.ne_of_gt (ck10 (by with_reducible assumption)) | exact Nat.ne_of_gt (cj11 (by with_reducible assumption)) | exact Nat.ne_of_gt (ck11 (by with_reducible assumption)) | exact Nat.ne_of_gt (cj12 (by with_reducible assumption)) | exact Nat.ne_of_gt (ck12 (by with_reducible assumption)) | exact Nat.ne_of_gt (cj13 (by with_reducible assumption)) | exact Nat.ne_of_gt (ck13 (by with_reducible assumption)) | exact Nat.ne_of_gt (cj14 (by with_reducible assumption)) | exact Nat.ne_of_gt (ck14 (by with_reducible assumption)) | exact Nat.ne_of_gt (cj15 (by with_reducible assumption)) | exact Nat.ne_of_gt (ck15 (by with_reducible assumption)) | exact Nat.ne_of_gt (cj16 (by with_reducible assumption)) | exact Nat.ne_of_gt (ck16 (by with_reducible assumption)) | exact Nat.ne_of_lt (cj0 (by with_reducible assumption)) | exact Nat.ne_of_lt (cj1 (by with_reducible assumption)) | exact Nat.ne_of_lt (ck1 (by with_reducible assumption)) | exact Nat.ne_of_lt (cj2 (by with_reducible assumption)) | exact Nat.ne_of_lt (ck2 (by with_reducible assumption)) | exact Nat.ne_of_lt (cj3 (by with_reducible assumption)) | exact Nat.ne_of_lt (ck3 (by with_reducible assumption)) | exact Nat.ne_of_lt (cj4 (by with_reducible assumption)) | exact Nat.ne_of_lt (ck4 (by with_reducible assumption)) | exact Nat.ne_of_lt (cj5 (by with_reducible assumption)) | exact Nat.ne_of_lt (ck5 (by with_reducible assumption)) | exact Nat.ne_of_lt (cj6 (by with_reducible assumption)) | exact Nat.ne_of_lt (ck6 (by with_reducible assumption)) | exact Nat.ne_of_lt (cj7 (by with_reducible assumption)) | exact Nat.ne_of_lt (ck7 (by with_reducible assumption)) | exact Nat.ne_of_lt (cj8 (by with_reducible assumption)) | exact Nat.ne_of_lt (ck8 (by with_reducible assumption)) | exact Nat.ne_of_lt (cj9 (by with_reducible assumption)) | exact Nat.ne_of_lt (ck9 (by with_reducible assumption)) | exact Nat.ne_of_lt (cj10 (by with_reducible assumption)) | exact Nat.ne_of_lt (ck10 (by with_reducible assumption)) | exact Nat.ne_of_lt (cj11 (by with_reducible assumption)) | exact Nat.ne_of_lt (ck11 (by with_reducible assumption)) | exact Nat.ne_of_lt (cj12 (by with_reducible assumption)) | exact Nat.ne_of_lt (ck12 (by with_reducible assumption)) | exact Nat.ne_of_lt (cj13 (by with_reducible assumption)) | exact Nat.ne_of_lt (ck13 (by with_reducible assumption)) | exact Nat.ne_of_lt (cj14 (by with_reducible assumption)) | exact Nat.ne_of_lt (ck14 (by with_reducible assumption)) | exact Nat.ne_of_lt (cj15 (by with_reducible assumption)) | exact Nat.ne_of_lt (ck15 (by with_reducible assumption)) | exact Nat.ne_of_lt (cj16 (by with_reducible assumption)) | exact Nat.ne_of_lt (ck16 (by with_reducible assumption)) | exact ne_gtt (by with_reducible assumption) (cj0 (by with_reducible assumption)) | exact ne_gtt (by with_reducible assumption) (cj1 (by with_reducible assumption)) | exact ne_gtt (by with_reducible assumption) (ck1 (by with_reducible assumption)) | exact ne_gtt (by with_reducible assumption) (cj2 (by with_reducible assumption)) | exact ne_gtt (by with_reducible assumption) (ck2 (by with_reducible assumption)) | exact ne_gtt (by with_reducible assumption) (cj3 (by with_reducible assumption)) | exact ne_gtt (by with_reducible assumption) (ck3 (by with_reducible assumption)) | exact ne_gtt (by with_reducible assumption) (cj4 (by with_reducible assumption)) | exact ne_gtt (by with_reducible assumption) (ck4 (by with_reducible assumption)) | exact ne_gtt (by with_reducible assumption) (cj5 (by with_reducible assumption)) | exact ne_gtt (by with_reducible assumption) (ck5 (by with_reducible assumption)) | exact ne_gtt (by with_reducible assumption) (cj6 (by with_reducible assumption)) | exact ne_gtt (by with_reducible assumption) (ck6 (by with_reducible assumption)) | exact ne_gtt (by with_reducible assumption) (cj7 (by with_reducible assumption)) | exact ne_gtt (by with_reducible assumption) (ck7 (by with_reducible assumption)) | exact ne_gtt (by with_reducible assumption) (cj8 (by with_reducible assumption)) | exact ne_gtt (by with_reducible assumption) (ck8 (by with_reducible assumption)) | exact ne_gtt (by with_reducible assumption) (cj9 (by with_reducible assumption)) | exact ne_gtt (by with_reducible assumption) (ck9 (by with_reducible assumption)) | exact ne_gtt (by with_reducible assumption) (cj10 (by with_reducible assumption)) | exact ne_gtt (by with_reducible assumption) (ck10 (by with_reducible assumption)) | exact ne_gtt (by with_reducible assumption) (cj11 (by with_reducible assumption)) | exact ne_gtt (by with_reducible assumption) (ck11 (by with_reducible assumption)) | exact ne_gtt (by with_reducible assumption) (cj12 (by with_reducible assumption)) | exact ne_gtt (by with_reducible assumption) (ck12 (by with_reducible assumption)) | exact ne_gtt (by with_reducible assumption) (cj13 (by with_reducible assumption)) | exact ne_gtt (by with_reducible assumption) (ck13 (by with_reducible assumption)) | exact ne_gtt (by with_reducible assumption) (cj14 (by with_reducible assumption)) | exact ne_gtt (by with_reducible assumption) (ck14 (by with_reducible assumption)) | exact ne_gtt (by with_reducible assumption) (cj15 (by with_reducible assumption)) | exact ne_gtt (by with_reducible assumption) (ck15 (by with_reducible assumption)) | exact ne_gtt (by with_reducible assumption) (cj16 (by with_reducible assumption)) | exact ne_gtt (by with_reducible assumption) (ck16 (by with_reducible assumption)) | exact ne_ltt (by with_reducible assumption) (cj0 (by with_reducible assumption)) | exact ne_ltt (by with_reducible assumption) (cj1 (by with_reducible assumption)) | exact ne_ltt (by with_reducible assumption) (ck1 (by with_reducible assumption)) | exact ne_ltt (by with_reducible assumption) (cj2 (by with_reducible assumption)) | exact ne_ltt (by with_reducible assumption) (ck2 (by with_reducible assumption)) | exact ne_ltt (by with_reducible assumption) (cj3 (by with_reducible assumption)) | exact ne_ltt (by with_reducible assumption) (ck3 (by with_reducible assumption)) | exact ne_ltt (by with_reducible assumption) (cj4 (by with_reducible assumption)) | exact ne_ltt (by with_reducible assumption) (ck4 (by with_reducible assumption)) | exact ne_ltt (by with_reducible assumption) (cj5 (by with_reducible assumption)) | exact ne_ltt (by with_reducible assumption) (ck5 (by with_reducible assumption)) | exact ne_ltt (by with_reducible assumption) (cj6 (by with_reducible assumption)) | exact ne_ltt (by with_reducible assumption) (ck6 (by with_reducible assumption)) | exact ne_ltt (by with_reducible assumption) (cj7 (by with_reducible assumption)) | exact ne_ltt (by with_reducible assumption) (ck7 (by with_reducible assumption)) | exact ne_ltt (by with_reducible assumption) (cj8 (by with_reducible assumption)) | exact ne_ltt (by with_reducible assumption) (ck8 (by with_reducible assumption)) | exact ne_ltt (by with_reducible assumption) (cj9 (by with_reducible assumption)) | exact ne_ltt (by with_reducible assumption) (ck9 (by with_reducible assumption)) | exact ne_ltt (by with_reducible assumption) (cj10 (by with_reducible assumption)) | exact ne_ltt (by with_reducible assumption) (ck10 (by with_reducible assumption)) | exact ne_ltt (by with_reducible assumption) (cj11 (by with_reducible assumption)) | exact ne_ltt (by with_reducible assumption) (ck11 (by with_reducible assumption)) | exact ne_ltt (by with_reducible assumption) (cj12 (by with_reducible assumption)) | exact ne_ltt (by with_reducible assumption) (ck12 (by with_reducible assumption)) | exact ne_ltt (by with_reducible assumption) (cj13 (by with_reducible assumption)) | exact ne_ltt (by with_reducible assumption) (ck13 (by with_reducible assumption)) | exact ne_ltt (by with_reducible assumption) (cj14 (by with_reducible assumption)) | exact ne_ltt (by with_reducible assumption) (ck14 (by with_reducible assumption)) | exact ne_ltt (by with_reducible assumption) (cj15 (by with_reducible assumption)) | exact ne_ltt (by with_reducible assumption) (ck15 (by with_reducible assumption)) | exact ne_ltt (by with_reducible assumption) (cj16 (by with_reducible assumption)) | exact ne_ltt (by with_reducible assumption) (ck16 (by with_reducible assumption)) | exact (cj0 (by with_reducible assumption)) | exact (cj1 (by with_reducible assumption)) | exact (ck1 (by with_reducible assumption)) | exact (cj2 (by with_reducible assumption)) | exact (ck2 (by with_reducible assumption)) | exact (cj3 (by with_reducible assumption)) | exact (ck3 (by with_reducible assumption)) | exact (cj4 (by with_reducible assumption)) | exact (ck4 (by with_reducible assumption)) | exact (cj5 (by with_reducible assumption)) | exact (ck5 (by with_reducible assumption)) | exact (cj6 (by with_reducible assumption)) | exact (ck6 (by with_reducible assumption)) | exact (cj7 (by with_reducible assumption)) | exact (ck7 (by with_reducible assumption)) | exact (cj8 (by with_reducible assumption)) | exact (ck8 (by with_reducible assumption)) | exact (cj9 (by with_reducible assumption)) | exact (ck9 (by with_reducible assumption)) | exact (cj10 (by with_reducible assumption)) | exact (ck10 (by with_reducible assumption)) | exact (cj11 (by with_reducible assumption)) | exact (ck11 (by with_reducible assumption)) | exact (cj12 (by with_reducible assumption)) | exact (ck12 (by with_reducible assumption)) | exact (cj13 (by with_reducible assumption)) | exact (ck13 (by with_reducible assumption)) | exact (cj14 (by with_reducible assumption)) | exact (ck14 (by with_reducible assumption)) | exact (cj15 (by with_reducible assumption)) | exact (ck15 (by with_reducible assumption)) | exact (cj16 (by with_reducible assumption)) | exact (ck16 (by with_reducible assumption)) | exact Ne.symm (cj0 (by with_reducible assumption)) | exact Ne.symm (cj1 (by with_reducible assumption)) | exact Ne.symm (ck1 (by with_reducible assumption)) | exact Ne.symm (cj2 (by with_reducible assumption)) | exact Ne.symm (ck2 (by with_reducible assumption)) | exact Ne.symm (cj3 (by with_reducible assumption)) | exact Ne.symm (ck3 (by with_reducible assumption)) | exact Ne.symm (cj4 (by with_reducible assumption)) | exact Ne.symm (ck4 (by with_reducible assumption)) | exact Ne.symm (cj5 (by with_reducible assumption)) | exact Ne.symm (ck5 (by with_reducible assumption)) | exact Ne.symm (cj6 (by with_reducible assumption)) | exact Ne.symm (ck6 (by with_reducible assumption)) | exact Ne.symm (cj7 (by with_reducible assumption)) | exact Ne.symm (ck7 (by with_reducible assumption)) | exact Ne.symm (cj8 (by with_reducible assumption)) | exact Ne.symm (ck8 (by with_reducible assumption)) | exact Ne.symm (cj9 (by with_reducible assumption)) | exact Ne.symm (ck9 (by with_reducible assumption)) | exact Ne.symm (cj10 (by with_reducible assumption)) | exact Ne.symm (ck10 (by with_reducible assumption)) | exact Ne.symm (cj11 (by with_reducible assumption)) | exact Ne.symm (ck11 (by with_reducible assumption)) | exact Ne.symm (cj12 (by with_reducible assumption)) | exact Ne.symm (ck12 (by with_reducible assumption)) | exact Ne.symm (cj13 (by with_reducible assumption)) | exact Ne.symm (ck13 (by with_reducible assumption)) | exact Ne.symm (cj14 (by with_reducible assumption)) | exact Ne.symm (ck14 (by with_reducible assumption)) | exact Ne.symm (cj15 (by with_reducible assumption)) | exact Ne.symm (ck15 (by with_reducible assumption)) | exact Ne.symm (cj16 (by with_reducible assumption)) | exact Ne.symm (ck16 (by with_reducible assumption)) | exact (cj0 (cj0 (by with_reducible assumption))) | exact (cj1 (cj0 (by with_reducible assumption))) | exact (ck2 (cj0 (by with_reducible assumption))) | exact (cj0 (cj1 (by with_reducible assumption))) | exact (cj1 (cj1 (by with_reducible assumption))) | exact (ck2 (cj1 (by with_reducible assumption))) | exact (cj0 (ck1 (by with_reducible assumption))) | exact (cj1 (ck1 (by with_reducible assumption))) | exact (ck2 (ck1 (by with_reducible assumption))) | exact (cj0 (cj2 (by with_reducible assumption))) | exact (cj1 (cj2 (by with_reducible assumption))) | exact (ck2 (cj2 (by with_reducible assumption))) | exact (cj0 (ck2 (by with_reducible assumption))) | exact (cj1 (ck2 (by with_reducible assumption))) | exact (ck2 (ck2 (by with_reducible assumption))) | exact (cj0 (cj3 (by with_reducible assumption))) | exact (cj1 (cj3 (by with_reducible assumption))) | exact (ck2 (cj3 (by with_reducible assumption))) | exact (cj0 (ck3 (by with_reducible assumption))) | exact (cj1 (ck3 (by with_reducible assumption))) | exact (ck2 (ck3 (by with_reducible assumption))) | exact (cj0 (cj4 (by with_reducible assumption))) | exact (cj1 (cj4 (by with_reducible assumption))) | exact (ck2 (cj4 (by with_reducible assumption))) | exact (cj0 (ck4 (by with_reducible assumption))) | exact (cj1 (ck4 (by with_reducible assumption))) | exact (ck2 (ck4 (by with_reducible assumption))) | exact (cj0 (cj5 (by with_reducible assumption))) | exact (cj1 (cj5 (by with_reducible assumption))) | exact (ck2 (cj5 (by with_reducible assumption))) | exact (cj0 (ck5 (by with_reducible assumption))) | exact (cj1 (ck5 (by with_reducible assumption))) | exact (ck2 (ck5 (by with_reducible assumption))) | exact (cj0 (cj6 (by with_reducible assumption))) | exact (cj1 (cj6 (by with_reducible assumption))) | exact (ck2 (cj6 (by with_reducible assumption))) | exact (cj0 (ck6 (by with_reducible assumption))) | exact (cj1 (ck6 (by with_reducible assumption))) | exact (ck2 (ck6 (by with_reducible assumption))) | exact (cj0 (cj7 (by with_reducible assumption))) | exact (cj1 (cj7 (by with_reducible assumption))) | exact (ck2 (cj7 (by with_reducible assumption))) | exact (cj0 (ck7 (by with_reducible assumption))) | exact (cj1 (ck7 (by with_reducible assumption))) | exact (ck2 (ck7 (by with_reducible assumption))) | exact (cj0 (cj8 (by with_reducible assumption))) | exact (cj1 (cj8 (by with_reducible assumption))) | exact (ck2 (cj8 (by with_reducible assumption))) | exact (cj0 (ck8 (by with_reducible assumption))) | exact (cj1 (ck8 (by with_reducible assumption))) | exact (ck2 (ck8 (by with_reducible assumption))) | exact Ne.symm (cj0 (cj0 (by with_reducible assumption))) | exact Ne.symm (cj1 (cj0 (by with_reducible assumption))) | exact Ne.symm (ck2 (cj0 (by with_reducible assumption))) | exact Ne.symm (cj0 (cj1 (by with_reducible assumption))) | exact Ne.symm (cj1 (cj1 (by with_reducible assumption))) | exact Ne.symm (ck2 (cj1 (by with_reducible assumption))) | exact Ne.symm (cj0 (ck1 (by with_reducible assumption))) | exact Ne.symm (cj1 (ck1 (by with_reducible assumption))) | exact Ne.symm (ck2 (ck1 (by with_reducible assumption))) | exact Ne.symm (cj0 (cj2 (by with_reducible assumption))) | exact Ne.symm (cj1 (cj2 (by with_reducible assumption))) | exact Ne.symm (ck2 (cj2 (by with_reducible assumption))) | exact Ne.symm (cj0 (ck2 (by with_reducible assumption))) | exact Ne.symm (cj1 (ck2 (by with_reducible assumption))) | exact Ne.symm (ck2 (ck2 (by with_reducible assumption))) | exact Ne.symm (cj0 (cj3 (by with_reducible assumption))) | exact Ne.symm (cj1 (cj3 (by with_reducible assumption))) | exact Ne.symm (ck2 (cj3 (by with_reducible assumption))) | exact Ne.symm (cj0 (ck3 (by with_reducible assumption))) | exact Ne.symm (cj1 (ck3 (by with_reducible assumption))) | exact Ne.symm (ck2 (ck3 (by with_reducible assumption))) | exact Ne.symm (cj0 (cj4 (by with_reducible assumption))) | exact Ne.symm (cj1 (cj4 (by with_reducible assumption))) | exact Ne.symm (ck2 (cj4 (by with_reducible assumption))) | exact Ne.symm (cj0 (ck4 (by with_reducible assumption))) | exact Ne.symm (cj1 (ck4 (by with_reducible assumption))) | exact Ne.symm (ck2 (ck4 (by with_reducible assumption))) | exact Ne.symm (cj0 (cj5 (by with_reducible assumption))) | exact Ne.symm (cj1 (cj5 (by with_reducible assumption))) | exact Ne.symm (ck2 (cj5 (by with_reducible assumption))) | exact Ne.symm (cj0 (ck5 (by with_reducible assumption))) | exact Ne.symm (cj1 (ck5 (by with_reducible assumption))) | exact Ne.symm (ck2 (ck5 (by with_reducible assumption))) | exact Ne.symm (cj0 (cj6 (by with_reducible assumption))) | exact Ne.symm (cj1 (cj6 (by with_reducible assumption))) | exact Ne.symm (ck2 (cj6 (by with_reducible assumption))) | exact Ne.symm (cj0 (ck6 (by with_reducible assumption))) | exact Ne.symm (cj1 (ck6 (by with_reducible assumption))) | exact Ne.symm (ck2 (ck6 (by with_reducible assumption))) | exact Ne.symm (cj0 (cj7 (by with_reducible assumption))) | exact Ne.symm (cj1 (cj7 (by with_reducible assumption))) | exact Ne.symm (ck2 (cj7 (by with_reducible assumption))) | exact Ne.symm (cj0 (ck7 (by with_reducible assumption))) | exact Ne.symm (cj1 (ck7 (by with_reducible assumption))) | exact Ne.symm (ck2 (ck7 (by with_reducible assumption))) | exact Ne.symm (cj0 (cj8 (by with_reducible assumption))) | exact Ne.symm (cj1 (cj8 (by with_reducible assumption))) | exact Ne.symm (ck2 (cj8 (by with_reducible assumption))) | exact Ne.symm (cj0 (ck8 (by with_reducible assumption))) | exact Ne.symm (cj1 (ck8 (by with_reducible assumption))) | exact Ne.symm (ck2 (ck8 (by with_reducible assumption)))))
  refine wpAny_call ?_
  k_dflt (refine' code_hide (binds := [(Str.ofString "header_values", Value.ref ll)]) ?k1 ?k2 ?k3 ?k5 ?kN ?kA ?kF ?kK ?k6 ?k7 ?k8 ?k9 ?kB ?_ ?c2 ?c3 ?c4 ?c5; (case kA => exact rfl); (case kF => exact rfl); (case kK => assumption); (case k1 => k_asm); (case k2 => k_asm); (case k3 => k_asm); (case k5 => k_asm); (case kN => k_asm); (case k6 => k_is); (case k7 => k_is); (case k8 => ktr_room); (case k9 => exact BindsTo.of_eq rfl); (case c5 => decide); (case kB => exact locs rfl); (case c2 => exact rfl); (case c3 => exact rfl); (case c4 => exact rfl); k_whole; intro L' h' F' N' B' X' T' l1; (try dsimp only); (try k_fold))
  k_lt l1
  have codeHd := codeHd_split X'
  generalize hG : hideAll s.heap (List.map (fun x => x.1) [(65, tabObj #[])]) = G at F' N' B' X' T' codeHd
  have hG' : hideAll s.heap [65] = G := hG
  rw [hG'] at k1 hh9
  k_steps
  all_goals (refine hret _ _ _ (hide_but (by rw [hG']; exact Fr.keep (by assumption))) ?_ ?_)
  · exact tab_new hG' (by assumption) (by k_mem) (by k_mem) (by assumption) (by assumption) (by omega)
  · exact split_out hG' (by assumption) (by k_mem) (by k_mem) (by k_mem) (by k_mem) (by omega) (by omega) (by omega) (by omega) hkk ext_v
end Mine
end
section
open PySem PySem.W PySem.Calls PyProof.Rows
set_option maxHeartbeats 2500000
namespace Mine
theorem split_quoted_again {prog : Program} {w : World} {hd9 : Option Value} {dp un : Nat} {gd : Option (List Code)} {cn : Str} {cs : Scope} {a : Addr} {ccd : Value} {cl : List (Str × Addr)} {outer : List Env} {A₀ : Around} {base h₀ : Heap} {L : Addr} {m mg mb : Str → Option Value} {p : Program} {loose : List Str} {mean : ExcName → Option Value}
   {s : Shared} {Q E : Value → Shared → Prop} {ll : Addr} {x y : Str} {l : List Nat} {t1 : Tok} {e1 e2 : Nat} {c9 : Addr} (hc9' : s.heap.CodeRec (.ref c9) qualS)
   (B : Below A₀ base outer h₀) (F : Fr h₀ L s.heap m) (X : (hd.heap_39 w.params).In h₀) (T : Top p loose mean mg mb h₀) (hk : cs.kind = .function)
   (hdp : dp + 3 < recursionLimit) (hun : un + 300 < cLine) (hh' : HandOk hd9 s.heap)
   (N : News h₀ L s.heap [(65, tabObj #[rawInt (26 : Nat), rawInt (49 : Nat), .ref c9])])
   (k1' : s.heap.IsList ll [Value.str x t1].toArray)
   (hl : x.length < 100000) (hx1 : 0 < x.length) (hx1' : 1 ≤ x.length) (hyl : y.length < 100000)
   (hw1 : KeyHit x 1 0 1) (hd1 : S (x.cps.toList.drop 1) = y) (hw2 : QuoHit y e1 2 e2) (b3 : e1 ≤ y.length)
   (hd2 : S (y.cps.toList.drop e1) = S [59, 32, 118]) (hvl : (⟨y.cps.extract 2 e2⟩ : Str).length ≤ 900000) (hun2 : Une (y.cps.extract 2 e2).toList l) (hkk : (⟨x.cps.extract 0 1⟩ : Str) = Str.ofString "k")
   (hret : ∀ r h' tk', Heap.ExtBut 65 s.heap h' → h'.get? 65 = some (tabObj #[rawInt (26 : Nat), rawInt (49 : Nat), .ref c9]) → SplitOut s.heap h' r (S l) → Q (.ref r) { s with heap := h', toks := tk' }) :
   wpAny (model prog w) (topA hd9 dp un gd cn cs L a ccd cl outer) (call (.ref 70) [.ref ll]) Q E s := by
  have k1 := hide_list k1' (N _ (.head _)).1 rfl
  have hh9 := hide_hand hh' (N _ (.head _)).1 (by intro q; cases q)
  have hc9 := hide_code hc9' (code_ne hc9' (N _ (.head _)).1 (by intro t q; cases q))
  clear k1' hh'
  k_with_none
  w_top off
  (k_with "my exec For Name Name cons nil" => k_search (by ((k_here; k_dflt (refine wpAny_For ?_ (by intro _; rfl))))))
  (k_with "my pyIter ref" => k_search (by ((k_here; k_dflt (refine' for_list ?zzF ?zzN ?zzl ?_; (case zzF => k_asm); (case zzN => k_asm); (case zzl => is_list); intro zzI9 zzh9 zzF9 zzN9 zzne9; k_lt zzne9; (try k_sweep); (try dsimp only))))))
  (k_with "my ForEnd" => k_search (by ((with_unfolding_all (show ForAt _ _ _ _ _ _ _ _ _ _)))))
  (k_with "my mine del" => k_search (by (first | exact Del.nil | (refine' Del.skip ?zza; (case zza => walk_at "mine del")) | (refine' Del.keep ?zza ?zzb; (case zza => k_ne); (case zzb => walk_at "mine del")))))
  (k_with "my assign Tuple" => k_search (by ((k_here; k_dflt (refine' assign_pair ?zzh ?zzt ?zzn ?_; (case zzh => first | exact .inl rfl | exact hand_now (by assumption) (by k_asm)); (case zzt => first | exact tuple_of_news (by k_asm) (by k_mem) | exact tuple_now (by assumption) (by k_asm)); (case zzn => rfl); intro zzh9 zzK9; (have zzF9 := fr_on (by k_asm) zzK9); (have zzN9 := news_on (by k_asm) zzK9); clear zzK9; (try k_sweep); (try dsimp only))))))
  (k_with "my ForAt" => k_search (by ((k_here; k_dflt (first
  | (refine' forAt_item ?zzF ?zzN ?zzU ?zzl ?zzx ?zzt ?_; (case zzF => k_asm); (case zzN => k_asm); (case zzU => k_upd); (case zzl => is_list); (case zzx => rfl); (case zzt => intro _; rfl); intro zzh9 zzF9 zzN9; (try k_sweep); (try dsimp only))
  | (refine' forAt_itemT ?zzF ?zzN ?zzU ?zzl ?zzx ?_; (case zzF => k_asm); (case zzN => k_asm); (case zzU => k_upd); (case zzl => is_list); (case zzx => rfl); intro zzh9 zzF9 zzN9; (try k_sweep); (try dsimp only))
  | (refine' forAt_end ?zzF ?zzN ?zzU ?zzD ?zzl ?zzx ?zzhh ?_; (case zzF => k_asm); (case zzN => k_asm); (case zzU => k_mem); (case zzD => walk_at "mine del"); (case zzl => is_list); (case zzx => rfl); (case zzhh => first | exact .inl rfl | exact hand_now (by assumption) (by k_asm)); intro zzh9 zzF9 zzN9; (try k_sweep); (try dsimp only)))))))
  (k_with "my WhlIf" => k_search (by (first | (refine WhlIf.yes (len_ne (by assumption)) ?_) | (refine WhlIf.yes (by decide) ?_) | (refine WhlIf.no (by decide) ?_))))
  (k_with "my truthy ref" => k_search (by ((k_here; k_dflt (refine truthy_mat (mat_of_news (by k_asm) (by k_mem) (by k_mem)) ?_)))))
  (k_with "my getMethod ref" => k_search (by ((k_here; k_dflt (first
  | ((with_reducible show wpAny _ _ (getMethod (Value.ref 48) _ _) _ _ _); refine pat_method (pat_key (by k_in)) Fc.slot_search Fc.type_search ?_)
  | ((with_reducible show wpAny _ _ (getMethod (Value.ref 53) _ _) _ _ _); refine pat_method (pat_quo (by k_in)) Fc.slot_search Fc.type_search ?_)
  | ((with_reducible show wpAny _ _ (getMethod (Value.ref 58) _ _) _ _ _); refine pat_method (pat_val (by k_in)) Fc.slot_search Fc.type_search ?_)
  | ((with_reducible show wpAny _ _ (getMethod (Value.ref 63) _ _) _ _ _); refine pat_method (pat_une (by k_in)) Fc.slot_sub Fc.type_sub ?_)
  | ((with_reducible show wpAny _ _ (getMethod (Value.ref 36) _ _) _ _ _); refine pat_method (pat_junk (by k_in)) Fc.slot_subn Fc.type_subn ?_)
  | ((with_reducible show wpAny _ _ (getMethod _ (Str.ofString "group") _) _ _ _); refine mat_method (mat_of_news (by k_asm) (by k_mem) (by k_mem)) Fc.slot_group Fc.type_group ?_))))))
  (k_with "my call builtin:list.append" => k_search (by ((k_here; (with_reducible show wpAny _ _ (call (Value.builtin _) [Value.ref _, _]) _ _ _); k_dflt (refine' append_K ?zzk1 ?zzk2 ?zzk3 ?_ ?zzz; (case zzk1 => k_asm); (case zzk2 => k_asm); (case zzk3 => k_upd); (case zzz => size_fits); k_whole); intro h' F' N'; (try k_sweep)))))
  (k_with "my mine hit" => k_search (by ((intro zzta9 zzmo9 zzh9 zzK9 zzht9 zzhm9 zzq9 zzr9; (have zzl9 := news_lt (by k_asm) zzht9); k_lt zzl9; (have zzN9 := news_add (by k_asm) (news_add (by k_asm) (news_on (by k_asm) zzK9) (get_past zzht9) zzq9) (get_past (Nat.le_trans zzht9 (Nat.le_of_lt zzhm9))) zzr9); (have zzF9 := fr_on (by k_asm) zzK9); clear zzK9 zzht9 zzq9 zzr9; (try k_sweep); (try dsimp only)))))
  (k_with "my call builtin:re.Pattern.search" => k_search (by ((k_here; k_dflt (first
  | ((with_reducible show wpAny _ _ (PySem.call _ [Value.ref 48, _]) _ _ _); first
    | (refine' key_srch ?zzP ?zzw ?_; (case zzw => first | assumption | exact hit_v); (case zzP => exact pat_key (by k_in)); walk_at "mine hit")
    | (refine' key_miss ?zzP ?zzw ?_; (case zzw => exact miss_semi); (case zzP => exact pat_key (by k_in)); (try dsimp only)))
  | ((with_reducible show wpAny _ _ (PySem.call _ [Value.ref 53, _]) _ _ _); first
    | (refine' quo_srch ?zzP ?zzw ?_; (case zzw => assumption); (case zzP => exact pat_quo (by k_in)); walk_at "mine hit")
    | (refine' quo_miss ?zzP ?zzw ?_; (case zzw => first | assumption | exact quo_nil); (case zzP => exact pat_quo (by k_in)); (try dsimp only)))
  | ((with_reducible show wpAny _ _ (PySem.call _ [Value.ref 58, _]) _ _ _); first
    | (refine' val_srch ?zzP ?zzw ?_; (case zzw => assumption); (case zzP => exact pat_val (by k_in)); walk_at "mine hit")
    | (refine' val_miss ?zzP ?zzw ?_; (case zzw => exact val_nil); (case zzP => exact pat_val (by k_in)); (try dsimp only))))))))
  (k_with "my call ref" => k_search (by ((k_here; k_dflt (refine' unmatched_spec ?zzk1 ?zzk2 ?zzk3 ?zzk5 ?zzkK ?zzd ?zzu ?zzhh ?zzhm ?zzs1 ?zzs2 ?_; (case zzk1 => k_asm); (case zzk2 => k_asm); (case zzk3 => k_asm); (case zzk5 => k_asm); (case zzkK => first | exact rfl | assumption); (case zzhh => first | exact .inl rfl | exact hand_now (by assumption) (by k_asm)); (case zzhm => exact mat_of_news (by k_asm) (by k_mem) (by k_mem)); (case zzd => ktr_room); (case zzu => ktr_units); (case zzs1 => first | decide | omega); (case zzs2 => first | assumption | decide | omega); intro zzr9 zzt9 zzh9 zztk9 zzK9 zze9; (have zze8 := zze9.trans (by first | assumption | exact drop_v)); subst zze8; clear zze9; (have zzF9 := fr_on (by k_asm) zzK9); (have zzN9 := news_on (by k_asm) zzK9); clear zzK9; (try k_sweep); (try dsimp only))))))
  (k_with "my call builtin:re.Match.group" => k_search (by ((k_here; k_dflt (refine call_group1 (mat_of_news (by k_asm) (by k_mem) (by k_mem)) (by rw [sizeLine_eq]; first | decide | omega) ?_; (try dsimp only))))))
  (k_with "my call builtin:re.Pattern.sub" => k_search (by ((k_here; k_dflt (refine' sub_une ?zzB ?zzF ?zzX ?zzT ?zzA ?zzf ?zzk ?zzo ?zzc ?zzr ?zzx ?zzun ?_; (case zzB => k_asm); (case zzF => k_asm); (case zzX => k_asm); (case zzT => k_asm); (case zzA => exact rfl); (case zzf => exact rfl); (case zzk => exact rfl); (case zzo => exact News.get (by k_asm) (by k_mem)); (case zzc => first | exact codeRec_news (by k_asm) (by k_mem) (by assumption) (by assumption) | exact Heap.CodeRec.keeps (by assumption) (Fr.keep (by k_asm))); (case zzr => ktr_room); (case zzx => assumption); (case zzun => assumption); intro zzr9 zzt9 zzh9 zztk9 zzK9 zze9; subst zze9; (have zzF9 := fr_on (by k_asm) zzK9); (have zzN9 := news_on (by k_asm) zzK9); clear zzK9; (try k_sweep); (try dsimp only))))))
  (k_with "my call builtin:re.Pattern.subn" => k_search (by ((k_here; k_dflt (refine call_subn (pat_junk (by k_in)) ?_; intro zzx9 zzt9 zzv9 zzh9 zztk9 zzK9 zzhx9 zzhy9; (have zzl9 := news_lt (by k_asm) zzhx9); k_lt zzl9; (have zzN9 := news_more (by k_asm) (by k_asm) zzK9 (get_past zzhx9) zzhy9); (have zzF9 := fr_on (by k_asm) zzK9); clear zzK9 zzhx9 zzhy9; (try k_sweep); (try dsimp only))))))
  (k_with "my ne" => (first | exact Nat.ne_of_beq_eq_false rfl | exact Nat.ne_of_lt (by with_reducible assumption) | exact Nat.ne_of_gt (by with_reducible assumption) | with_reducible assumption | exact Ne.symm (by with_reducible assumption) | exact Nat.ne_of_gt (cj0 (by with_reducible assumption)) | exact Nat.ne_of_gt (cj1 (by with_reducible assumption)) | exact Nat.ne_of_gt (ck1 (by with_reducible assumption)) | exact Nat.ne_of_gt (cj2 (by with_reducible assumption)) | exact Nat.ne_of_gt (ck2 (by with_reducible assumption)) | exact Nat.ne_of_gt (cj3 (by with_reducible assumption)) | exact Nat.ne_of_gt (ck3 (by with_reducible assumption)) | exact Nat.ne_of_gt (cj4 (by with_reducible assumption)) | exact Nat.ne_of_gt (ck4 (by with_reducible assumption)) | exact Nat.ne_of_gt (cj5 (by with_reducible assumption)) | exact Nat.ne_of_gt (ck5 (by with_reducible assumption)) | exact Nat.ne_of_gt (cj6 (by with_reducible assumption)) | exact Nat.ne_of_gt (ck6 (by with_reducible assumption)) | exact Nat.ne_of_gt (cj7 (by with_reducible assumption)) | exact Nat.ne_of_gt (ck7 (by with_reducible assumption)) | exact Nat.ne_of_gt (cj8 (by with_reducible assumption)) | exact Nat.ne_of_gt (ck8 (by with_reducible assumption)) | exact Nat.ne_of_gt (cj9 (by with_reducible assumption)) | exact Nat.ne_of_gt (ck9 (by with_reducible assumption)) | exact Nat.ne_of_gt (cj10 (by with_reducible assumption)) | exact Nat.ne_of_gt (ck10 (by with_reducible assumption)) | exact Nat.ne_of_gt (cj11 (by with_reducible assumption)) | exact Nat.ne_of_gt (ck11 (by with_reducible assumption)) | exact Nat.ne_of_gt (cj12 (by with_reducible assumption)) | exact Nat.ne_of_gt (ck12 (by with_reducible assumption)) | exact Nat.ne_of_gt (cj13 (by with_reducible assumption)) | exact Nat.ne_of_gt (ck13 (by with_reducible assumption)) | exact Nat.ne_of_gt (cj14 (by with_reducible assumption)) | exact Nat.ne_of_gt (ck14 (by with_reducible assumption)) | exact Nat.ne_of_gt (cj15 (by with_reducible assumption)) | exact Nat.ne_of_gt (ck15 (by with_reducible assumption)) | exact Nat.ne_of_gt (cj16 (by with_reducible assumption)) | exact Nat.ne_of_gt (ck16 (by with_reducible assumption)) | exact Nat.ne_of_lt (cj0 (by with_reducible assumption)) | exact Nat.ne_of_lt (cj1 (by with_reducible assumption)) | exact Nat.ne_of_lt (ck1 (by with_reducible assumption)) | exact Nat.ne_of_lt (cj2 (by with_reducible assumption)) | exact Nat.ne_of_lt (ck2 (by with_reducible assumption)) | exact Nat.ne_of_lt (cj3 (by with_reducible assumption)) | exact Nat.ne_of_lt (ck3 (by with_reducible assumption)) | exact Nat.ne_of_lt (cj4 (by with_reducible assumption)) | exact Nat.ne_of_lt (ck4 (by with_reducible assumption)) | exact Nat.ne_of_lt (cj5 (by with_reducible assumption)) | exact Nat.ne_of_lt (ck5 (by with_reducible assumption)) | exact Nat.ne_of_lt (cj6 (by with_reducible assumption)) | exact Nat.ne_of_lt (ck6 (by with_reducible assumption)) | exact Nat.ne_of_lt (cj7 (by with_reducible assumption)) | exact Nat.ne_of_lt (ck7 (by with_reducible assumption)) | exact Nat.ne_of_lt (cj8 (by with_reducible assumption)) | exact Nat.ne_of_lt (ck8 (by with_reducible assumption)) | exact Nat.ne_of_lt (cj9 (by with_reducible assumption)) | exact Nat.ne_of_lt (ck9 (by with_reducible assumption)) | exact Nat.ne_of_lt (cj10 (by with_reducible assumption)) | exact Nat.ne_of_lt (ck10 (by with_reducible assumption)) | exact Nat.ne_of_lt (cj11 (by with_reducible assumption)) | exact Nat.ne_of_lt (ck11 (by with_reducible assumption)) | exact Nat.ne_of_lt (cj12 (by with_reducible assumption)) | exact Nat.ne_of_lt (ck12 (by with_reducible assumption)) | exact Nat.ne_of_lt (cj13 (by with_reducible assumption)) | exact Nat.ne_of_lt (ck13 (by with_reducible assumption)) | exact Nat.ne_of_lt (cj14 (by with_reducible assumption)) | exact Nat.ne_of_lt (ck14 (by with_reducible assumption)) | exact Nat.ne_of_lt (cj15 (by with_reducible assumption)) | exact Nat.ne_of_lt (ck15 (by with_reducible assumption)) | exact Nat.ne_of_lt (cj16 (by with_reducible assumption)) | exact Nat.ne_of_lt (ck16 (by with_reducible assumption)) | exact ne_gtt (by with_reducible assumption) (cj0 (by with_reducible assumption)) | exact ne_gtt (by with_reducible assumption) (cj1 (by with_reducible assumption)) | exact ne_gtt (by with_reducible assumption) (ck1 (by with_reducible assumption)) | exact ne_gtt (by with_reducible assumption) (cj2 (by with_reducible assumption)) | exact ne_gtt (by with_reducible assumption) (ck2 (by with_reducible assumption)) | exact ne_gtt (by with_reducible assumption) (cj3 (by with_reducible assumption)) | exact ne_gtt (by with_reducible assumption) (ck3 (by with_reducible assumption)) | exact ne_gtt (by with_reducible assumption) (cj4 (by with_reducible assumption)) | exact ne_gtt (by with_reducible assumption) (ck4 (by with_reducible assumption)) | exact ne_gtt (by with_reducible assumption) (cj5 (by with_reducible assumption)) | exact ne_gtt (by with_reducible assumption) (ck5 (by with_reducible assumption)) | exact ne_gtt (by with_reducible assumption) (cj6 (by with_reducible assumption)) | exact ne_gtt (by with_reducible assumption) (ck6 (by with_reducible assumption)) | exact ne_gtt (by with_reducible assumption) (cj7 (by with_reducible assumption)) | exact ne_gtt (by with_reducible assumption) (ck7 (by with_reducible assumption)) | exact ne_gtt (by with_reducible assumption) (cj8 (by with_reducible assumption)) | exact ne_gtt (by with_reducible assumption) (ck8 (by with_reducible assumption)) | exact ne_gtt (by with_reducible assumption) (cj9 (by with_reducible assumption)) | exact ne_gtt (by with_reducible assumption) (ck9 (by with_reducible assumption)) | exact ne_gtt (by with_reducible assumption) (cj10 (by with_reducible assumption)) | exact ne_gtt (by with_reducible assumption) (ck10 (by with_reducible assumption)) | exact ne_gtt (by with_reducible assumption) (cj11 (by with_reducible assumption)) | exact ne_gtt (by with_reducible assumption) (ck11 (by with_reducible assumption)) | exact ne_gtt (by with_reducible assumption) (cj12 (by with_reducible assumption)) | exact ne_gtt (by with_reducible assumption) (ck12 (by with_reducible assumption)) | exact ne_gtt (by with_reducible assumption) (cj13 (by with_reducible assumption)) | exact ne_gtt (by with_reducible assumption) (ck13 (by with_reducible assumption)) | exact ne_gtt (by with_reducible assumption) (cj14 (by with_reducible assumption)) | exact ne_gtt (by with_reducible assumption) (ck14 (by with_reducible assumption)) | exact ne_gtt (by with_reducible assumption) (cj15 (by with_reducible assumption)) | exact ne_gtt (by with_reducible assumption) (ck15 (by with_reducible assumption)) | exact ne_gtt (by with_reducible assumption) (cj16 (by with_reducible assumption)) | exact ne_gtt (by with_reducible assumption) (ck16 (by with_reducible assumption)) | exact ne_ltt (by with_reducible assumption) (cj0 (by with_reducible assumption)) | exact ne_ltt (by with_reducible assumption) (cj1 (by with_reducible assumption)) | exact ne_ltt (by with_reducible assumption) (ck1 (by with_reducible assumption)) | exact ne_ltt (by with_reducible assumption) (cj2 (by with_reducible assumption)) | exact ne_ltt (by with_reducible assumption) (ck2 (by with_reducible assumption)) | exact ne_ltt (by with_reducible assumption) (cj3 (by with_reducible assumption)) | exact ne_ltt (by with_reducible assumption) (ck3 (by with_reducible assumption)) | exact ne_ltt (by with_reducible assumption) (cj4 (by with_reducible assumption)) | exact ne_ltt (by with_reducible assumption) (ck4 (by with_reducible assumption)) | exact ne_ltt (by with_reducible assumption) (cj5 (by with_reducible assumption)) | exact ne_ltt (by with_reducible assumption) (ck5 (by with_reducible assumption)) | exact ne_ltt (by with_reducible assumption) (cj6 (by with_reducible assumption)) | exact ne_ltt (by with_reducible assumption) (ck6 (by with_reducible assumption)) | exact ne_ltt (by with_reducible assumption) (cj7 (by with_reducible assumption)) | exact ne_ltt (by with_reducible assumption) (ck7 (by with_reducible assumption)) | exact ne_ltt (by with_reducible assumption) (cj8 (by with_reducible assumption)) | exact ne_ltt (by with_reducible assumption) (ck8 (by with_reducible assumption)) | exact ne_ltt (by with_reducible assumption) (cj9 (by with_reducible assumption)) | exact ne_ltt (by with_reducible assumption) (ck9 (by with_reducible assumption)) | exact ne_ltt (by with_reducible assumption) (cj10 (by with_reducible assumption)) | exact ne_ltt (by with_reducible assumption) (ck10 (by with_reducible assumption)) | exact ne_ltt (by with_reducible assumption) (cj11 (by with_reducible assumption)) | exact ne_ltt (by with_reducible assumption) (ck11 (by with_reducible assumption)) | exact ne_ltt (by with_reducible assumption) (cj12 (by with_reducible assumption)) | exact ne_ltt (by with_reducible assumption) (ck12 (by with_reducible assumption)) | exact ne_ltt (by with_reducible assumption) (cj13 (by with_reducible assumption)) | exact ne_ltt (by with_reducible assumption) (ck13 (by with_reducible assumption)) | exact ne_ltt (by with_reducible assumption) (cj14 (by with_reducible assumption)) | exact ne_ltt (by with_reducible assumption) (ck14 (by with_reducible assumption)) | exact ne_ltt (by with_reducible assumption) (cj15 (by with_reducible assumption)) | exact ne_ltt (by with_reducible assumption) (ck15 (by with_reducible assumption)) | exact ne_ltt (by with_reducible assumption) (cj16 (by with_reducible assumption)) | exact ne_ltt (by with_reducible assumption) (ck16 (by with_reducible assumption)) | exact (cj0 (by with_reducible assumption)) | exact (cj1 (by with_reducible assumption)) | exact (ck1 (by with_reducible assumption)) | exact (cj2 (by with_reducible assumption)) | exact (ck2 (by with_reducible assumption)) | exact (cj3 (by with_reducible assumption)) | exact (ck3 (by with_reducible assumption)) | exact (cj4 (by with_reducible assumption)) | exact (ck4 (by with_reducible assumption)) | exact (cj5 (by with_reducible assumption)) | exact (ck5 (by with_reducible assumption)) | exact (cj6 (by with_reducible assumption)) | exact (ck6 (by with_reducible assumption)) | exact (cj7 (by with_reducible assumption)) | exact (ck7 (by with_reducible assumption)) | exact (cj8 (by with_reducible assumption)) | exact (ck8 (by with_reducible assumption)) | exact (cj9 (by with_reducible assumption)) | exact (ck9 (by with_reducible assumption)) | exact (cj10 (by with_reducible assumption)) | exact (ck10 (by with_reducible assumption)) | exact (cj11 (by with_reducible assumption)) | exact (ck11 (by with_reducible assumption)) | exact (cj12 (by with_reducible assumption)) | exact (ck12 (by with_reducible assumption)) | exact (cj13 (by with_reducible assumption)) | exact (ck13 (by with_reducible assumption)) | exact (cj14 (by with_reducible assumption)) | exact (ck14 (by with_reducible assumption)) | exact (cj15 (by with_reducible assumption)) | exact (ck15 (by with_reducible assumption)) | exact (cj16 (by with_reducible assumption)) | exact (ck16 (by with_reducible assumption)) | exact Ne.symm (cj0 (by with_reducible assumption)) | exact Ne.symm (cj1 (by with_reducible assumption)) | exact Ne.symm (ck1 (by with_reducible assumption)) | exact Ne.symm (cj2 (by with_reducible assumption)) | exact Ne.symm (ck2 (by with_reducible assumption)) | exact Ne.symm (cj3 (by with_reducible assumption)) | exact Ne.symm (ck3 (by with_reducible assumption)) | exact Ne.symm (cj4 (by with_reducible assumption)) | exact Ne.symm (ck4 (by with_reducible assumption)) | exact Ne.symm (cj5 (by with_reducible assumption)) | exact Ne.symm (ck5 (by with_reducible assumption)) | exact Ne.symm (cj6 (by with_reducible assumption)) | exact Ne.symm (ck6 (by with_reducible assumption)) | exact Ne.symm (cj7 (by with_reducible assumption)) | exact Ne.symm (ck7 (by with_reducible assumption)) | exact Ne.symm (cj8 (by with_reducible assumption)) | exact Ne.symm (ck8 (by with_reducible assumption)) | exact Ne.symm (cj9 (by with_reducible assumption)) | exact Ne.symm (ck9 (by with_reducible assumption)) | exact Ne.symm (cj10 (by with_reducible assumption)) | exact Ne.symm (ck10 (by with_reducible assumption)) | exact Ne.symm (cj11 (by with_reducible assumption)) | exact Ne.symm (ck11 (by with_reducible assumption)) | exact Ne.symm (cj12 (by with_reducible assumption)) | exact Ne.symm (ck12 (by with_reducible assumption)) | exact Ne.symm (cj13 (by with_reducible assumption)) | exact Ne.symm (ck13 (by with_reducible assumption)) | exact Ne.symm (cj14 (by with_reducible assumption)) | exact Ne.symm (ck14 (by with_reducible assumption)) | exact Ne.symm (cj15 (by with_reducible assumption)) | exact Ne.symm (ck15 (by with_reducible assumption)) | exact Ne.symm (cj16 (by with_reducible assumption)) | exact Ne.symm (ck16 (by with_reducible assumption)) | exact (cj0 (cj0 (by with_reducible assumption))) | exact (cj1 (cj0 (by with_reducible assumption))) | exact (ck2 (cj0 (by with_reducible assumption))) | exact (cj0 (cj1 (by with_reducible assumption))) | exact (cj1 (cj1 (by with_reducible assumption))) | exact (ck2 (cj1 (by with_reducible assumption))) | exact (cj0 (ck1 (by with_reducible assumption))) | exact (cj1 (ck1 (by with_reducible assumption))) | exact (ck2 (ck1 (by with_reducible assumption))) | exact (cj0 (cj2 (by with_reducible assumption))) | exact (cj1 (cj2 (by with_reducible assumption))) | exact (ck2 (cj2 (by with_reducible assumption))) | exact (cj0 (ck2 (by with_reducible assumption))) | exact (cj1 (ck2 (by with_reducible assumption))) | exact (ck2 (ck2 (by with_reducible assumption))) | exact (cj0 (cj3 (by with_reducible assumption))) | exact (cj1 (cj3 (by with_reducible assumption))) | exact (ck2 (cj3 (by with_reducible assumption))) | exact (cj0 (ck3 (by with_reducible assumption))) | exact (cj1 (ck3 (by with_reducible assumption))) | exact (ck2 (ck3 (by with_reducible assumption))) | exact (cj0 (cj4 (by with_reducible assumption))) | exact (cj1 (cj4 (by with_reducible assumption))) | exact (ck2 (cj4 (by with_reducible assumption))) | exact (cj0 (ck4 (by with_reducible assumption))) | exact (cj1 (ck4 (by with_reducible assumption))) | exact (ck2 (ck4 (by with_reducible assumption))) | exact (cj0 (cj5 (by with_reducible assumption))) | exact (cj1 (cj5 (by with_reducible assumption))) | exact (ck2 (cj5 (by with_reducible assumption))) | exact (cj0 (ck5 (by with_reducible assumption))) | exact (cj1 (ck5 (by with_reducible assumption))) | exact (ck2 (ck5 (by with_reducible assumption))) | exact (cj0 (cj6 (by with_reducible assumption))) | exact (cj1 (cj6 (by with_reducible assumption))) | exact (ck2 (cj6 (by with_reducible assumption))) | exact (cj0 (ck6 (by with_reducible assumption))) | exact (cj1 (ck6 (by with_reducible assumption))) | exact (ck2 (ck6 (by with_reducible assumption))) | exact (cj0 (cj7 (by with_reducible assumption))) | exact (cj1 (cj7 (by with_reducible assumption))) | exact (ck2 (cj7 (by with_reducible assumption))) | exact (cj0 (ck7 (by with_reducible assumption))) | exact (cj1 (ck7 (by with_reducible assumption))) | exact (ck2 (ck7 (by with_reducible assumption))) | exact (cj0 (cj8 (by with_reducible assumption))) | exact (cj1 (cj8 (by with_reducible assumption))) | exact (ck2 (cj8 (by with_reducible assumption))) | exact (cj0 (ck8 (by with_reducible assumption))) | exact (cj1 (ck8 (by with_reducible assumption))) | exact (ck2 (ck8 (by with_reducible assumption))) | exact Ne.symm (cj0 (cj0 (by with_reducible assumption))) | exact Ne.symm (cj1 (cj0 (by with_reducible assumption))) | exact Ne.symm (ck2 (cj0 (by with_reducible assumption))) | exact Ne.symm (cj0 (cj1 (by with_reducible assumption))) | exact Ne.symm (cj1 (cj1 (by with_reducible assumption))) | exact Ne.symm (ck2 (cj1 (by with_reducible assumption))) | exact Ne.symm (cj0 (ck1 (by with_reducible assumption))) | exact Ne.symm (cj1 (ck1 (by with_reducible assumption))) | exact Ne.symm (ck2 (ck1 (by with_reducible assumption))) | exact Ne.symm (cj0 (cj2 (by with_reducible assumption))) | exact Ne.symm (cj1 (cj2 (by with_reducible assumption))) | exact Ne.symm (ck2 (cj2 (by with_reducible assumption))) | exact Ne.symm (cj0 (ck2 (by with_reducible assumption))) | exact Ne.symm (cj1 (ck2 (by with_reducible assumption))) | exact Ne.symm (ck2 (ck2 (by with_reducible assumption))) | exact Ne.symm (cj0 (cj3 (by with_reducible assumption))) | exact Ne.symm (cj1 (cj3 (by with_reducible assumption))) | exact Ne.symm (ck2 (cj3 (by with_reducible assumption))) | exact Ne.symm (cj0 (ck3 (by with_reducible assumption))) | exact Ne.symm (cj1 (ck3 (by with_reducible assumption))) | exact Ne.symm (ck2 (ck3 (by with_reducible assumption))) | exact Ne.symm (cj0 (cj4 (by with_reducible assumption))) | exact Ne.symm (cj1 (cj4 (by with_reducible assumption))) | exact Ne.symm (ck2 (cj4 (by with_reducible assumption))) | exact Ne.symm (cj0 (ck4 (by with_reducible assumption))) | exact Ne.symm (cj1 (ck4 (by with_reducible assumption))) | exact Ne.symm (ck2 (ck4 (by with_reducible assumption))) | exact Ne.symm (cj0 (cj5 (by with_reducible assumption))) | exact Ne.symm (cj1 (cj5 (by with_reducible assumption))) | exact Ne.symm (ck2 (cj5 (by with_reducible assumption))) | exact Ne.symm (cj0 (ck5 (by with_reducible assumption))) | exact Ne.symm (cj1 (ck5 (by with_reducible assumption))) | exact Ne.symm (ck2 (ck5 (by with_reducible assumption))) | exact Ne.symm (cj0 (cj6 (by with_reducible assumption))) | exact Ne.symm (cj1 (cj6 (by with_reducible assumption))) | exact Ne.symm (ck2 (cj6 (by with_reducible assumption))) | exact Ne.symm (cj0 (ck6 (by with_reducible assumption))) | exact Ne.symm (cj1 (ck6 (by with_reducible assumption))) | exact Ne.symm (ck2 (ck6 (by with_reducible assumption))) | exact Ne.symm (cj0 (cj7 (by with_reducible assumption))) | exact Ne.symm (cj1 (cj7 (by with_reducible assumption))) | exact Ne.symm (ck2 (cj7 (by with_reducible assumption))) | exact Ne.symm (cj0 (ck7 (by with_reducible assumption))) | exact Ne.symm (cj1 (ck7 (by with_reducible assumption))) | exact Ne.symm (ck2 (ck7 (by with_reducible assumption))) | exact Ne.symm (cj0 (cj8 (by with_reducible assumption))) | exact Ne.symm (cj1 (cj8 (by with_reducible assumption))) | exact Ne.symm (ck2 (cj8 (by with_reducible assumption))) | exact Ne.symm (cj0 (ck8 (by with_reducible assumption))) | exact Ne.symm (cj1 (ck8 (by with_reducible assumption))) | exact Ne.symm (ck2 (ck8 (by with_reducible assumption)))))
  refine wpAny_call ?_
  k_dflt (refine' code_hide (binds := [(Str.ofString "header_values", Value.ref ll)]) ?k1 ?k2 ?k3 ?k5 ?kN ?kA ?kF ?kK ?k6 ?k7 ?k8 ?k9 ?kB ?_ ?c2 ?c3 ?c4 ?c5; (case kA => exact rfl); (case kF => exact rfl); (case kK => assumption); (case k1 => k_asm); (case k2 => k_asm); (case k3 => k_asm); (case k5 => k_asm); (case kN => k_asm); (case k6 => k_is); (case k7 => k_is); (case k8 => ktr_room); (case k9 => exact BindsTo.of_eq rfl); (case c5 => decide); (case kB => exact locs rfl); (case c2 => exact rfl); (case c3 => exact rfl); (case c4 => exact rfl); k_whole; intro L' h' F' N' B' X' T' l1; (try dsimp only); (try k_fold))
  k_lt l1
  have codeHd := codeHd_split X'
  generalize hG : hideAll s.heap (List.map (fun x => x.1) [(65, tabObj #[rawInt (26 : Nat), rawInt (49 : Nat), .ref c9])]) = G at F' N' B' X' T' codeHd
  have hG' : hideAll s.heap [65] = G := hG
  rw [hG'] at k1 hh9 hc9
  k_steps
  all_goals (refine hret _ _ _ (hide_but (by rw [hG']; exact Fr.keep (by assumption))) ?_ ?_)
  · exact News.get (by assumption) (by k_mem)
  · exact split_out hG' (by assumption) (by k_mem) (by k_mem) (by k_mem) (by k_mem) (by omega) (by omega) (by omega) (by omega) hkk ext_v
end Mine
end
section
open PySem PySem.W PySem.Calls PyProof.Rows
set_option maxHeartbeats 2500000
namespace Mine
theorem rstrip_is {prog : Program} {w : World} {A : Around} {E : Value → Shared → Prop} {s : Shared} {x v : Str} {t : Tok} {Q : Value → Shared → Prop} (e : Txt.rstrip x = v) (hsz : x.length ≤ 900000) (h : ∀ t' k, Q (.str v t') { s with toks := k }) : wpAny (model prog w) A (call (.builtin "str.rstrip") [.str x t]) Q E s := by
  subst e
  exact SCL.rstrip (hsz := by rw [sizeLine_eq]; omega) (fun t' k _ => h t' k)
theorem split_out0 {h h' : Heap} {L r pl a1 a2 : Addr} {news : List (Addr × Obj)} {n1 n2 : Nat} {t1 t2 t3 : Tok} {v k1 k2 : Str} (N : News h L h' news) (m1 : (r, W.listOf [Value.ref pl].toArray n1) ∈ news) (m2 : (pl, W.listOf [Value.ref a1, Value.ref a2].toArray n2) ∈ news)
    (m3 : (a1, tupO [.str k1 t1, .str v t2]) ∈ news) (m4 : (a2, tupO [.str k2 t3, .none]) ∈ news) (e1 : k1 = Str.ofString "k") (e2 : k2 = Str.ofString "v") : SplitOut h h' r v := by
  subst e1 e2
  exact ⟨pl, a1, a2, n1, n2, t1, t2, t3, ⟨(N _ m1).2.2, (N _ m2).2.2, (N _ m3).2.2, (N _ m4).2.2⟩, (N _ m1).1, (N _ m2).1, (N _ m3).1, (N _ m4).1⟩
theorem split_bare {prog : Program} {w : World} {hd9 : Option Value} {dp un : Nat} {gd : Option (List Code)} {cn : Str} {cs : Scope} {a : Addr} {ccd : Value} {cl : List (Str × Addr)} {outer : List Env} {A₀ : Around} {base h₀ : Heap} {L : Addr} {m mg mb : Str → Option Value} {p : Program} {loose : List Str} {mean : ExcName → Option Value}
   {s : Shared} {Q E : Value → Shared → Prop} {ll : Addr} {x y : Str} {l : List Nat} {t1 : Tok} {e1 e2 : Nat}
   (B : Below A₀ base outer h₀) (F : Fr h₀ L s.heap m) (X : (hd.heap_39 w.params).In h₀) (T : Top p loose mean mg mb h₀) (hk : cs.kind = .function)
   (hdp : dp + 3 < recursionLimit) (hun : un + 300 < cLine) (hh9 : HandOk hd9 s.heap)
   (k1 : s.heap.IsList ll [Value.str x t1].toArray)
   (hl : x.length < 100000) (hx1 : 0 < x.length) (hx1' : 1 ≤ x.length) (hyl : y.length < 100000)
   (hw1 : KeyHit x 1 0 1) (hd1 : S (x.cps.toList.drop 1) = y) (hw2 : QuoMiss y) (hw3 : ValHit y e1 1 e2) (b3 : e1 ≤ y.length)
   (hd2 : S (y.cps.toList.drop e1) = S [59, 32, 118]) (hvl : (⟨y.cps.extract 1 e2⟩ : Str).length ≤ 900000) (hrs : Txt.rstrip ⟨y.cps.extract 1 e2⟩ = S l) (hkk : (⟨x.cps.extract 0 1⟩ : Str) = Str.ofString "k")
   (hret : ∀ r h' tk', Stays s.heap h' → SplitOut s.heap h' r (S l) → Q (.ref r) { s with heap := h', toks := tk' }) :
   wpAny (model prog w) (topA hd9 dp un gd cn cs L a ccd cl outer) (call (.ref 70) [.ref ll]) Q E s := by
  k_with_none
  w_top off
  (k_with "my exec For Name Name cons nil" => k_search (by ((k_here; k_dflt (refine wpAny_For ?_ (by intro _; rfl))))))
  (k_with "my pyIter ref" => k_search (by ((k_here; k_dflt (refine' for_list ?zzF ?zzN ?zzl ?_; (case zzF => k_asm); (case zzN => k_asm); (case zzl => is_list); intro zzI9 zzh9 zzF9 zzN9 zzne9; k_lt zzne9; (try k_sweep); (try dsimp only))))))
  (k_with "my ForEnd" => k_search (by ((with_unfolding_all (show ForAt _ _ _ _ _ _ _ _ _ _)))))
  (k_with "my mine del" => k_search (by (first | exact Del.nil | (refine' Del.skip ?zza; (case zza => walk_at "mine del")) | (refine' Del.keep ?zza ?zzb; (case zza => k_ne); (case zzb => walk_at "mine del")))))
  (k_with "my assign Tuple" => k_search (by ((k_here; k_dflt (refine' assign_pair ?zzh ?zzt ?zzn ?_; (case zzh => first | exact .inl rfl | exact hand_now (by assumption) (by k_asm)); (case zzt => first | exact tuple_of_news (by k_asm) (by k_mem) | exact tuple_now (by assumption) (by k_asm)); (case zzn => rfl); intro zzh9 zzK9; (have zzF9 := fr_on (by k_asm) zzK9); (have zzN9 := news_on (by k_asm) zzK9); clear zzK9; (try k_sweep); (try dsimp only))))))
  (k_with "my ForAt" => k_search (by ((k_here; k_dflt (first
  | (refine' forAt_item ?zzF ?zzN ?zzU ?zzl ?zzx ?zzt ?_; (case zzF => k_asm); (case zzN => k_asm); (case zzU => k_upd); (case zzl => is_list); (case zzx => rfl); (case zzt => intro _; rfl); intro zzh9 zzF9 zzN9; (try k_sweep); (try dsimp only))
  | (refine' forAt_itemT ?zzF ?zzN ?zzU ?zzl ?zzx ?_; (case zzF => k_asm); (case zzN => k_asm); (case zzU => k_upd); (case zzl => is_list); (case zzx => rfl); intro zzh9 zzF9 zzN9; (try k_sweep); (try dsimp only))
  | (refine' forAt_end ?zzF ?zzN ?zzU ?zzD ?zzl ?zzx ?zzhh ?_; (case zzF => k_asm); (case zzN => k_asm); (case zzU => k_mem); (case zzD => walk_at "mine del"); (case zzl => is_list); (case zzx => rfl); (case zzhh => first | exact .inl rfl | exact hand_now (by assumption) (by k_asm)); intro zzh9 zzF9 zzN9; (try k_sweep); (try dsimp only)))))))
  (k_with "my WhlIf" => k_search (by (first | (refine WhlIf.yes (len_ne (by assumption)) ?_) | (refine WhlIf.yes (by decide) ?_) | (refine WhlIf.no (by decide) ?_))))
  (k_with "my truthy ref" => k_search (by ((k_here; k_dflt (refine truthy_mat (mat_of_news (by k_asm) (by k_mem) (by k_mem)) ?_)))))
  (k_with "my getMethod ref" => k_search (by ((k_here; k_dflt (first
  | ((with_reducible show wpAny _ _ (getMethod (Value.ref 48) _ _) _ _ _); refine pat_method (pat_key (by k_in)) Fc.slot_search Fc.type_search ?_)
  | ((with_reducible show wpAny _ _ (getMethod (Value.ref 53) _ _) _ _ _); refine pat_method (pat_quo (by k_in)) Fc.slot_search Fc.type_search ?_)
  | ((with_reducible show wpAny _ _ (getMethod (Value.ref 58) _ _) _ _ _); refine pat_method (pat_val (by k_in)) Fc.slot_search Fc.type_search ?_)
  | ((with_reducible show wpAny _ _ (getMethod (Value.ref 63) _ _) _ _ _); refine pat_method (pat_une (by k_in)) Fc.slot_sub Fc.type_sub ?_)
  | ((with_reducible show wpAny _ _ (getMethod (Value.ref 36) _ _) _ _ _); refine pat_method (pat_junk (by k_in)) Fc.slot_subn Fc.type_subn ?_)
  | ((with_reducible show wpAny _ _ (getMethod _ (Str.ofString "group") _) _ _ _); refine mat_method (mat_of_news (by k_asm) (by k_mem) (by k_mem)) Fc.slot_group Fc.type_group ?_))))))
  (k_with "my call builtin:list.append" => k_search (by ((k_here; (with_reducible show wpAny _ _ (call (Value.builtin _) [Value.ref _, _]) _ _ _); k_dflt (refine' append_K ?zzk1 ?zzk2 ?zzk3 ?_ ?zzz; (case zzk1 => k_asm); (case zzk2 => k_asm); (case zzk3 => k_upd); (case zzz => size_fits); k_whole); intro h' F' N'; (try k_sweep)))))
  (k_with "my mine hit" => k_search (by ((intro zzta9 zzmo9 zzh9 zzK9 zzht9 zzhm9 zzq9 zzr9; (have zzl9 := news_lt (by k_asm) zzht9); k_lt zzl9; (have zzN9 := news_add (by k_asm) (news_add (by k_asm) (news_on (by k_asm) zzK9) (get_past zzht9) zzq9) (get_past (Nat.le_trans zzht9 (Nat.le_of_lt zzhm9))) zzr9); (have zzF9 := fr_on (by k_asm) zzK9); clear zzK9 zzht9 zzq9 zzr9; (try k_sweep); (try dsimp only)))))
  (k_with "my call builtin:re.Pattern.search" => k_search (by ((k_here; k_dflt (first
  | ((with_reducible show wpAny _ _ (PySem.call _ [Value.ref 48, _]) _ _ _); first
    | (refine' key_srch ?zzP ?zzw ?_; (case zzw => first | assumption | exact hit_v); (case zzP => exact pat_key (by k_in)); walk_at "mine hit")
    | (refine' key_miss ?zzP ?zzw ?_; (case zzw => exact miss_semi); (case zzP => exact pat_key (by k_in)); (try dsimp only)))
  | ((with_reducible show wpAny _ _ (PySem.call _ [Value.ref 53, _]) _ _ _); first
    | (refine' quo_srch ?zzP ?zzw ?_; (case zzw => assumption); (case zzP => exact pat_quo (by k_in)); walk_at "mine hit")
    | (refine' quo_miss ?zzP ?zzw ?_; (case zzw => first | assumption | exact quo_nil); (case zzP => exact pat_quo (by k_in)); (try dsimp only)))
  | ((with_reducible show wpAny _ _ (PySem.call _ [Value.ref 58, _]) _ _ _); first
    | (refine' val_srch ?zzP ?zzw ?_; (case zzw => assumption); (case zzP => exact pat_val (by k_in)); walk_at "mine hit")
    | (refine' val_miss ?zzP ?zzw ?_; (case zzw => exact val_nil); (case zzP => exact pat_val (by k_in)); (try dsimp only))))))))
  (k_with "my call ref" => k_search (by ((k_here; k_dflt (refine' unmatched_spec ?zzk1 ?zzk2 ?zzk3 ?zzk5 ?zzkK ?zzd ?zzu ?zzhh ?zzhm ?zzs1 ?zzs2 ?_; (case zzk1 => k_asm); (case zzk2 => k_asm); (case zzk3 => k_asm); (case zzk5 => k_asm); (case zzkK => first | exact rfl | assumption); (case zzhh => first | exact .inl rfl | exact hand_now (by assumption) (by k_asm)); (case zzhm => exact mat_of_news (by k_asm) (by k_mem) (by k_mem)); (case zzd => ktr_room); (case zzu => ktr_units); (case zzs1 => first | decide | omega); (case zzs2 => first | assumption | decide | omega); intro zzr9 zzt9 zzh9 zztk9 zzK9 zze9; (have zze8 := zze9.trans (by first | assumption | exact drop_v)); subst zze8; clear zze9; (have zzF9 := fr_on (by k_asm) zzK9); (have zzN9 := news_on (by k_asm) zzK9); clear zzK9; (try k_sweep); (try dsimp only))))))
  (k_with "my call builtin:re.Match.group" => k_search (by ((k_here; k_dflt (refine call_group1 (mat_of_news (by k_asm) (by k_mem) (by k_mem)) (by rw [sizeLine_eq]; first | decide | omega) ?_; (try dsimp only))))))
  (k_with "my call builtin:re.Pattern.sub" => k_search (by ((k_here; k_dflt (refine' sub_une ?zzB ?zzF ?zzX ?zzT ?zzA ?zzf ?zzk ?zzo ?zzc ?zzr ?zzx ?zzun ?_; (case zzB => k_asm); (case zzF => k_asm); (case zzX => k_asm); (case zzT => k_asm); (case zzA => exact rfl); (case zzf => exact rfl); (case zzk => exact rfl); (case zzo => exact News.get (by k_asm) (by k_mem)); (case zzc => first | exact codeRec_news (by k_asm) (by k_mem) (by assumption) (by assumption) | exact Heap.CodeRec.keeps (by assumption) (Fr.keep (by k_asm))); (case zzr => ktr_room); (case zzx => assumption); (case zzun => assumption); intro zzr9 zzt9 zzh9 zztk9 zzK9 zze9; subst zze9; (have zzF9 := fr_on (by k_asm) zzK9); (have zzN9 := news_on (by k_asm) zzK9); clear zzK9; (try k_sweep); (try dsimp only))))))
  (k_with "my call builtin:re.Pattern.subn" => k_search (by ((k_here; k_dflt (refine call_subn (pat_junk (by k_in)) ?_; intro zzx9 zzt9 zzv9 zzh9 zztk9 zzK9 zzhx9 zzhy9; (have zzl9 := news_lt (by k_asm) zzhx9); k_lt zzl9; (have zzN9 := news_more (by k_asm) (by k_asm) zzK9 (get_past zzhx9) zzhy9); (have zzF9 := fr_on (by k_asm) zzK9); clear zzK9 zzhx9 zzhy9; (try k_sweep); (try dsimp only))))))
  (k_with "my call builtin:str.rstrip" => k_search (by ((k_here; k_dflt (refine rstrip_is (by assumption) (by assumption) ?_; intro zzt9 zzk9; (try dsimp only))))))
  (k_with "my ne" => (first | exact Nat.ne_of_beq_eq_false rfl | exact Nat.ne_of_lt (by with_reducible assumption) | exact Nat.ne_of_gt (by with_reducible assumption) | with_reducible assumption | exact Ne.symm (by with_reducible assumption) | exact Nat.ne_of_gt (cj0 (by with_reducible assumption)) | exact Nat.ne_of_gt (cj1 (by with_reducible assumption)) | exact Nat.ne_of_gt (ck1 (by with_reducible assumption)) | exact Nat.ne_of_gt (cj2 (by with_reducible assumption)) | exact Nat.ne_of_gt (ck2 (by with_reducible assumption)) | exact Nat.ne_of_gt (cj3 (by with_reducible assumption)) | exact Nat.ne_of_gt (ck3 (by with_reducible assumption)) | exact Nat.ne_of_gt (cj4 (by with_reducible assumption)) | exact Nat.ne_of_gt (ck4 (by with_reducible assumption)) | exact Nat.ne_of_gt (cj5 (by with_reducible assumption)) | exact Nat.ne_of_gt (ck5 (by with_reducible assumption)) | exact Nat.ne_of_gt (cj6 (by with_reducible assumption)) | exact Nat.ne_of_gt (ck6 (by with_reducible assumption)) | exact Nat.ne_of_gt (cj7 (by with_reducible assumption)) | exact Nat.ne_of_gt (ck7 (by with_reducible assumption)) | exact Nat.ne_of_gt (cj8 (by with_reducible assumption)) | exact Nat.ne_of_gt (ck8 (by with_reducible assumption)) | exact Nat.ne_of_gt (cj9 (by with_reducible assumption)) | exact Nat.ne_of_gt (ck9 (by with_reducible assumption)) | exact Nat.ne_of_gt (cj10 (by with_reducible assumption)) | exact Nat.ne_of_gt (ck10 (by with_reducible assumption)) | exact Nat.ne_of_gt (cj11 (by with_reducible assumption)) | exact Nat.ne_of_gt (ck11 (by with_reducible assumption)) | exact Nat.ne_of_gt (cj12 (by with_reducible assumption)) | exact Nat.ne_of_gt (ck12 (by with_reducible assumption)) | exact Nat.ne_of_gt (cj13 (by with_reducible assumption)) | exact Nat.ne_of_gt (ck13 (by with_reducible assumption)) | exact Nat.ne_of_gt (cj14 (by with_reducible assumption)) | exact Nat.ne_of_gt (ck14 (by with_reducible assumption)) | exact Nat.ne_of_gt (cj15 (by with_reducible assumption)) | exact Nat.ne_of_gt (ck15 (by with_reducible assumption)) | exact Nat.ne_of_gt (cj16 (by with_reducible assumption)) | exact Nat.ne_of_gt (ck16 (by with_reducible assumption)) | exact Nat.ne_of_lt (cj0 (by with_reducible assumption)) | exact Nat.ne_of_lt (cj1 (by with_reducible assumption)) | exact Nat.ne_of_lt (ck1 (by with_reducible assumption)) | exact Nat.ne_of_lt (cj2 (by with_reducible assumption)) | exact Nat.ne_of_lt (ck2 (by with_reducible assumption)) | exact Nat.ne_of_lt (cj3 (by with_reducible assumption)) | exact Nat.ne_of_lt (ck3 (by with_reducible assumption)) | exact Nat.ne_of_lt (cj4 (by with_reducible assumption)) | exact Nat.ne_of_lt (ck4 (by with_reducible assumption)) | exact Nat.ne_of_lt (cj5 (by with_reducible assumption)) | exact Nat.ne_of_lt (ck5 (by with_reducible assumption)) | exact Nat.ne_of_lt (cj6 (by with_reducible assumption)) | exact Nat.ne_of_lt (ck6 (by with_reducible assumption)) | exact Nat.ne_of_lt (cj7 (by with_reducible assumption)) | exact Nat.ne_of_lt (ck7 (by with_reducible assumption)) | exact Nat.ne_of_lt (cj8 (by with_reducible assumption)) | exact Nat.ne_of_lt (ck8 (by with_reducible assumption)) | exact Nat.ne_of_lt (cj9 (by with_reducible assumption)) | exact Nat.ne_of_lt (ck9 (by with_reducible assumption)) | exact Nat.ne_of_lt (cj10 (by with_reducible assumption)) | exact Nat.ne_of_lt (ck10 (by with_reducible assumption)) | exact Nat.ne_of_lt (cj11 (by with_reducible assumption)) | exact Nat.ne_of_lt (ck11 (by with_reducible assumption)) | exact Nat.ne_of_lt (cj12 (by with_reducible assumption)) | exact Nat.ne_of_lt (ck12 (by with_reducible assumption)) | exact Nat.ne_of_lt (cj13 (by with_reducible assumption)) | exact Nat.ne_of_lt (ck13 (by with_reducible assumption)) | exact Nat.ne_of_lt (cj14 (by with_reducible assumption)) | exact Nat.ne_of_lt (ck14 (by with_reducible assumption)) | exact Nat.ne_of_lt (cj15 (by with_reducible assumption)) | exact Nat.ne_of_lt (ck15 (by with_reducible assumption)) | exact Nat.ne_of_lt (cj16 (by with_reducible assumption)) | exact Nat.ne_of_lt (ck16 (by with_reducible assumption)) | exact ne_gtt (by with_reducible assumption) (cj0 (by with_reducible assumption)) | exact ne_gtt (by with_reducible assumption) (cj1 (by with_reducible assumption)) | exact ne_gtt (by with_reducible assumption) (ck1 (by with_reducible assumption)) | exact ne_gtt (by with_reducible assumption) (cj2 (by with_reducible assumption)) | exact ne_gtt (by with_reducible assumption) (ck2 (by with_reducible assumption)) | exact ne_gtt (by with_reducible assumption) (cj3 (by with_reducible assumption)) | exact ne_gtt (by with_reducible assumption) (ck3 (by with_reducible assumption)) | exact ne_gtt (by with_reducible assumption) (cj4 (by with_reducible assumption)) | exact ne_gtt (by with_reducible assumption) (ck4 (by with_reducible assumption)) | exact ne_gtt (by with_reducible assumption) (cj5 (by with_reducible assumption)) | exact ne_gtt (by with_reducible assumption) (ck5 (by with_reducible assumption)) | exact ne_gtt (by with_reducible assumption) (cj6 (by with_reducible assumption)) | exact ne_gtt (by with_reducible assumption) (ck6 (by with_reducible assumption)) | exact ne_gtt (by with_reducible assumption) (cj7 (by with_reducible assumption)) | exact ne_gtt (by with_reducible assumption) (ck7 (by with_reducible assumption)) | exact ne_gtt (by with_reducible assumption) (cj8 (by with_reducible assumption)) | exact ne_gtt (by with_reducible assumption) (ck8 (by with_reducible assumption)) | exact ne_gtt (by with_reducible assumption) (cj9 (by with_reducible assumption)) | exact ne_gtt (by with_reducible assumption) (ck9 (by with_reducible assumption)) | exact ne_gtt (by with_reducible assumption) (cj10 (by with_reducible assumption)) | exact ne_gtt (by with_reducible assumption) (ck10 (by with_reducible assumption)) | exact ne_gtt (by with_reducible assumption) (cj11 (by with_reducible assumption)) | exact ne_gtt (by with_reducible assumption) (ck11 (by with_reducible assumption)) | exact ne_gtt (by with_reducible assumption) (cj12 (by with_reducible assumption)) | exact ne_gtt (by with_reducible assumption) (ck12 (by with_reducible assumption)) | exact ne_gtt (by with_reducible assumption) (cj13 (by with_reducible assumption)) | exact ne_gtt (by with_reducible assumption) (ck13 (by with_reducible assumption)) | exact ne_gtt (by with_reducible assumption) (cj14 (by with_reducible assumption)) | exact ne_gtt (by with_reducible assumption) (ck14 (by with_reducible assumption)) | exact ne_gtt (by with_reducible assumption) (cj15 (by with_reducible assumption)) | exact ne_gtt (by with_reducible assumption) (ck15 (by with_reducible assumption)) | exact ne_gtt (by with_reducible assumption) (cj16 (by with_reducible assumption)) | exact ne_gtt (by with_reducible assumption) (ck16 (by with_reducible assumption)) | exact ne_ltt (by with_reducible assumption) (cj0 (by with_reducible assumption)) | exact ne_ltt (by with_reducible assumption) (cj1 (by with_reducible assumption)) | exact ne_ltt (by with_reducible assumption) (ck1 (by with_reducible assumption)) | exact ne_ltt (by with_reducible assumption) (cj2 (by with_reducible assumption)) | exact ne_ltt (by with_reducible assumption) (ck2 (by with_reducible assumption)) | exact ne_ltt (by with_reducible assumption) (cj3 (by with_reducible assumption)) | exact ne_ltt (by with_reducible assumption) (ck3 (by with_reducible assumption)) | exact ne_ltt (by with_reducible assumption) (cj4 (by with_reducible assumption)) | exact ne_ltt (by with_reducible assumption) (ck4 (by with_reducible assumption)) | exact ne_ltt (by with_reducible assumption) (cj5 (by with_reducible assumption)) | exact ne_ltt (by with_reducible assumption) (ck5 (by with_reducible assumption)) | exact ne_ltt (by with_reducible assumption) (cj6 (by with_reducible assumption)) | exact ne_ltt (by with_reducible assumption) (ck6 (by with_reducible assumption)) | exact ne_ltt (by with_reducible assumption) (cj7 (by with_reducible assumption)) | exact ne_ltt (by with_reducible assumption) (ck7 (by with_reducible assumption)) | exact ne_ltt (by with_reducible assumption) (cj8 (by with_reducible assumption)) | exact ne_ltt (by with_reducible assumption) (ck8 (by with_reducible assumption)) | exact ne_ltt (by with_reducible assumption) (cj9 (by with_reducible assumption)) | exact ne_ltt (by with_reducible assumption) (ck9 (by with_reducible assumption)) | exact ne_ltt (by with_reducible assumption) (cj10 (by with_reducible assumption)) | exact ne_ltt (by with_reducible assumption) (ck10 (by with_reducible assumption)) | exact ne_ltt (by with_reducible assumption) (cj11 (by with_reducible assumption)) | exact ne_ltt (by with_reducible assumption) (ck11 (by with_reducible assumption)) | exact ne_ltt (by with_reducible assumption) (cj12 (by with_reducible assumption)) | exact ne_ltt (by with_reducible assumption) (ck12 (by with_reducible assumption)) | exact ne_ltt (by with_reducible assumption) (cj13 (by with_reducible assumption)) | exact ne_ltt (by with_reducible assumption) (ck13 (by with_reducible assumption)) | exact ne_ltt (by with_reducible assumption) (cj14 (by with_reducible assumption)) | exact ne_ltt (by with_reducible assumption) (ck14 (by with_reducible assumption)) | exact ne_ltt (by with_reducible assumption) (cj15 (by with_reducible assumption)) | exact ne_ltt (by with_reducible assumption) (ck15 (by with_reducible assumption)) | exact ne_ltt (by with_reducible assumption) (cj16 (by with_reducible assumption)) | exact ne_ltt (by with_reducible assumption) (ck16 (by with_reducible assumption)) | exact (cj0 (by with_reducible assumption)) | exact (cj1 (by with_reducible assumption)) | exact (ck1 (by with_reducible assumption)) | exact (cj2 (by with_reducible assumption)) | exact (ck2 (by with_reducible assumption)) | exact (cj3 (by with_reducible assumption)) | exact (ck3 (by with_reducible assumption)) | exact (cj4 (by with_reducible assumption)) | exact (ck4 (by with_reducible assumption)) | exact (cj5 (by with_reducible assumption)) | exact (ck5 (by with_reducible assumption)) | exact (cj6 (by with_reducible assumption)) | exact (ck6 (by with_reducible assumption)) | exact (cj7 (by with_reducible assumption)) | exact (ck7 (by with_reducible assumption)) | exact (cj8 (by with_reducible assumption)) | exact (ck8 (by with_reducible assumption)) | exact (cj9 (by with_reducible assumption)) | exact (ck9 (by with_reducible assumption)) | exact (cj10 (by with_reducible assumption)) | exact (ck10 (by with_reducible assumption)) | exact (cj11 (by with_reducible assumption)) | exact (ck11 (by with_reducible assumption)) | exact (cj12 (by with_reducible assumption)) | exact (ck12 (by with_reducible assumption)) | exact (cj13 (by with_reducible assumption)) | exact (ck13 (by with_reducible assumption)) | exact (cj14 (by with_reducible assumption)) | exact (ck14 (by with_reducible assumption)) | exact (cj15 (by with_reducible assumption)) | exact (ck15 (by with_reducible assumption)) | exact (cj16 (by with_reducible assumption)) | exact (ck16 (by with_reducible assumption)) | exact Ne.symm (cj0 (by with_reducible assumption)) | exact Ne.symm (cj1 (by with_reducible assumption)) | exact Ne.symm (ck1 (by with_reducible assumption)) | exact Ne.symm (cj2 (by with_reducible assumption)) | exact Ne.symm (ck2 (by with_reducible assumption)) | exact Ne.symm (cj3 (by with_reducible assumption)) | exact Ne.symm (ck3 (by with_reducible assumption)) | exact Ne.symm (cj4 (by with_reducible assumption)) | exact Ne.symm (ck4 (by with_reducible assumption)) | exact Ne.symm (cj5 (by with_reducible assumption)) | exact Ne.symm (ck5 (by with_reducible assumption)) | exact Ne.symm (cj6 (by with_reducible assumption)) | exact Ne.symm (ck6 (by with_reducible assumption)) | exact Ne.symm (cj7 (by with_reducible assumption)) | exact Ne.symm (ck7 (by with_reducible assumption)) | exact Ne.symm (cj8 (by with_reducible assumption)) | exact Ne.symm (ck8 (by with_reducible assumption)) | exact Ne.symm (cj9 (by with_reducible assumption)) | exact Ne.symm (ck9 (by with_reducible assumption)) | exact Ne.symm (cj10 (by with_reducible assumption)) | exact Ne.symm (ck10 (by with_reducible assumption)) | exact Ne.symm (cj11 (by with_reducible assumption)) | exact Ne.symm (ck11 (by with_reducible assumption)) | exact Ne.symm (cj12 (by with_reducible assumption)) | exact Ne.symm (ck12 (by with_reducible assumption)) | exact Ne.symm (cj13 (by with_reducible assumption)) | exact Ne.symm (ck13 (by with_reducible assumption)) | exact Ne.symm (cj14 (by with_reducible assumption)) | exact Ne.symm (ck14 (by with_reducible assumption)) | exact Ne.symm (cj15 (by with_reducible assumption)) | exact Ne.symm (ck15 (by with_reducible assumption)) | exact Ne.symm (cj16 (by with_reducible assumption)) | exact Ne.symm (ck16 (by with_reducible assumption)) | exact (cj0 (cj0 (by with_reducible assumption))) | exact (cj1 (cj0 (by with_reducible assumption))) | exact (ck2 (cj0 (by with_reducible assumption))) | exact (cj0 (cj1 (by with_reducible assumption))) | exact (cj1 (cj1 (by with_reducible assumption))) | exact (ck2 (cj1 (by with_reducible assumption))) | exact (cj0 (ck1 (by with_reducible assumption))) | exact (cj1 (ck1 (by with_reducible assumption))) | exact (ck2 (ck1 (by with_reducible assumption))) | exact (cj0 (cj2 (by with_reducible assumption))) | exact (cj1 (cj2 (by with_reducible assumption))) | exact (ck2 (cj2 (by with_reducible assumption))) | exact (cj0 (ck2 (by with_reducible assumption))) | exact (cj1 (ck2 (by with_reducible assumption))) | exact (ck2 (ck2 (by with_reducible assumption))) | exact (cj0 (cj3 (by with_reducible assumption))) | exact (cj1 (cj3 (by with_reducible assumption))) | exact (ck2 (cj3 (by with_reducible assumption))) | exact (cj0 (ck3 (by with_reducible assumption))) | exact (cj1 (ck3 (by with_reducible assumption))) | exact (ck2 (ck3 (by with_reducible assumption))) | exact (cj0 (cj4 (by with_reducible assumption))) | exact (cj1 (cj4 (by with_reducible assumption))) | exact (ck2 (cj4 (by with_reducible assumption))) | exact (cj0 (ck4 (by with_reducible assumption))) | exact (cj1 (ck4 (by with_reducible assumption))) | exact (ck2 (ck4 (by with_reducible assumption))) | exact (cj0 (cj5 (by with_reducible assumption))) | exact (cj1 (cj5 (by with_reducible assumption))) | exact (ck2 (cj5 (by with_reducible assumption))) | exact (cj0 (ck5 (by with_reducible assumption))) | exact (cj1 (ck5 (by with_reducible assumption))) | exact (ck2 (ck5 (by with_reducible assumption))) | exact (cj0 (cj6 (by with_reducible assumption))) | exact (cj1 (cj6 (by with_reducible assumption))) | exact (ck2 (cj6 (by with_reducible assumption))) | exact (cj0 (ck6 (by with_reducible assumption))) | exact (cj1 (ck6 (by with_reducible assumption))) | exact (ck2 (ck6 (by with_reducible assumption))) | exact (cj0 (cj7 (by with_reducible assumption))) | exact (cj1 (cj7 (by with_reducible assumption))) | exact (ck2 (cj7 (by with_reducible assumption))) | exact (cj0 (ck7 (by with_reducible assumption))) | exact (cj1 (ck7 (by with_reducible assumption))) | exact (ck2 (ck7 (by with_reducible assumption))) | exact (cj0 (cj8 (by with_reducible assumption))) | exact (cj1 (cj8 (by with_reducible assumption))) | exact (ck2 (cj8 (by with_reducible assumption))) | exact (cj0 (ck8 (by with_reducible assumption))) | exact (cj1 (ck8 (by with_reducible assumption))) | exact (ck2 (ck8 (by with_reducible assumption))) | exact Ne.symm (cj0 (cj0 (by with_reducible assumption))) | exact Ne.symm (cj1 (cj0 (by with_reducible assumption))) | exact Ne.symm (ck2 (cj0 (by with_reducible assumption))) | exact Ne.symm (cj0 (cj1 (by with_reducible assumption))) | exact Ne.symm (cj1 (cj1 (by with_reducible assumption))) | exact Ne.symm (ck2 (cj1 (by with_reducible assumption))) | exact Ne.symm (cj0 (ck1 (by with_reducible assumption))) | exact Ne.symm (cj1 (ck1 (by with_reducible assumption))) | exact Ne.symm (ck2 (ck1 (by with_reducible assumption))) | exact Ne.symm (cj0 (cj2 (by with_reducible assumption))) | exact Ne.symm (cj1 (cj2 (by with_reducible assumption))) | exact Ne.symm (ck2 (cj2 (by with_reducible assumption))) | exact Ne.symm (cj0 (ck2 (by with_reducible assumption))) | exact Ne.symm (cj1 (ck2 (by with_reducible assumption))) | exact Ne.symm (ck2 (ck2 (by with_reducible assumption))) | exact Ne.symm (cj0 (cj3 (by with_reducible assumption))) | exact Ne.symm (cj1 (cj3 (by with_reducible assumption))) | exact Ne.symm (ck2 (cj3 (by with_reducible assumption))) | exact Ne.symm (cj0 (ck3 (by with_reducible assumption))) | exact Ne.symm (cj1 (ck3 (by with_reducible assumption))) | exact Ne.symm (ck2 (ck3 (by with_reducible assumption))) | exact Ne.symm (cj0 (cj4 (by with_reducible assumption))) | exact Ne.symm (cj1 (cj4 (by with_reducible assumption))) | exact Ne.symm (ck2 (cj4 (by with_reducible assumption))) | exact Ne.symm (cj0 (ck4 (by with_reducible assumption))) | exact Ne.symm (cj1 (ck4 (by with_reducible assumption))) | exact Ne.symm (ck2 (ck4 (by with_reducible assumption))) | exact Ne.symm (cj0 (cj5 (by with_reducible assumption))) | exact Ne.symm (cj1 (cj5 (by with_reducible assumption))) | exact Ne.symm (ck2 (cj5 (by with_reducible assumption))) | exact Ne.symm (cj0 (ck5 (by with_reducible assumption))) | exact Ne.symm (cj1 (ck5 (by with_reducible assumption))) | exact Ne.symm (ck2 (ck5 (by with_reducible assumption))) | exact Ne.symm (cj0 (cj6 (by with_reducible assumption))) | exact Ne.symm (cj1 (cj6 (by with_reducible assumption))) | exact Ne.symm (ck2 (cj6 (by with_reducible assumption))) | exact Ne.symm (cj0 (ck6 (by with_reducible assumption))) | exact Ne.symm (cj1 (ck6 (by with_reducible assumption))) | exact Ne.symm (ck2 (ck6 (by with_reducible assumption))) | exact Ne.symm (cj0 (cj7 (by with_reducible assumption))) | exact Ne.symm (cj1 (cj7 (by with_reducible assumption))) | exact Ne.symm (ck2 (cj7 (by with_reducible assumption))) | exact Ne.symm (cj0 (ck7 (by with_reducible assumption))) | exact Ne.symm (cj1 (ck7 (by with_reducible assumption))) | exact Ne.symm (ck2 (ck7 (by with_reducible assumption))) | exact Ne.symm (cj0 (cj8 (by with_reducible assumption))) | exact Ne.symm (cj1 (cj8 (by with_reducible assumption))) | exact Ne.symm (ck2 (cj8 (by with_reducible assumption))) | exact Ne.symm (cj0 (ck8 (by with_reducible assumption))) | exact Ne.symm (cj1 (ck8 (by with_reducible assumption))) | exact Ne.symm (ck2 (ck8 (by with_reducible assumption)))))
  refine wpAny_call ?_
  k_dflt (refine' code_pure (binds := [(Str.ofString "header_values", Value.ref ll)]) ?k1 ?k2 ?k3 ?k5 ?kA ?kF ?kK ?k6 ?k7 ?k8 ?k9 ?kB ?_ ?c2 ?c3 ?c4 ?c5; (case kA => exact rfl); (case kF => exact rfl); (case kK => assumption); (case k1 => k_asm); (case k2 => k_asm); (case k3 => k_asm); (case k5 => k_asm); (case k6 => k_is); (case k7 => k_is); (case k8 => ktr_room); (case k9 => exact BindsTo.of_eq rfl); (case c5 => decide); (case kB => exact locs rfl); (case c2 => exact rfl); (case c3 => exact rfl); (case c4 => exact rfl); k_whole; intro L' h' F' N' B' X' T'; (try dsimp only); (try k_fold))
  k_steps
  all_goals exact hret _ _ _ (Fr.keep (by assumption)) (split_out0 (by assumption) (by k_mem) (by k_mem) (by k_mem) (by k_mem) hkk ext_v)
end Mine
end
section
open PySem PySem.W PySem.Calls PyProof.Rows
namespace Mine
/-- a def's table of the codes within it, and the code of its one lambda if it is there -/
def TabP (ln col : Nat) (q : Str) (ps : Array Value) (c9 : Addr) (oc9 : Obj) : Prop := ps = #[] ∨ (ps = #[rawInt ln, rawInt col, .ref c9] ∧ ∃ vs t, oc9.data = .fields vs ∧ vs[1]? = some (.str q t))
theorem toList_size (x : Str) : x.cps.toList.length = x.length := by simp [Str.length]
theorem getD_mem (x : Str) (j : Nat) (h : j < x.length) : x.cps.getD j 0 ∈ x.cps.toList := List.mem_of_getElem? (getD_toList x.cps j h)
theorem all_tok {x : Str} (h : ∀ j, j < x.length → Re.tokOk (x.cps.getD j 0) = true) : x.cps.toList.all Re.tokOk = true := by
  rw [List.all_eq_true]
  intro c hc
  obtain ⟨j, hj⟩ := List.getElem?_of_mem hc
  have hl : j < x.cps.toList.length := (List.getElem?_eq_some_iff.mp hj).1
  rw [toList_size] at hl
  rw [getD_toList x.cps j hl] at hj
  cases hj
  exact h j hl
theorem not_all_tok {x : Str} {n : Nat} (hn : n < x.length) (h : Re.tokOk (x.cps.getD n 0) = false) : x.cps.toList.all Re.tokOk = false := by
  rw [List.all_eq_false]
  exact ⟨_, getD_mem x n hn, by rw [h]; exact Bool.false_ne_true⟩
theorem join_spec {prog : Program} {w : World} {hd9 : Option Value} {dp un : Nat} {gd : Option (List Code)} {cn : Str} {cs : Scope} {a : Addr} {ccd : Value} {cl : List (Str × Addr)} {outer : List Env} {A₀ : Around} {base h₀ : Heap} {L : Addr} {m mg mb : Str → Option Value} {p : Program} {loose : List Str} {mean : ExcName → Option Value}
   {s : Shared} {Q E : Value → Shared → Prop} {ll pl a1 a2 : Addr} {x : Str} {t1 t2 t3 : Tok} {news : List (Addr × Obj)} {ps : Array Value} {c9 : Addr} {oc9 : Obj}
   (B : Below A₀ base outer h₀) (F : Fr h₀ L s.heap m) (X : (hd.heap_39 w.params).In h₀) (T : Top p loose mean mg mb h₀) (hk : cs.kind = .function)
   (hdp : dp + 3 < recursionLimit) (hun : un + 100 < cLine) (hn : hd9 = none)
   (N : News h₀ L s.heap news) (m1 : (82, tabObj ps) ∈ news) (m2 : (c9, oc9) ∈ news) (hP : TabP 57 50 qualJ ps c9 oc9)
   (k1 : s.heap.IsList ll [Value.ref pl].toArray) (k2 : s.heap.IsList pl [Value.ref a1, Value.ref a2].toArray) (k3 : s.heap.IsTuple a1 [Value.str (Str.ofString "k") t1, Value.str x t2].toArray) (k4 : s.heap.IsTuple a2 [Value.str (Str.ofString "v") t3, Value.none].toArray)
   (hx : x.length < 100000) (hx1 : 1 ≤ x.length)
   (hret : ∀ r t h' tk' ps' c9' oc9', Heap.ExtBut 82 s.heap h' → h'.get? 82 = some (tabObj ps') → h'.get? c9' = some oc9' → (c9' = c9 ∨ s.heap.get? c9' = none) → TabP 57 50 qualJ ps' c9' oc9' → r = S (joinF x.cps.toList) → Q (.str r t) { s with heap := h', toks := tk' }) :
   wpAny (model prog w) (topA hd9 dp un gd cn cs L a ccd cl outer) (call (.ref 87) [.ref ll]) Q E s := by
  rcases first_at (fun j => !Re.tokOk (x.cps.getD j 0)) x.length x.length 0 (by omega) with hall | ⟨k, _, h1, h2, h3⟩
  · have ht : ∀ j, j < x.length → Re.tokOk (x.cps.getD j 0) = true := fun j hj => by simpa using hall j (Nat.zero_le _) hj
    refine join_bare B F X T hk hdp hun hn k1 k2 k3 k4 hx hx1 ht fun r t h' tk' st e => ?_
    refine hret r t h' tk' ps c9 oc9 (fun b o _ e => st b o e) (st _ _ (N _ m1).1) (st _ _ (N _ m2).1) (.inl rfl) hP ?_
    rw [e, joinF, if_pos (all_tok ht)]
  · have ht : ∀ j, j < k → Re.tokOk (x.cps.getD j 0) = true := fun j hj => by simpa using h2 j (Nat.zero_le _) hj
    have hno : Re.tokOk (x.cps.getD k 0) = false := by simpa using h3
    have hF : joinF x.cps.toList = joinQ x.cps.toList := by
      rw [joinF, if_neg]
      rw [not_all_tok h1 hno]
      exact Bool.false_ne_true
    have N1 : News h₀ L s.heap [(82, tabObj ps)] := fun q hq => by rw [List.mem_singleton.mp hq]; exact N _ m1
    rcases hP with rfl | ⟨rfl, vs, t, d1, d2⟩
    · refine join_quoted_first B F X T hk hdp hun hn N1 k1 k2 k3 k4 hx h1 ht hno fun r t h' tk' kb tn e => ?_
      obtain ⟨c', oc, vs, t', q1, q2, q3, q4, q5⟩ := tn
      exact hret r t h' tk' _ c' oc kb q1 q3 (.inr q2) (.inr ⟨rfl, vs, t', q4, q5⟩) (by rw [e, hF])
    · have hc : s.heap.CodeRec (.ref c9) qualJ := ⟨c9, oc9, vs, t, rfl, (N _ m2).1, d1, d2⟩
      have hne : c9 ≠ 82 := code_ne hc (N1 _ (.head _)).1 (by intro t q; cases q)
      refine join_quoted_again hc B F X T hk hdp hun hn N1 k1 k2 k3 k4 hx h1 ht hno fun r t' h' tk' kb tn e => ?_
      exact hret r t' h' tk' _ c9 oc9 kb tn (kb _ _ hne (N _ m2).1) (.inl rfl) (.inr ⟨rfl, vs, t, d1, d2⟩) (by rw [e, hF])
theorem S_toList' (l : List Nat) : (S l).cps.toList = l := by simp
theorem ext_S (l : List Nat) (b e : Nat) : (⟨(S l).cps.extract b e⟩ : Str) = S ((l.drop b).take (e - b)) := by
  refine Str.ext' ?_
  apply Array.ext'
  rw [extract_list, S_toList']
theorem split_spec {prog : Program} {w : World} {hd9 : Option Value} {dp un : Nat} {gd : Option (List Code)} {cn : Str} {cs : Scope} {a : Addr} {ccd : Value} {cl : List (Str × Addr)} {outer : List Env} {A₀ : Around} {base h₀ : Heap} {L : Addr} {m mg mb : Str → Option Value} {p : Program} {loose : List Str} {mean : ExcName → Option Value}
   {s : Shared} {Q E : Value → Shared → Prop} {ll : Addr} {x : Str} {l : List Nat} {t1 : Tok} {news : List (Addr × Obj)} {ps : Array Value} {c9 : Addr} {oc9 : Obj}
   (B : Below A₀ base outer h₀) (F : Fr h₀ L s.heap m) (X : (hd.heap_39 w.params).In h₀) (T : Top p loose mean mg mb h₀) (hk : cs.kind = .function)
   (hdp : dp + 3 < recursionLimit) (hun : un + 300 < cLine) (hh' : HandOk hd9 s.heap)
   (N : News h₀ L s.heap news) (m1 : (65, tabObj ps) ∈ news) (m2 : (c9, oc9) ∈ news) (hP : TabP 26 49 qualS ps c9 oc9)
   (k1' : s.heap.IsList ll [Value.str x t1].toArray) (hx : x = S (joinF l)) (hl1 : 1 ≤ l.length) (hl : l.length ≤ 40000) (h10 : ∀ c ∈ l, c ≠ 10)
   (hret : ∀ r h' tk' ps' c9' oc9', Heap.ExtBut 65 s.heap h' → h'.get? 65 = some (tabObj ps') → h'.get? c9' = some oc9' → (c9' = c9 ∨ s.heap.get? c9' = none) → TabP 26 49 qualS ps' c9' oc9' → SplitOut s.heap h' r (S l) → Q (.ref r) { s with heap := h', toks := tk' }) :
   wpAny (model prog w) (topA hd9 dp un gd cn cs L a ccd cl outer) (call (.ref 70) [.ref ll]) Q E s := by
  have he := escL_len l
  subst hx
  cases hb : l.all Re.tokOk with
  | true =>
    have ht : ∀ c ∈ l, Re.tokOk c = true := List.all_eq_true.mp hb
    have hj : joinF l = 107 :: 61 :: (l ++ [59, 32, 118]) := by rw [joinF, if_pos hb]; rfl
    rw [hj] at k1'
    have hxl : (S (107 :: 61 :: (l ++ [59, 32, 118]))).length = l.length + 5 := by rw [S_length]; simp
    have hyl : (S ([61] ++ (l ++ [59, 32, 118]))).length = l.length + 4 := by rw [S_length]; simp
    refine split_bare (y := S ([61] ++ (l ++ [59, 32, 118]))) (l := l) (e1 := 1 + l.length) (e2 := 1 + l.length) B F X T hk hdp hun hh' k1' (by omega) (by omega) (by omega) (by omega) ⟨⟨100, by decide, key_facts _ (by simp; omega)⟩, by decide, by omega⟩ rfl ⟨⟨3000000, by decide, noq_facts l ht hl1 hl⟩, by omega⟩ ⟨⟨100, by decide, val_facts l ht hl1 hl⟩, by omega, by omega⟩ (by omega) ?_ ?_ ?_ ?_ fun r h' tk' st so => ?_
    · rw [S_toList', show 1 + l.length = ([61] ++ l).length by simp; omega, ← List.append_assoc, List.drop_left]
    · rw [ext_S, S_length, List.length_take]; omega
    · rw [ext_S]
      have : (List.take (1 + l.length - 1) (List.drop 1 ([61] ++ (l ++ [59, 32, 118])))) = l := by
        rw [show 1 + l.length - 1 = l.length by omega]
        show List.take l.length (l ++ [59, 32, 118]) = l
        rw [List.take_left]
      rw [this]
      exact rstrip_tok l ht
    · rw [ext_S]; rfl
    · exact hret r h' tk' ps c9 oc9 (fun b o _ e => st b o e) (st _ _ (N _ m1).1) (st _ _ (N _ m2).1) (.inl rfl) hP so
  | false =>
    have hj : joinF l = 107 :: 61 :: (34 :: (escL l ++ [34, 59, 32, 118])) := by
      rw [joinF, if_neg (by rw [hb]; exact Bool.false_ne_true)]
      unfold joinQ
      simp
    rw [hj] at k1'
    have hxl : (S (107 :: 61 :: (34 :: (escL l ++ [34, 59, 32, 118])))).length = (escL l).length + 7 := by rw [S_length]; simp
    have hyl : (S ([61, 34] ++ (escL l ++ [34, 59, 32, 118]))).length = (escL l).length + 6 := by rw [S_length]; simp
    have q1 : KeyHit (S (107 :: 61 :: (34 :: (escL l ++ [34, 59, 32, 118])))) 1 0 1 := ⟨⟨100, by decide, key_facts _ (by simp; omega)⟩, by decide, by omega⟩
    have q2 : QuoHit (S ([61, 34] ++ (escL l ++ [34, 59, 32, 118]))) (2 + (escL l).length + 1) 2 (2 + (escL l).length) := ⟨⟨10000000, by decide, quo_facts l h10 hl⟩, by omega, by omega⟩
    have q3 : S ((S ([61, 34] ++ (escL l ++ [34, 59, 32, 118]))).cps.toList.drop (2 + (escL l).length + 1)) = S [59, 32, 118] := by
      have e : [61, 34] ++ (escL l ++ [34, 59, 32, 118]) = ([61, 34] ++ escL l ++ [34]) ++ [59, 32, 118] := by simp
      rw [S_toList', e, show 2 + (escL l).length + 1 = ([61, 34] ++ escL l ++ [34]).length by simp; omega, List.drop_left]
    have q4 : ((S ([61, 34] ++ (escL l ++ [34, 59, 32, 118]))).cps.extract 2 (2 + (escL l).length)).toList = escL l := by
      rw [extract_list, S_toList', show 2 + (escL l).length - 2 = (escL l).length by omega]
      show List.take (escL l).length (escL l ++ [34, 59, 32, 118]) = escL l
      rw [List.take_left]
    have q5 : Une ((S ([61, 34] ++ (escL l ++ [34, 59, 32, 118]))).cps.extract 2 (2 + (escL l).length)).toList l := by rw [q4]; exact une_esc l h10
    have q6 : (⟨(S ([61, 34] ++ (escL l ++ [34, 59, 32, 118]))).cps.extract 2 (2 + (escL l).length)⟩ : Str).length ≤ 900000 := by
      rw [ext_S, S_length, List.length_take]; omega
    have q7 : (⟨(S (107 :: 61 :: (34 :: (escL l ++ [34, 59, 32, 118])))).cps.extract 0 1⟩ : Str) = Str.ofString "k" := by rw [ext_S]; rfl
    have N1 : News h₀ L s.heap [(65, tabObj ps)] := fun q hq => by rw [List.mem_singleton.mp hq]; exact N _ m1
    rcases hP with rfl | ⟨rfl, vs, t, d1, d2⟩
    · refine split_quoted_first (y := S ([61, 34] ++ (escL l ++ [34, 59, 32, 118]))) (l := l) B F X T hk hdp hun hh' N1 k1' (by omega) (by omega) (by omega) (by omega) q1 rfl q2 (by omega) q3 q6 q5 q7 fun r h' tk' kb tn so => ?_
      obtain ⟨c', oc, vs, t', z1, z2, z3, z4, z5⟩ := tn
      exact hret r h' tk' _ c' oc kb z1 z3 (.inr z2) (.inr ⟨rfl, vs, t', z4, z5⟩) so
    · have hc : s.heap.CodeRec (.ref c9) qualS := ⟨c9, oc9, vs, t, rfl, (N _ m2).1, d1, d2⟩
      have hne : c9 ≠ 65 := code_ne hc (N1 _ (.head _)).1 (by intro t q; cases q)
      refine split_quoted_again hc (y := S ([61, 34] ++ (escL l ++ [34, 59, 32, 118]))) (l := l) B F X T hk hdp hun hh' N1 k1' (by omega) (by omega) (by omega) (by omega) q1 rfl q2 (by omega) q3 q6 q5 q7 fun r h' tk' kb tn so => ?_
      exact hret r h' tk' _ c9 oc9 kb tn (kb _ _ hne (N _ m2).1) (.inl rfl) (.inr ⟨rfl, vs, t, d1, d2⟩) so
end Mine
end
section
open PySem PySem.W PySem.Calls PyProof.Rows PyProof.V PySem.Spec
namespace Mine
section
variable {prog : Program} {w : World} {A : Around} {E : Value → Shared → Prop} {s : Shared} {env : Env} {h₀ : Heap} {x : Str} {body : List Stmt} {Q : Flow → Shared → Prop}
/-- how a turn of a loop over a range ends -/
def RngPost (h₀ : Heap) (L : Addr) (J : (Str → Option Value) → List (Addr × Obj) → Prop) (I : Addr) (oI : Obj) (s₁ : Shared) (Q : Flow → Shared → Prop) (f : Flow) (s₂ : Shared) : Prop :=
  match f with
  | .ret v => Q (.ret v) s₂
  | .brk => Q .next s₂
  | _ => ∃ h' tk m' nx, s₂ = { s₁ with heap := h', toks := tk } ∧ Fr h₀ L h' m' ∧ News h₀ L h' ((I, oI) :: nx) ∧ (∀ p ∈ nx, p.1 ≠ I) ∧ J m' nx
theorem rng_loop {r : Addr} {a₀ b₀ c : Int} {t₀ u₀ v₀ : Tok} {n : Nat} {m₀ : Str → Option Value} {news : List (Addr × Obj)} (J : Nat → (Str → Option Value) → List (Addr × Obj) → Prop)
    (hh : A.handled = none) (hr : IsRange s.heap r a₀ b₀ c t₀ u₀ v₀) (hsmall : Builtin.Range.small a₀ b₀ c = true) (hn : Builtin.Range.rangeSize a₀ b₀ c = (n : Int)) (F : Fr h₀ env.locals s.heap m₀) (N : News h₀ env.locals s.heap news) (hj : J 0 m₀ news)
    (turn : ∀ i t m₁ news₁ h tk I oI, i < n → J i m₁ news₁ → (∀ p ∈ news₁, p.1 ≠ I) → Fr h₀ env.locals h (fun y => if y = x then some (.int (a₀ + (i : Int) * c) t) else m₁ y) → News h₀ env.locals h ((I, oI) :: news₁) →
      wpAny (model prog w) A (execs body env) (RngPost h₀ env.locals (J (i + 1)) I oI { s with heap := h, toks := tk } Q) E { s with heap := h, toks := tk })
    (done : ∀ m₁ news₁ h tk, J n m₁ news₁ → Fr h₀ env.locals h m₁ → News h₀ env.locals h news₁ → Q .next { s with heap := h, toks := tk }) :
    wpAny (model prog w) A (pyIter (.ref r)) (fun it s₂ => LoopAtV prog w A h₀ env x body Q E it s₂) E s := by
  refine wpAny_pyIter_range hr hsmall ?_
  have W : Walks prog w A s.heap.objs.size [s.heap.objs.size] [s.heap.objs.size] n (fun i v => i < n ∧ ∃ t, v = .int (a₀ + i * c) t)
      (fun i h => IsRangeIter h s.heap.objs.size (a₀ + (i : Nat) * c) ((n : Int) - (i : Nat)) c) := (Walks.range hh _ a₀ c n).bound
  refine ⟨_, _, _, n, _, _, m₀, news, J, rfl, W, ?_, ?_, ?_, (by show IsRangeIter _ _ _ _ _; rw [hn]; simpa using Heap.get?_push_size _ rfl), F.push _, (fun p hp => ⟨Heap.get?_push_of_some _ (N p hp).1, (N p hp).2⟩), hj, ?_, ?_⟩
  · intro hm
    exact absurd F.ns.lt ((List.mem_singleton.mp hm) ▸ Nat.lt_irrefl _)
  · intro b hb
    rw [List.mem_singleton.mp hb]
    exact next_is_new F
  · intro p hp hI
    exact absurd (Heap.lt_size (N p hp).1) ((List.mem_singleton.mp hI) ▸ Nat.lt_irrefl _)
  · rintro i v m₁ news₁ s₁ own ⟨hh', tk', rfl⟩ hin ⟨_, t, rfl⟩ hJ hoff hown1 hown2 hown3 hst F₁ N₁
    obtain ⟨oI, hI⟩ : ∃ oI, hh'.get? s.heap.objs.size = some oI := ⟨_, hst⟩
    have hin' := hown3 s.heap.objs.size (List.mem_singleton.mpr rfl) (next_is_new F) oI hI
    refine wpAny_mono (turn i t m₁ news₁ hh' tk' s.heap.objs.size oI hin hJ (fun p hp e => hoff p hp (List.mem_singleton.mpr e)) F₁ (fun p hp => ?_)) (fun f s₂ p => ?_) fun _ _ e => e
    · rcases List.mem_cons.mp hp with rfl | hp
      · exact N₁ _ (List.mem_append_left _ hin')
      · exact N₁ _ (List.mem_append_right _ hp)
    · have own_is : ∀ q ∈ own, q = (s.heap.objs.size, oI) := fun q hq => by
        have e1 : q.1 = s.heap.objs.size := List.mem_singleton.mp (hown1 q hq)
        have e2 := hown2 q hq
        rw [e1] at e2
        have e3 : some oI = some q.2 := hI.symm.trans e2
        exact Prod.ext e1 (Option.some.inj e3).symm
      have fin : (∃ h' tk m' nx, s₂ = { s with heap := h', toks := tk } ∧ Fr h₀ env.locals h' m' ∧ News h₀ env.locals h' ((s.heap.objs.size, oI) :: nx) ∧ (∀ p ∈ nx, p.1 ≠ s.heap.objs.size) ∧ J (i + 1) m' nx) → LoopStepU h₀ env.locals [s.heap.objs.size] own (J (i + 1)) { s with heap := hh', toks := tk' } .next s₂ := by
        rintro ⟨h', tk, m', nx, e, F', N', hn', hm⟩
        refine ⟨rfl, h', tk, m', nx, e, F', fun p hp => ?_, fun p hp hq => hn' p hp (List.mem_singleton.mp hq), hm⟩
        rcases List.mem_append.mp hp with hp | hp
        · rw [own_is p hp]; exact N' _ (.head _)
        · exact N' p (.tail _ hp)
      cases f with
      | ret v => exact .ret p
      | brk => exact .brk p
      | next => exact .next (fin p)
      | cont => exact .cont (fin p)
  · rintro h' tk m' news' F' N' _ hJ
    exact done m' news' h' tk hJ F' N'
end
end Mine
end
section
open PySem PySem.W PySem.Calls PyProof.Rows PyProof.V PySem.Spec
namespace Mine
/-- the frame's names that the law's loops store -/
def Same4 (m₀ m : Str → Option Value) : Prop := ∀ y, y ≠ Str.ofString "number" → y ≠ Str.ofString "text" → y ≠ Str.ofString "lists" → y ≠ Str.ofString "hand" → m y = m₀ y
theorem canon4 {m₀ m : Str → Option Value} {v : Option Value} (h : Same4 m₀ m) (ht : m (Str.ofString "text") = v) (z : Option Value) : (fun y => if y = Str.ofString "number" then z else m y) = fun y => if y = Str.ofString "number" then z else if y = Str.ofString "text" then v else if y = Str.ofString "lists" then m (Str.ofString "lists") else if y = Str.ofString "hand" then m (Str.ofString "hand") else m₀ y := by
  funext y
  by_cases h1 : y = Str.ofString "number"
  · rw [if_pos h1, if_pos h1]
  · rw [if_neg h1, if_neg h1]
    by_cases h2 : y = Str.ofString "text"
    · rw [if_pos h2, h2, ht]
    · rw [if_neg h2]
      by_cases h3 : y = Str.ofString "lists"
      · rw [if_pos h3, h3]
      · rw [if_neg h3]
        by_cases h4 : y = Str.ofString "hand"
        · rw [if_pos h4, h4]
        · rw [if_neg h4]
          exact h y h1 h2 h3 h4
section
variable {prog : Program} {w : World} {A : Around} {E : Value → Shared → Prop} {s : Shared} {env : Env} {h₀ : Heap} {body : List Stmt} {Q : Flow → Shared → Prop}
/-- how a turn of the law's loops ends -/
def TabPost (h₀ : Heap) (L : Addr) (P : Addr) (ln col : Nat) (q : Str) (R0 : List (Addr × Obj)) (m₀ : Str → Option Value) (X : Str) (I : Addr) (oI : Obj) (s₁ : Shared) (Q : Flow → Shared → Prop) (f : Flow) (s₂ : Shared) : Prop :=
  match f with
  | .ret v => Q (.ret v) s₂
  | .brk => Q .next s₂
  | _ => ∃ h' tk m' tt ps c9 oc9, s₂ = { s₁ with heap := h', toks := tk } ∧ Fr h₀ L h' m' ∧ News h₀ L h' ((I, oI) :: (P, tabObj ps) :: (c9, oc9) :: R0) ∧ c9 ≠ I ∧ TabP ln col q ps c9 oc9 ∧ m' (Str.ofString "text") = some (.str X tt) ∧ Same4 m₀ m'
theorem tab_loop {r P c0 : Addr} {oc0 : Obj} {ln col : Nat} {q : Str} {ps0 : Array Value} {R0 : List (Addr × Obj)} {a₀ b₀ c : Int} {t₀ u₀ v₀ tt0 : Tok} {n : Nat} {m₀ : Str → Option Value} {news : List (Addr × Obj)} (V : Nat → Str)
    (hh : A.handled = none) (hr : IsRange s.heap r a₀ b₀ c t₀ u₀ v₀) (hsmall : Builtin.Range.small a₀ b₀ c = true) (hn : Builtin.Range.rangeSize a₀ b₀ c = (n : Int)) (F : Fr h₀ env.locals s.heap m₀) (N : News h₀ env.locals s.heap news) (hsub : ∀ p ∈ (P, tabObj ps0) :: (c0, oc0) :: R0, p ∈ news)
    (hR : ∀ p ∈ R0, p.1 ≠ P) (hP : TabP ln col q ps0 c0 oc0) (ht : m₀ (Str.ofString "text") = some (.str (V 0) tt0))
    (turn : ∀ i t tt ps c9 oc9 u2 u3 h tk I oI, i < n → TabP ln col q ps c9 oc9 → c9 ≠ I → (∀ p ∈ (I, oI) :: R0, p.1 ≠ P) →
      Fr h₀ env.locals h (fun y => if y = Str.ofString "number" then some (.int (a₀ + (i : Int) * c) t) else if y = Str.ofString "text" then some (.str (V i) tt) else if y = Str.ofString "lists" then u2 else if y = Str.ofString "hand" then u3 else m₀ y) → News h₀ env.locals h ((I, oI) :: (P, tabObj ps) :: (c9, oc9) :: R0) →
      wpAny (model prog w) A (execs body env) (TabPost h₀ env.locals P ln col q R0 m₀ (V (i + 1)) I oI { s with heap := h, toks := tk } Q) E { s with heap := h, toks := tk })
    (done : ∀ tt ps c9 oc9 u1 u2 u3 h tk, TabP ln col q ps c9 oc9 → Fr h₀ env.locals h (fun y => if y = Str.ofString "number" then u1 else if y = Str.ofString "text" then some (.str (V n) tt) else if y = Str.ofString "lists" then u2 else if y = Str.ofString "hand" then u3 else m₀ y) → News h₀ env.locals h ((P, tabObj ps) :: (c9, oc9) :: R0) → Q .next { s with heap := h, toks := tk }) :
    wpAny (model prog w) A (pyIter (.ref r)) (fun it s₂ => LoopAtV prog w A h₀ env (Str.ofString "number") body Q E it s₂) E s := by
  refine rng_loop (fun i m nx => ∃ tt ps c9 oc9, nx = (P, tabObj ps) :: (c9, oc9) :: R0 ∧ TabP ln col q ps c9 oc9 ∧ m (Str.ofString "text") = some (.str (V i) tt) ∧ Same4 m₀ m) hh hr hsmall hn F (fun p hp => N p (hsub p hp)) ⟨tt0, ps0, c0, oc0, rfl, hP, ht, fun _ _ _ _ _ => rfl⟩ ?_ ?_
  · rintro i t m₁ nx h tk I oI hi ⟨tt, ps, c9, oc9, rfl, hP', ht', hs'⟩ hne F₁ N₁
    rw [canon4 hs' ht'] at F₁
    have h9 : c9 ≠ I := hne (c9, oc9) (.tail _ (.head _))
    refine wpAny_mono (turn i t tt ps c9 oc9 _ _ h tk I oI hi hP' h9 (fun p hp => (List.mem_cons.mp hp).elim (fun e => e ▸ fun q => hne (P, tabObj ps) (.head _) q.symm) (hR p)) F₁ N₁) (fun f s₂ p => ?_) fun _ _ e => e
    have fin : (∃ h' tk' m' tt ps c9 oc9, s₂ = { s with heap := h', toks := tk' } ∧ Fr h₀ env.locals h' m' ∧ News h₀ env.locals h' ((I, oI) :: (P, tabObj ps) :: (c9, oc9) :: R0) ∧ c9 ≠ I ∧ TabP ln col q ps c9 oc9 ∧ m' (Str.ofString "text") = some (.str (V (i + 1)) tt) ∧ Same4 m₀ m') →
        ∃ h' tk' m' nx, s₂ = { s with heap := h', toks := tk' } ∧ Fr h₀ env.locals h' m' ∧ News h₀ env.locals h' ((I, oI) :: nx) ∧ (∀ p ∈ nx, p.1 ≠ I) ∧ ∃ tt ps c9 oc9, nx = (P, tabObj ps) :: (c9, oc9) :: R0 ∧ TabP ln col q ps c9 oc9 ∧ m' (Str.ofString "text") = some (.str (V (i + 1)) tt) ∧ Same4 m₀ m' := by
      rintro ⟨h', tk', m', tt', ps', c', oc', e, F', N', hc, hP', ht', hs'⟩
      refine ⟨h', tk', m', _, e, F', N', fun p hp => ?_, tt', ps', c', oc', rfl, hP', ht', hs'⟩
      rcases List.mem_cons.mp hp with rfl | hp
      · exact hne (P, tabObj ps) (.head _)
      · rcases List.mem_cons.mp hp with rfl | hp
        · exact hc
        · exact hne p (.tail _ (.tail _ hp))
    cases f with
    | ret v => exact p
    | brk => exact p
    | next => exact fin p
    | cont => exact fin p
  · rintro m₁ nx h tk ⟨tt, ps, c9, oc9, rfl, hP', ht', hs'⟩ F₁ N₁
    have e : m₁ = fun y => if y = Str.ofString "number" then m₁ (Str.ofString "number") else m₁ y := by
      funext y
      by_cases h1 : y = Str.ofString "number"
      · rw [if_pos h1, h1]
      · rw [if_neg h1]
    rw [e, canon4 hs' ht'] at F₁
    exact done tt ps c9 oc9 _ _ _ h tk hP' F₁ N₁
end
theorem tab_back {h₀ h h' : Heap} {L P c9 c9' I : Addr} {oc9 oc9' oI : Obj} {ps ps' : Array Value} {m : Str → Option Value} {news R0 : List (Addr × Obj)} (hD : ∀ p ∈ (I, oI) :: R0, p.1 ≠ P) (F : Fr h₀ L h m) (N : News h₀ L h news) (hsub : ∀ p ∈ (I, oI) :: (P, tabObj ps) :: (c9, oc9) :: R0, p ∈ news)
    (k : Heap.ExtBut P h h') (q1 : h'.get? P = some (tabObj ps')) (q2 : h'.get? c9' = some oc9') (q3 : c9' = c9 ∨ h.get? c9' = none) : News h₀ L h' ((I, oI) :: (P, tabObj ps') :: (c9', oc9') :: R0) := by
  have keep : ∀ p ∈ (I, oI) :: R0, p ∈ news → h'.get? p.1 = some p.2 ∧ p.1 ≠ L ∧ h₀.get? p.1 = none := fun p hp hn => ⟨k _ _ (hD p hp) (N p hn).1, (N p hn).2⟩
  intro p hp
  rcases List.mem_cons.mp hp with rfl | hp
  · exact keep _ (.head _) (hsub _ (.head _))
  · rcases List.mem_cons.mp hp with rfl | hp
    · exact ⟨q1, (N _ (hsub _ (.tail _ (.head _)))).2⟩
    · rcases List.mem_cons.mp hp with rfl | hp
      · refine ⟨q2, ?_⟩
        rcases q3 with rfl | hc
        · exact (N _ (hsub _ (.tail _ (.tail _ (.head _))))).2
        · refine ⟨fun e => ?_, ?_⟩
          · obtain ⟨oL, es, ep, hL, r⟩ := F.ns
            have e' : c9' = L := e
            rw [e', hL] at hc; cases hc
          · cases q : h₀.get? c9' with
            | none => rfl
            | some o' => have := F.keep _ _ q; rw [hc] at this; cases this
      · exact keep p (.tail _ hp) (hsub p (.tail _ (.tail _ (.tail _ hp))))
/-- behind a call that changes but the table -/
theorem fr_but {h₀ h h' : Heap} {L P : Addr} {m : Str → Option Value} {o : Obj} {news : List (Addr × Obj)} (F : Fr h₀ L h m) (N : News h₀ L h news) (hm : (P, o) ∈ news) (k : Heap.ExtBut P h h') : Fr h₀ L h' m := by
  have z := N _ hm
  obtain ⟨oL, es, ep, hL, r⟩ := F.ns
  exact ⟨⟨oL, es, ep, k _ _ (fun q => z.2.1 q.symm) hL, r⟩, fun b o e => k _ _ (fun q => by have := z.2.2; rw [show (P, _).1 = P from rfl, ← q, e] at this; cases this) (F.keep b o e), F.above⟩
theorem news_but {h₀ h h' : Heap} {L P : Addr} {o o' : Obj} {news news' : List (Addr × Obj)} (N : News h₀ L h news) (hm : (P, o) ∈ news) (D : ∀ p ∈ news', p ∈ news ∧ p.1 ≠ P) (k : Heap.ExtBut P h h') (hP : h'.get? P = some o') : News h₀ L h' ((P, o') :: news') := by
  intro p hp
  rcases List.mem_cons.mp hp with rfl | hp
  · exact ⟨hP, (N _ hm).2⟩
  · have q := N p (D p hp).1
    exact ⟨k _ _ (D p hp).2 q.1, q.2⟩
theorem code_news {h₀ h h' : Heap} {L c9 c9' : Addr} {oc9 oc9' : Obj} {m : Str → Option Value} {news : List (Addr × Obj)} (F : Fr h₀ L h m) (N : News h₀ L h news) (m2 : (c9, oc9) ∈ news) (hc : c9' = c9 ∨ h.get? c9' = none) (ho : h'.get? c9' = some oc9') : h'.get? c9' = some oc9' ∧ c9' ≠ L ∧ h₀.get? c9' = none := by
  refine ⟨ho, ?_⟩
  rcases hc with rfl | hc
  · exact (N _ m2).2
  · refine ⟨fun e => ?_, ?_⟩
    · obtain ⟨oL, es, ep, hL, r⟩ := F.ns
      rw [e, hL] at hc; cases hc
    · cases q : h₀.get? c9' with
      | none => rfl
      | some o' => have := F.keep _ _ q; rw [hc] at this; cases this
theorem code_ne_I {h₀ h : Heap} {L c9 c9' I : Addr} {oI : Obj} {news : List (Addr × Obj)} (hc : c9' = c9 ∨ h.get? c9' = none) (h9 : c9 ≠ I) (N : News h₀ L h news) (mI : (I, oI) ∈ news) : c9' ≠ I := by
  rcases hc with rfl | hc
  · exact h9
  · intro e
    rw [e, (N _ mI).1] at hc
    cases hc
end Mine
end
section
open PySem PySem.W PySem.Calls PyProof.Rows
namespace Mine
theorem rows_merge {prog : Program} {w : World} {A : Around} {E : Value → Shared → Prop} {s : Shared} {base : Heap} {L : Addr} {m : Str → Option Value} {news : List (Addr × Obj)} {e : Expr} {env : Env} {Q : Value → Shared → Prop} (_F : Fr base L s.heap m) (_N : News base L s.heap news)
    (hwalk : ∀ Q' : Value → Shared → Prop, (∀ R ws ns n h' tk, 1 ≤ ns.length → ns.length ≤ 4 → IntsAre ws ns → Fr base L h' m → News base L h' ((R, W.listOf ws.toArray n) :: news) → AllLt R news → Q' (.ref R) { s with heap := h', toks := tk }) → wpAny (model prog w) A (eval e env) Q' E s)
    (h : ∀ R ws ns n h' tk, 1 ≤ ns.length → ns.length ≤ 4 → IntsAre ws ns → Fr base L h' m → News base L h' ((R, W.listOf ws.toArray n) :: news) → AllLt R news → Q (.ref R) { s with heap := h', toks := tk }) : wpAny (model prog w) A (eval e env) Q E s := hwalk Q h
def signF (k : Int) : Str := Txt.item (Str.ofString "a\"\\;~") ((k.fdiv 2).fmod 5)
def coreF (ns : List Int) : Str := Txt.join (Str.ofString "") (ns.map signF)
theorem join_core {prog : Program} {w : World} {A : Around} {E : Value → Shared → Prop} {s : Shared} {D : Addr} {ys : List Value} {ns : List Int} {t : Tok} {Q : Value → Shared → Prop} (hl : s.heap.IsList D ys.toArray) (hc : CarriedAll ys (ns.map fun k => PyData.str (signF k))) (hn : ns.length ≤ 4)
    (h : ∀ t' k, (coreF ns).length = ns.length → Q (.str (coreF ns) t') { s with toks := k }) : wpAny (model prog w) A (call (.builtin "str.join") [.str (Str.ofString "") t, .ref D]) Q E s :=
  KT.join_1 hl hc (fun _ _ => rfl) (by omega) fun t' k e => h t' k e
theorem sign_five (k : Int) : ∃ c, signF k = S [c] ∧ Five c := by
  have h1 := Int.fmod_nonneg_of_pos (k.fdiv 2) (show (0 : Int) < 5 by decide)
  have h2 := Int.fmod_lt_of_pos (k.fdiv 2) (show (0 : Int) < 5 by decide)
  unfold signF
  generalize (k.fdiv 2).fmod 5 = i at h1 h2
  have : i = 0 ∨ i = 1 ∨ i = 2 ∨ i = 3 ∨ i = 4 := by omega
  rcases this with rfl | rfl | rfl | rfl | rfl
  · exact ⟨97, by decide, .inl rfl⟩
  · exact ⟨34, by decide, .inr (.inl rfl)⟩
  · exact ⟨92, by decide, .inr (.inr (.inl rfl))⟩
  · exact ⟨59, by decide, .inr (.inr (.inr (.inl rfl)))⟩
  · exact ⟨126, by decide, .inr (.inr (.inr (.inr rfl)))⟩
theorem core_five (ns : List Int) : ∃ cl, coreF ns = S cl ∧ (∀ c ∈ cl, Five c) ∧ cl.length = ns.length := by
  unfold coreF
  rw [join_flat]
  refine ⟨_, rfl, ?_, ?_⟩
  · intro c hc
    obtain ⟨y, hy, hc⟩ := List.mem_flatMap.mp hc
    obtain ⟨k, _, rfl⟩ := List.mem_map.mp hy
    obtain ⟨d, e, hd⟩ := sign_five k
    rw [e] at hc
    have : c = d := by simpa using hc
    rw [this]; exact hd
  · induction ns with
    | nil => rfl
    | cons k r ih =>
      rw [List.map_cons, List.flatMap_cons, List.length_append, ih]
      obtain ⟨d, e, _⟩ := sign_five k
      rw [e]
      simp
      omega
def wholeG (ns : List Int) (k : Int) : Str := wholeF (coreF ns) (List.take k.toNat (List.map (fun k' => k'.fmod 2) ns))
theorem core_ok (ns : List Int) : PyData.strOk (coreF ns) = true := by
  obtain ⟨cl, e', h, _⟩ := core_five ns
  rw [e']
  show (cl.toArray.all _) = true
  rw [List.all_toArray, List.all_eq_true]
  intro d hd
  rcases h d hd with rfl | rfl | rfl | rfl | rfl <;> rfl
theorem news_two {h₀ h : Heap} {L : Addr} {p : Addr × Obj} {news news' : List (Addr × Obj)} (N : News h₀ L h news') (h1 : p ∈ news') (h2 : ∀ q ∈ news, q ∈ news') : News h₀ L h (p :: news) := fun q hq => N q ((List.mem_cons.mp hq).elim (fun e => e ▸ h1) (h2 q))
section
variable {prog : Program} {w : World} {A : Around} {E : Value → Shared → Prop} {s : Shared} {env : Env} {h₀ : Heap} {body : List Stmt} {Q : Flow → Shared → Prop}
theorem tab_loop1 {r : Addr} {e1 e2 e3 e4 e5 e6 e8 : Addr × Obj} {a₀ b₀ c : Int} {t₀ u₀ v₀ tt0 : Tok} {n : Nat} {m₀ : Str → Option Value} (V : Nat → Str)
    (hh : A.handled = none) (hr : IsRange s.heap r a₀ b₀ c t₀ u₀ v₀) (hsmall : Builtin.Range.small a₀ b₀ c = true) (hn : Builtin.Range.rangeSize a₀ b₀ c = (n : Int)) (F : Fr h₀ env.locals s.heap m₀) (N : News h₀ env.locals s.heap [e1, e2, e3, e4, e5, e6, (82, tabObj #[]), e8])
    (hR : e1.1 ≠ 82 ∧ e3.1 ≠ 82 ∧ e5.1 ≠ 82 ∧ e6.1 ≠ 82 ∧ e8.1 ≠ 82) (ht : m₀ (Str.ofString "text") = some (.str (V 0) tt0))
    (turn : ∀ i t tt ps c9 oc9 u2 u3 h tk I oI, i < n → TabP 57 50 qualJ ps c9 oc9 → c9 ≠ I → (∀ p ∈ (I, oI) :: [e1, e3, e5, e6, e8], p.1 ≠ 82) →
      Fr h₀ env.locals h (fun y => if y = Str.ofString "number" then some (.int (a₀ + (i : Int) * c) t) else if y = Str.ofString "text" then some (.str (V i) tt) else if y = Str.ofString "lists" then u2 else if y = Str.ofString "hand" then u3 else m₀ y) → News h₀ env.locals h [(I, oI), (82, tabObj ps), (c9, oc9), e1, e3, e5, e6, e8] →
      wpAny (model prog w) A (execs body env) (TabPost h₀ env.locals 82 57 50 qualJ [e1, e3, e5, e6, e8] m₀ (V (i + 1)) I oI { s with heap := h, toks := tk } Q) E { s with heap := h, toks := tk })
    (done : ∀ tt ps c9 oc9 u1 u2 u3 h tk, TabP 57 50 qualJ ps c9 oc9 → Fr h₀ env.locals h (fun y => if y = Str.ofString "number" then u1 else if y = Str.ofString "text" then some (.str (V n) tt) else if y = Str.ofString "lists" then u2 else if y = Str.ofString "hand" then u3 else m₀ y) → News h₀ env.locals h [(82, tabObj ps), (c9, oc9), e1, e3, e5, e6, e8] → Q .next { s with heap := h, toks := tk }) :
    wpAny (model prog w) A (pyIter (.ref r)) (fun it s₂ => LoopAtV prog w A h₀ env (Str.ofString "number") body Q E it s₂) E s :=
  tab_loop (R0 := [e1, e3, e5, e6, e8]) (c0 := e4.1) (oc0 := e4.2) (ps0 := #[]) V hh hr hsmall hn F N (by intro p hp; simp only [List.mem_cons, List.not_mem_nil, or_false] at hp ⊢; rcases hp with rfl | rfl | rfl | rfl | rfl | rfl | rfl <;> simp) (by intro p hp; simp only [List.mem_cons, List.not_mem_nil, or_false] at hp; rcases hp with rfl | rfl | rfl | rfl | rfl <;> simp only [hR, ne_eq, not_false_eq_true]) (.inl rfl) ht turn done
end
theorem wholeG_VL {ns : List Int} {cl : List Nat} (e : coreF ns = S cl) (h5 : ∀ c ∈ cl, Five c) (j : Nat) (hj : j ≤ ns.length) : wholeG ns (j : Int) = S (VL cl (List.map (fun k' => k'.fmod 2) ns) j) := by
  unfold wholeG
  rw [e, Int.toNat_natCast]
  exact whole_VL cl h5 _ j (by rw [List.length_map]; exact hj)
theorem dbl_is : ∀ l, StrLaws.dbl 34 l = dblL l
  | [] => rfl
  | c :: l => by
    show (if c = 34 then c :: c :: StrLaws.dbl 34 l else c :: StrLaws.dbl 34 l) = (if c = 34 then [34, 34] else [c]) ++ dblL l
    rw [dbl_is l]
    by_cases h : c = 34
    · subst h; rfl
    · rw [if_neg h, if_neg h]; rfl
theorem replace_marks {prog : Program} {w : World} {A : Around} {E : Value → Shared → Prop} {s : Shared} {l : List Nat} {t u v : Tok} {Q : Value → Shared → Prop} (hu : @Ne Nat u 0) (hv : @Ne Nat v 0) (huv : @Ne Nat u v) (hl : (S l).length ≤ 500)
    (h : ∀ t' k r, r = S (dblL l) → r.length ≤ 1000 → Q (.str r t') { s with toks := k }) : wpAny (model prog w) A (call (.builtin "str.replace") [.str (S l) t, .str (Str.ofString "\"") u, .str (Str.ofString "\"\"") v]) Q E s := by
  refine SC.replaceW hu hv huv (by decide) (by omega) (by decide) fun t' k => ?_
  have e : Txt.replace (S l) (Str.ofString "\"") (Str.ofString "\"\"") = S (dblL l) := by
    have a1 : Str.ofString "\"" = ⟨#[34]⟩ := by decide
    have a2 : Str.ofString "\"\"" = ⟨#[34, 34]⟩ := by decide
    refine Str.ext' (Array.ext' ?_)
    rw [a1, a2, StrLaws.replace_double, S_toList', S_toList', dbl_is]
  refine h t' k _ e ?_
  rw [e, S_length]
  rw [S_length] at hl
  have d1 : ∀ l, (dblL l).length ≤ 2 * l.length := by
    intro l
    induction l with
    | nil => exact Nat.le_refl _
    | cons c r ih =>
      show ((if c = 34 then [34, 34] else [c]) ++ dblL r).length ≤ 2 * (r.length + 1)
      rw [List.length_append]
      split <;> simp only [List.length_cons, List.length_nil] <;> omega
  have := d1 l
  omega
theorem len_257 : (Str.ofString "257 \"").length = 5 := by decide
theorem len_is : (Str.ofString "\" is \"\\").length = 7 := by decide
theorem add_small {prog : Program} {w : World} {A : Around} {E : Value → Shared → Prop} {s : Shared} {x y : Str} {t u : Tok} {Q : Value → Shared → Prop} (hx : x.length ≤ 5000) (hy : y.length ≤ 5000) (h : ∀ t' k r, r = x ++ y → r.length = x.length + y.length → Q (.str r t') { s with toks := k }) : wpAny (model prog w) A (binaryOp .Add (.str x t) (.str y u)) Q E s := by
  refine PyProof.Rows.add_str (fun t' k => h t' k _ rfl (Str.length_append ..)) ?_
  rw [sizeLine_eq]; omega
theorem item_whole {prog : Program} {w : World} {A : Around} {E : Value → Shared → Prop} {s : Shared} {value slice : PySem.Expr} {D : Addr} {ys : List Value} {ns : List Int} {cl : List Nat} {k : Int} {j N : Nat} {u : Tok} {Q : Value → Shared → Prop}
    (ecl : coreF ns = S cl) (h5 : ∀ c ∈ cl, Five c) (hl : s.heap.IsList D ys.toArray) (hc : CarriedAll ys (List.map (fun k => PyData.str (wholeG ns k)) (rangeKs 0 N))) (hk : k = (j : Int)) (hj : j ≤ ns.length) (hN : N = ns.length + 1) (h4 : ns.length ≤ 4)
    (h : ∀ t, Q (.str (S (VL cl (List.map (fun k' => k'.fmod 2) ns) j)) t) s)
    (hs : subscripted slice false (.ref D) (.int k u) = operate [.ref D, .int k u] (getItem (.ref D) (.int k u)) := by with_unfolding_all rfl) :
    wpAny (model prog w) A (subscriptTail value slice (.ref D) (.int k u)) Q E s := by
  subst hk hN
  have hst := CarriedAll.strsOf hc
  have hsz : ys.length = ns.length + 1 := by
    have := hst.len_eq
    rw [List.length_map, rangeKs_length] at this
    exact this
  obtain ⟨t, ht⟩ : ∃ t, ys[j]? = some (Value.str (wholeG ns (j : Int)) t) := by
    have key : ∀ {vs : List Value} {xs : List Str}, StrsAre vs xs → ∀ (j : Nat) (x : Str), xs[j]? = some x → ∃ t, vs[j]? = some (Value.str x t) := by
      intro vs xs h
      induction h with
      | nil => intro j x hx; simp at hx
      | cons y t r ih =>
        intro j x hx
        cases j with
        | zero => simp at hx; exact ⟨t, by simp [hx]⟩
        | succ j => simp at hx; obtain ⟨t', e⟩ := ih j x hx; exact ⟨t', by simpa using e⟩
    refine key hst j _ ?_
    rw [List.getElem?_map]
    have : (rangeKs 0 (ns.length + 1))[j]? = some (j : Int) := by
      simp [rangeKs, show j < ns.length + 1 by omega]
    rw [this]
    rfl
  rw [wholeG_VL ecl h5 j hj] at ht
  exact tail_any hl.typeIs slot_list_getitem.lookup (wpAny_getItem_list hl (by omega) (by omega) (by simpa using ht) (h t)) hs
theorem ne_str_diff {prog : Program} {w : World} {A : Around} {E : Value → Shared → Prop} {s : Shared} {x y : Str} {t u : Tok} {Q : Value → Shared → Prop} (e : x = y) (h : Q (.bool false) s) : wpAny (model prog w) A (compareOp .NotEq (.str x t) (.str y u)) Q E s := ne_str_same e h

theorem item_succ {prog : Program} {w : World} {A : Around} {E : Value → Shared → Prop} {s : Shared} {value slice : PySem.Expr} {D : Addr} {ys : List Value} {ns : List Int} {cl : List Nat} {i N : Nat} {u : Tok} {Q : Value → Shared → Prop}
    (ecl : coreF ns = S cl) (h5 : ∀ c ∈ cl, Five c) (hl : s.heap.IsList D ys.toArray) (hc : CarriedAll ys (List.map (fun k => PyData.str (wholeG ns k)) (rangeKs 0 N))) (hj : i < ns.length) (hN : N = ns.length + 1) (h4 : ns.length ≤ 4)
    (h : ∀ t, Q (.str (S (VL cl (List.map (fun k' => k'.fmod 2) ns) (i + 1))) t) s)
    (hs : subscripted slice false (.ref D) (.int ((i : Int) + 1) u) = operate [.ref D, .int ((i : Int) + 1) u] (getItem (.ref D) (.int ((i : Int) + 1) u)) := by with_unfolding_all rfl) :
    wpAny (model prog w) A (subscriptTail value slice (.ref D) (.int ((i : Int) + 1) u)) Q E s :=
  item_whole (j := i + 1) ecl h5 hl hc (by omega) (by omega) hN h4 h hs
theorem layer_join {cl : List Nat} {hs : List Int} {i : Nat} (h : hs.getD i 0 ≠ 0) : S (joinF (S (VL cl hs i)).cps.toList) = S (VL cl hs (i + 1)) := by
  rw [S_toList']
  show _ = S (layerL _ _)
  rw [layerL, if_neg h]
theorem layer_257 {cl : List Nat} {hs : List Int} {i : Nat} {r1 r2 r3 : Str} (h : hs.getD i 0 = 0) (e1 : r1 = S (dblL (VL cl hs i))) (e2 : r2 = Str.ofString "257 \"" ++ r1) (e3 : r3 = r2 ++ Str.ofString "\" is \"\\") : r3 = S (VL cl hs (i + 1)) := by
  show _ = S (layerL _ _)
  rw [layerL, if_pos h, e3, e2, e1, S_of "257 \"" [50, 53, 55, 32, 34] (by decide), S_of "\" is \"\\" [34, 32, 105, 115, 32, 34, 92] (by decide), S_append, S_append]
  rfl
theorem tabPost_next {h₀ h' : Heap} {L P c9 I : Addr} {ln col : Nat} {q x X : Str} {R0 news : List (Addr × Obj)} {m₀ m' : Str → Option Value} {oI oc9 : Obj} {ps : Array Value} {s₁ : Shared} {tk : Nat} {tt : Tok} {Q : Flow → Shared → Prop} (hP : TabP ln col q ps c9 oc9) (hc : c9 ≠ I) (F : Fr h₀ L h' m') (N : News h₀ L h' news) (hsub : ∀ p ∈ (I, oI) :: (P, tabObj ps) :: (c9, oc9) :: R0, p ∈ news)
    (ht : m' (Str.ofString "text") = some (.str x tt)) (e : x = X) (hs : Same4 m₀ m') : TabPost h₀ L P ln col q R0 m₀ X I oI s₁ Q .next { s₁ with heap := h', toks := tk } := by
  subst e
  exact ⟨h', tk, m', tt, ps, c9, oc9, rfl, F, fun p hp => N p (hsub p hp), hc, hP, ht, hs⟩
end Mine
end
section
open PySem PySem.W PySem.Calls PyProof.Rows Builtin
namespace Mine
section
variable {prog : Program} {w : World} {A : Around} {E : Value → Shared → Prop} {s' : Shared} {h₀ h : Heap} {L a e C : Addr} {m mg mb : Str → Option Value} {cn : Str} {cs : Scope} {ccd : Value} {cl : List (Str × Addr)} {news : List (Addr × Obj)}
  {b₀ : Stmt} {suite : List Stmt} {pos np : Pos} {rest : List ExceptHandler} {Q : Flow → Shared → Prop} {KF : Frag} {bmB : List Value} {newId : String} {p : Program} {loose : List Str} {x : Str}
/-- an own exception caught by its name -/
theorem caught_C (hfr : A.frames = some [envX cn cs L a ccd cl]) (F : Fr h₀ L h m) (N : News h₀ L h news) (hx : FlyAt (hideAll h [L]) [envX cn cs L a ccd cl] e (.ref C) .none s'.heap) (U : h.UpToSlots s'.heap)
    (X : KF.In h₀) (T : TopRead p loose mg mb h₀) (ex : nsIn KF mainGlobals x = some (some (.ref C))) (q : excIn KF C bmB newId = true) (hbase : bmB.contains (.type "BaseException") = true)
    (hk : cs.kind = .function) (hxk : (envX cn cs L a ccd cl).kindOf x = some .globalImplicit) (hd : (x == ("__debug__" : Str)) = false)
    (k : ∀ h' oe vs, Fr h₀ L h' m → News h₀ L h' ((e, oe) :: news) → oe.data = .fields vs → vs[2]? = some .none →
      wpAny (model prog w) (A.mark (some (.ref e))) (execs (b₀ :: suite) (envX cn cs L a ccd cl)) Q (fun _ _ => False) { s' with heap := h' }) :
    wpAny (model prog w) A (noteFrame (.ref e) (envX cn cs L a ccd cl))
      (fun _ s₂ => wpAny (model prog w) A (setFlight (.ref e) none) (fun _ s₃ =>
        wpAny (model prog w) A (handleBy (.ref e) (envX cn cs L a ccd cl) (.ExceptHandler (some (.Name x np)) none (b₀ :: suite) pos :: rest)) Q E s₃) E s₂) E s' := by
  have hL0 : h₀.get? L = none := by
    cases z : h₀.get? L with
    | none => rfl
    | some o => exact absurd (Nat.lt_of_lt_of_le (Heap.lt_size z) F.above) (Nat.lt_irrefl _)
  have below : ∀ {b : Addr} {o : Obj}, h₀.get? b = some o → (hideAll h [L]).get? b = some o := fun {b o} z => hideAll_get _ (F.keep _ _ z) fun hm => by
    rw [List.mem_singleton.mp hm, hL0] at z; cases z
  refine note_on hfr rfl hx fun h₄ x₄ u₄ => ?_
  refine land x₄ fun h₅ x₅ u₅ => ?_
  have F₅ : Fr h₀ L h₅ m := F.of_stays (fun b o z => x₅.1 b o (below z)) (U.trans (u₄.trans u₅))
  obtain ⟨ob, hob, hobc⟩ := x₅.there
  refine wpAny_handleBy_cons (codeAny_handlers_test (nameX_K F₅ X T ex ?_ hk hxk hd)) (by intro q; cases q)
  obtain ⟨bm, N₀, nm, qn, bs, hdct, sn, sub, ab, col, dd, k0, k1, k2, k3, k5, mN, hC, hN, hni, TL⟩ := ((own_of_in X T ex q).keeps F₅.keep).obj
  refine wpAny_excMatches_sub_self hC hob hobc (TL.hasType hbase) (codeAny_handlers_suite ?_)
  refine land x₅ fun h₆ x₆ u₆ => ?_
  have F₆ : Fr h₀ L h₆ m := F.of_stays (fun b o z => x₆.1 b o (below z)) ((U.trans (u₄.trans u₅)).trans u₆)
  obtain ⟨y1, y2, _, oe, vs, _, _, _, he, _, hde, _, h2, _⟩ := x₆
  refine wpAny_noRaise (k h₆ oe vs F₆ (fun p hp => ?_) hde h2)
  rcases List.mem_cons.mp hp with rfl | hp
  · refine ⟨he, fun z => ?_, ?_⟩
    · obtain ⟨oL, es, ep, hL, hdL, _⟩ := F₆.ns
      have z' : e = L := z
      rw [z', hL] at he
      cases he
      rw [hdL] at hde
      cases hde
    · cases z : h₀.get? e with
      | none => rfl
      | some o => rw [below z] at y2; cases y2
  · obtain ⟨n1, n2, n3⟩ := N p hp
    exact ⟨y1 _ _ (hideAll_get _ n1 fun hm => n2 (List.mem_singleton.mp hm)), n2, n3⟩
end
theorem hand_news {h₀ h : Heap} {L e : Addr} {news : List (Addr × Obj)} {oe : Obj} {vs : Array Value} (N : News h₀ L h news) (hm : (e, oe) ∈ news) (hd : oe.data = .fields vs) (h2 : vs[2]? = some .none) : HandOk (some (.ref e)) h :=
  .inr ⟨e, rfl, oe, vs, (N _ hm).1, hd, h2⟩
theorem news_fresh {h₀ h h' : Heap} {L x : Addr} {o : Obj} {m : Str → Option Value} {news : List (Addr × Obj)} (F : Fr h₀ L h m) (N : News h₀ L h' news) (hx : h.get? x = none) (hx' : h'.get? x = some o) : News h₀ L h' ((x, o) :: news) := by
  intro p hp
  rcases List.mem_cons.mp hp with rfl | hp
  · refine ⟨hx', fun e => ?_, ?_⟩
    · obtain ⟨oL, es, ep, hL, _⟩ := F.ns
      have e' : x = L := e
      rw [e', hL] at hx; cases hx
    · exact none_back F.keep hx
  · exact N p hp
/-- the objects that split hands back, onto the ledger -/
theorem split_news {h₀ h h' : Heap} {L r : Addr} {v : Str} {m : Str → Option Value} {news : List (Addr × Obj)} (F : Fr h₀ L h m) (N : News h₀ L h' news) (so : SplitOut h h' r v) :
    ∃ pl a1 a2 n1 n2 t1 t2 t3, News h₀ L h' ((r, W.listOf [Value.ref pl].toArray n1) :: (pl, W.listOf [Value.ref a1, Value.ref a2].toArray n2) :: (a1, tupO [.str (Str.ofString "k") t1, .str v t2]) :: (a2, tupO [.str (Str.ofString "v") t3, .none]) :: news) := by
  obtain ⟨pl, a1, a2, n1, n2, t1, t2, t3, ⟨q1, q2, q3, q4⟩, o1, o2, o3, o4⟩ := so
  exact ⟨pl, a1, a2, n1, n2, t1, t2, t3, news_fresh F (news_fresh F (news_fresh F (news_fresh F N q4 o4) q3 o3) q2 o2) q1 o1⟩
section
variable {prog : Program} {w : World} {A : Around} {E : Value → Shared → Prop} {s : Shared}
theorem reads_kv {h : Heap} {r pl a1 a2 : Addr} {x : Str} {t1 t2 t3 : Tok} (k1 : h.IsList r [Value.ref pl].toArray) (k2 : h.IsList pl [Value.ref a1, Value.ref a2].toArray) (k3 : h.IsTuple a1 [Value.str (Str.ofString "k") t1, Value.str x t2].toArray) (k4 : h.IsTuple a2 [Value.str (Str.ofString "v") t3, Value.none].toArray) :
    ∃ as, Reads h (.ref r) (.list [.list [.tuple [.str (Str.ofString "k"), .str x], .tuple [.str (Str.ofString "v"), .none]]]) as := by
  obtain ⟨o1, g1, c1, n1, d1⟩ := k1
  obtain ⟨o2, g2, c2, n2, d2⟩ := k2
  obtain ⟨o3, g3, c3, n3, d3⟩ := k3
  obtain ⟨o4, g4, c4, n4, d4⟩ := k4
  exact ⟨_, .list g1 c1 d1 (.cons (.list g2 c2 d2 (.cons (.tuple g3 c3 d3 (.cons (.str _ _) (.cons (.str _ _) .nil))) (.cons (.tuple g4 c4 d4 (.cons (.str _ _) (.cons .none .nil))) .nil))) .nil)⟩
theorem ne_kv {r pl a1 a2 r' pl' a1' a2' : Addr} {x : Str} {t1 t2 t3 t1' t2' t3' : Tok} {Q : Value → Shared → Prop}
    (k1 : s.heap.IsList r [Value.ref pl].toArray) (k2 : s.heap.IsList pl [Value.ref a1, Value.ref a2].toArray) (k3 : s.heap.IsTuple a1 [Value.str (Str.ofString "k") t1, Value.str x t2].toArray) (k4 : s.heap.IsTuple a2 [Value.str (Str.ofString "v") t3, Value.none].toArray)
    (j1 : s.heap.IsList r' [Value.ref pl'].toArray) (j2 : s.heap.IsList pl' [Value.ref a1', Value.ref a2'].toArray) (j3 : s.heap.IsTuple a1' [Value.str (Str.ofString "k") t1', Value.str x t2'].toArray) (j4 : s.heap.IsTuple a2' [Value.str (Str.ofString "v") t3', Value.none].toArray)
    (hok : PyData.strOk x = true) (hu : A.units + 64 < cLine) (h : Q (.bool false) s) : wpAny (model prog w) A (compareOp .NotEq (.ref r) (.ref r')) Q E s := by
  obtain ⟨as, ra⟩ := reads_kv k1 k2 k3 k4
  obtain ⟨bs, rb⟩ := reads_kv j1 j2 j3 j4
  have ks : PyData.strOk (Str.ofString "k") = true := by decide +kernel
  have vs : PyData.strOk (Str.ofString "v") = true := by decide +kernel
  have sh : SeqAt.shaped (.list [.list [.tuple [.str (Str.ofString "k"), .str x], .tuple [.str (Str.ofString "v"), .none]]]) = true := by
    simp [SeqAt.shaped, PyData.canLay0, PyData.canLayAll0, PyData.depth, PyData.depthAll, hok, ks, vs]
  refine ne_dataH ra rb sh sh hu ?_
  have e : PyData.eqv (.list [.list [.tuple [.str (Str.ofString "k"), .str x], .tuple [.str (Str.ofString "v"), .none]]]) (.list [.list [.tuple [.str (Str.ofString "k"), .str x], .tuple [.str (Str.ofString "v"), .none]]]) = true := by
    simp [PyData.eqv, PyData.eqvAll]
  rw [e]
  exact h
end
theorem slice_S (l : List Nat) {a b : Nat} (hab : a ≤ b) (hb : b ≤ l.length) : Txt.slice (S l) (some (a : Int)) (some (b : Int)) = S ((l.drop a).take (b - a)) := by
  have hx : (S l).length = l.length := S_length l
  unfold Txt.slice
  split
  · rename_i h
    simp only [beq_self_eq_true, Bool.true_and, beq_iff_eq] at h
    rw [hx, StrLaws.strSliceIndices_plain hab hb, List.length_map, List.length_range] at h
    have e1 : a = 0 := by omega
    have e2 : b = l.length := by omega
    subst e1 e2
    simp
  · rw [StrLaws.sliced_plain (S l) hab (by rw [hx]; exact hb)]
theorem slice_none (x : Str) (b : Int) : Txt.slice x none (some b) = Txt.slice x (some 0) (some b) := by
  have e : Builtin.Str.strSliceIndices none (some b) 1 x.length = Builtin.Str.strSliceIndices (some 0) (some b) 1 x.length := by
    unfold Builtin.Str.strSliceIndices
    have z : max (0 : Int) (min 0 (x.length : Int)) = 0 := by omega
    simp [z]
  unfold Txt.slice
  rw [e]
theorem fr_slices (l : List Nat) : Txt.slice (S (fr257 l)) none (some 3) = Str.ofString "257" ∧ Txt.slice (S (fr257 l)) (some 3) (some 5) = Str.ofString " \"" := by
  have e : fr257 l = 50 :: 53 :: 55 :: 32 :: 34 :: (dblL l ++ [34, 32, 105, 115, 32, 34, 92]) := by unfold fr257; simp
  have hl : 5 ≤ (fr257 l).length := by rw [e]; simp
  constructor
  · rw [slice_none]
    have := slice_S (fr257 l) (a := 0) (b := 3) (by decide) (by omega)
    refine this.trans ?_
    rw [e]; rfl
  · have := slice_S (fr257 l) (a := 3) (b := 5) (by decide) (by omega)
    refine this.trans ?_
    rw [e]; rfl
theorem join_slice (l : List Nat) : Txt.slice (S (joinF l)) none (some 3) ≠ Str.ofString "257" := by
  have e : ∃ c d r, joinF l = 107 :: c :: d :: r := by
    unfold joinF
    split
    · unfold joinB
      cases l with
      | nil => exact ⟨61, 59, [32, 118], rfl⟩
      | cons c r => exact ⟨61, c, r ++ [59, 32, 118], rfl⟩
    · unfold joinQ
      exact ⟨61, 34, escL l ++ [34, 59, 32, 118], by simp⟩
  obtain ⟨c, d, r, e⟩ := e
  rw [slice_none]
  have := slice_S (joinF l) (a := 0) (b := 3) (by decide) (by rw [e]; simp)
  rw [show ((3 : Int)) = ((3 : Nat) : Int) from rfl, show ((0 : Int)) = ((0 : Nat) : Int) from rfl, this, e]
  intro q
  have z : Str.ofString "257" = S [50, 53, 55] := by decide
  rw [z] at q
  have := S_inj q
  simp at this
section
variable {prog : Program} {w : World} {A : Around} {E : Value → Shared → Prop} {s : Shared} {env : Env} {h₀ : Heap} {body : List Stmt} {Q : Flow → Shared → Prop}
theorem tab_loop2 {r : Addr} {e1 e2 e3 e4 e5 e6 : Addr × Obj} {a₀ b₀ c : Int} {t₀ u₀ v₀ tt0 : Tok} {n : Nat} {m₀ : Str → Option Value} (V : Nat → Str)
    (hh : A.handled = none) (hr : IsRange s.heap r a₀ b₀ c t₀ u₀ v₀) (hsmall : Builtin.Range.small a₀ b₀ c = true) (hn : Builtin.Range.rangeSize a₀ b₀ c = (n : Int)) (F : Fr h₀ env.locals s.heap m₀) (N : News h₀ env.locals s.heap [e1, e2, e3, e4, e5, e6, (65, tabObj #[])])
    (hR : e1.1 ≠ 65 ∧ e3.1 ≠ 65 ∧ e4.1 ≠ 65 ∧ e5.1 ≠ 65 ∧ e6.1 ≠ 65) (ht : m₀ (Str.ofString "text") = some (.str (V 0) tt0))
    (turn : ∀ i t tt ps c9 oc9 u2 u3 h tk I oI, i < n → TabP 26 49 qualS ps c9 oc9 → c9 ≠ I → (∀ p ∈ (I, oI) :: [e1, e3, e4, e5, e6], p.1 ≠ 65) →
      Fr h₀ env.locals h (fun y => if y = Str.ofString "number" then some (.int (a₀ + (i : Int) * c) t) else if y = Str.ofString "text" then some (.str (V i) tt) else if y = Str.ofString "lists" then u2 else if y = Str.ofString "hand" then u3 else m₀ y) → News h₀ env.locals h [(I, oI), (65, tabObj ps), (c9, oc9), e1, e3, e4, e5, e6] →
      wpAny (model prog w) A (execs body env) (TabPost h₀ env.locals 65 26 49 qualS [e1, e3, e4, e5, e6] m₀ (V (i + 1)) I oI { s with heap := h, toks := tk } Q) (fun _ _ => False) { s with heap := h, toks := tk })
    (done : ∀ tt ps c9 oc9 u1 u2 u3 h tk, TabP 26 49 qualS ps c9 oc9 → Fr h₀ env.locals h (fun y => if y = Str.ofString "number" then u1 else if y = Str.ofString "text" then some (.str (V n) tt) else if y = Str.ofString "lists" then u2 else if y = Str.ofString "hand" then u3 else m₀ y) → News h₀ env.locals h [(65, tabObj ps), (c9, oc9), e1, e3, e4, e5, e6] → Q .next { s with heap := h, toks := tk }) :
    wpAny (model prog w) A (pyIter (.ref r)) (fun it s₂ => LoopAtV prog w A h₀ env (Str.ofString "number") body Q E it s₂) E s :=
  tab_loop (R0 := [e1, e3, e4, e5, e6]) (c0 := e1.1) (oc0 := e1.2) (ps0 := #[]) V hh hr hsmall hn F N (by intro p hp; simp only [List.mem_cons, List.not_mem_nil, or_false] at hp ⊢; rcases hp with rfl | rfl | rfl | rfl | rfl | rfl | rfl <;> simp) (by intro p hp; simp only [List.mem_cons, List.not_mem_nil, or_false] at hp; rcases hp with rfl | rfl | rfl | rfl | rfl <;> simp only [hR, ne_eq, not_false_eq_true]) (.inl rfl) ht (fun i t tt ps c9 oc9 u2 u3 h tk I oI x1 x2 x3 x4 x5 x6 => wpAny_noRaise (turn i t tt ps c9 oc9 u2 u3 h tk I oI x1 x2 x3 x4 x5 x6)) done
end
theorem hands01 (ns : List Int) (j : Nat) (_ : j < ns.length) : (List.map (fun k' : Int => k'.fmod 2) ns).getD j 0 = 0 ∨ (List.map (fun k' : Int => k'.fmod 2) ns).getD j 0 = 1 := by
  rw [List.getD_eq_getElem?_getD, List.getElem?_map]
  cases ns[j]? with
  | none => exact .inl rfl
  | some k =>
    have h1 := Int.fmod_nonneg_of_pos k (show (0 : Int) < 2 by decide)
    have h2 := Int.fmod_lt_of_pos k (show (0 : Int) < 2 by decide)
    show k.fmod 2 = 0 ∨ k.fmod 2 = 1
    omega
theorem VL_ok (cl : List Nat) (h5 : ∀ c ∈ cl, Five c) (hs : List Int) : ∀ j, PyData.strOk (S (VL cl hs j)) = true := by
  have key : ∀ j, ∀ c ∈ VL cl hs j, c < 200 := by
    intro j
    have p2 : ∀ (M Sl l : List Nat), (∀ c ∈ M, c < 200) → (∀ c ∈ Sl, c < 200) → (∀ c ∈ l, c < 200) → ∀ c ∈ putL M Sl l, c < 200 := by
      intro M Sl l hM hS hl c hc
      obtain ⟨d, hd, hc⟩ := List.mem_flatMap.mp hc
      split at hc
      · exact hM c hc
      · split at hc
        · exact hS c hc
        · rw [List.mem_singleton.mp hc]; exact hl d hd
    have fr : ∀ (a b m : List Nat), (∀ c ∈ a, c < 200) → (∀ c ∈ b, c < 200) → (∀ c ∈ m, c < 200) → ∀ c ∈ a ++ m ++ b, c < 200 := by
      intro a b m ha hb hm c hc
      rcases List.mem_append.mp hc with hc | hc
      · rcases List.mem_append.mp hc with hc | hc
        · exact ha c hc
        · exact hm c hc
      · exact hb c hc
    induction j with
    | zero => exact fun c hc => by rcases h5 c hc with rfl | rfl | rfl | rfl | rfl <;> decide
    | succ j ih =>
      show ∀ c ∈ layerL _ _, c < 200
      unfold layerL
      split
      · unfold fr257
        rw [dbl_put]
        exact fr _ _ _ (by decide) (by decide) (p2 _ _ _ (by decide) (by decide) ih)
      · unfold joinF
        split
        · exact fr _ _ _ (by decide) (by decide) ih
        · unfold joinQ
          rw [esc_put]
          exact fr _ _ _ (by decide) (by decide) (p2 _ _ _ (by decide) (by decide) ih)
  intro j
  show ((VL cl hs j).toArray.all _) = true
  rw [List.all_toArray, List.all_eq_true]
  intro c hc
  have := key j c hc
  simp
  omega
end Mine
end
section
open PySem PySem.W PySem.Calls PyProof.Rows
set_option maxHeartbeats 4000000
namespace Mine
theorem law_walk : PySem.Challenge.rw_nb0164_01.Holds := by
  k_with_none
  (k_with "my CompSrc" => k_search (by ((k_here; (with_reducible show LCg.CompSrc _ _ _ _ _ _ _ (Expr.Subscript _ _ _) _ _ _ _ _ _); k_dflt (refine LCg.CompSrc.ledger (by rfl) (by k_asm) (by k_asm) (by k_mem) (by kcf_size) ?_; intro g'; (refine' kct_list signF (by first | assumption | l_ints) (fun k' t' I' oI' C' oC' D' m' ys' h' tk' E' hk' hC' hx' F' N' off' ne' => ?_) ?_); (all_goals (try (simp only [LCg.Off3, and_true] at off'))); (all_goals (try ((show KPfMark → _); intro hMark'))); kcf_last)))))
  (k_with "my KCtEl" => k_search (by ((first | exact kct_el rfl (by with_unfolding_all rfl) (by with_unfolding_all rfl)))))
  (k_with "my call builtin:str.join" => k_search (by ((k_here; k_dflt (refine join_core (by first | assumption | is_list | exact News.isList (by k_asm) (by k_mem)) (by assumption) (by assumption) ?_; intro zzt9 zzk9 zzl9; (try dsimp only))))))
  (k_with "my call ref" => k_search (by ((k_here; k_dflt (refine' whole_spec ?zzk1 ?zzk2 ?zzk3 ?zzk5 ?zzkK ?zzd ?zzu ?zzhn ?zzh1 ?zzhok ?zzhli ?zzhin ?zzh4 ?_; (case zzk1 => k_asm); (case zzk2 => k_asm); (case zzk3 => k_asm); (case zzk5 => k_asm); (case zzkK => first | exact rfl | assumption); (case zzhn => exact rfl); (case zzd => ktr_room); (case zzu => ktr_units); (case zzh1 => omega); (case zzhok => exact core_ok _); (case zzhli => is_list); (case zzhin => first | assumption | l_ints); (case zzh4 => (simp only [List.length_take, List.length_map]; omega)); intro zzr9 zzt9 zzh9 zztk9 zzK9 zze9 zzl9; subst zze9; (have zzF9 := fr_on (by k_asm) zzK9); (have zzN9 := news_on (by k_asm) zzK9); clear zzK9; (try k_sweep); (try dsimp only))))))
  (k_with "my call builtin:str.replace" => k_search (by ((k_here; k_dflt (refine replace_marks (by omega) (by omega) (by omega) (by omega) ?_; intro zzt9 zzk9 zzr9 zze9 zzl9; (try dsimp only))))))
  (k_with "my call ref" => k_search (by ((k_here; k_dflt (refine' join_spec ?zzk1 ?zzk2 ?zzk3 ?zzk5 ?zzkK ?zzd ?zzu ?zzhn ?zzN ?zzm1 ?zzm2 ?zzhP ?zzl1 ?zzl2 ?zzl3 ?zzl4 ?zzs1 ?zzs2 ?_; (case zzhP => assumption); (case zzk1 => k_asm); (case zzk2 => k_asm); (case zzk3 => k_asm); (case zzk5 => k_asm); (case zzkK => first | exact rfl | assumption); (case zzhn => exact rfl); (case zzd => ktr_room); (case zzu => ktr_units); (case zzN => k_asm); (case zzm1 => k_mem); (case zzm2 => k_mem); (case zzl1 => is_list); (case zzl2 => is_list); (case zzl3 => exact tuple_of_news (by k_asm) (by k_mem)); (case zzl4 => exact tuple_of_news (by k_asm) (by k_mem)); (case zzs1 => omega); (case zzs2 => omega); intro zzr9 zzt9 zzh9 zztk9 zzps9 zzc9 zzoc9 zzK9 zzq1 zzq2 zzq3 zzq4 zze9; (have zzc10 := code_ne_I zzq3 (by assumption) (by k_asm) (by k_mem)); (have zzN9 := tab_back (by assumption) (by k_asm) (by k_asm) (by kcf_all) zzK9 zzq1 zzq2 zzq3); (have zzF9 := fr_but (by k_asm) (by k_asm) (by k_mem) zzK9); subst zze9; clear zzK9 zzq1 zzq2 zzq3; (try k_sweep); (try dsimp only))))))
  (k_with "my binaryOp Add str str" => k_search (by ((k_here; k_dflt (refine' add_small ?zza ?zzb ?_; (case zza => first | decide | omega); (case zzb => first | decide | omega); intro zzt9 zzk9 zzr9 zze9 zzl9; (simp only [len_257, len_is] at zzl9); (try dsimp only))))))
  (k_with "my subscriptTail Name BinOp ref int" => k_search (by ((k_here; (with_reducible show wpAny _ _ (subscriptTail _ _ (Value.ref _) (Value.int (((_ : Nat) : Int) + 1) _)) _ _ _); k_dflt (refine' item_succ ?zzja ?zzjb ?zzjc ?zzjd ?zzje ?zzjf ?zzjg ?_ ?zzjh; (case zzja => assumption); (case zzjb => assumption); (case zzjc => is_list); (case zzjd => assumption); (case zzje => assumption); (case zzjf => (rw [List.length_map]; omega)); (case zzjg => assumption); (case zzjh => with_unfolding_all rfl); intro zzt9; (try dsimp only))))))
  (k_with "my mine parse ok" => k_search (by ((k_here; k_dflt (refine' parse_spec ?zzk1 ?zzk2 ?zzk3 ?zzk5 ?zzkK ?zzd ?zzu ?zzhn ?zzhx ?zzhl ?zzs3 ?zzs5 ?_; (case zzhx => exact rfl); (case zzs3 => exact (fr_slices _).1); (case zzs5 => exact (fr_slices _).2); (case zzhl => omega); (case zzk1 => k_asm); (case zzk2 => k_asm); (case zzk3 => k_asm); (case zzk5 => k_asm); (case zzkK => first | exact rfl | assumption); (case zzhn => exact rfl); (case zzd => ktr_room); (case zzu => ktr_units); intro zzr9 zzt9 zzh9 zztk9 zzK9 zze9; subst zze9; (have zzF9 := fr_on (by k_asm) zzK9); (have zzN9 := news_on (by k_asm) zzK9); clear zzK9; (try k_sweep); (try dsimp only))))))
  (k_with "my mine parse no" => k_search (by ((k_here; k_dflt (refine' parse_raise ?zzk1 ?zzk2 ?zzk3 ?zzk5 ?zzkK ?zzd ?zzu ?zzhn ?zzhl ?zzs3 ?_; (case zzs3 => exact join_slice _); (case zzhl => omega); (case zzk1 => k_asm); (case zzk2 => k_asm); (case zzk3 => k_asm); (case zzk5 => k_asm); (case zzkK => first | exact rfl | assumption); (case zzhn => exact rfl); (case zzd => ktr_room); (case zzu => ktr_units); intro zze9 zzh9 zztk9 zzx9 zzU9; (try dsimp only))))))
  (k_with "my compareOp NotEq ref ref" => k_search (by ((k_here; k_dflt (refine' ne_kv ?zzk1 ?zzk2 ?zzk3 ?zzk4 ?zzj1 ?zzj2 ?zzj3 ?zzj4 ?zzok ?zzu ?_; (case zzk1 => is_list); (case zzk2 => is_list); (case zzk3 => exact tuple_of_news (by k_asm) (by k_mem)); (case zzk4 => exact tuple_of_news (by k_asm) (by k_mem)); (case zzj1 => is_list); (case zzj2 => is_list); (case zzj3 => exact tuple_of_news (by k_asm) (by k_mem)); (case zzj4 => exact tuple_of_news (by k_asm) (by k_mem)); (case zzok => exact VL_ok _ (by assumption) _ _); (case zzu => ktr_units); (try dsimp only))))))
  (k_with "my subscriptTail Name Name ref int" => k_search (by ((k_here; (with_reducible show wpAny _ _ (subscriptTail _ _ (Value.ref _) (Value.int ((_ : Nat) : Int) _)) _ _ _); k_dflt (refine' item_whole ?zzja ?zzjb ?zzjc ?zzjd ?zzje ?zzjf ?zzjg ?zzjx ?_ ?zzjh; (case zzja => assumption); (case zzjb => assumption); (case zzjc => is_list); (case zzjd => assumption); (case zzje => exact rfl); (case zzjf => omega); (case zzjg => (rw [List.length_map]; omega)); (case zzjx => assumption); (case zzjh => with_unfolding_all rfl); intro zzt9; (try dsimp only))))))
  (k_with "my mine caught" => k_search (by ((k_here; k_dflt (refine' caught_C (bmB := [.type "Exception", .type "BaseException", .type "object"]) (newId := "Exception.__new__") ?zzhfr ?zzF ?zzN ?zzhx ?zzU ?zzX ?zzT ?zzex ?zzq ?zzhb ?zzhk ?zzhxk ?zzhd ?_; (case zzhx => assumption); (case zzhfr => exact rfl); (case zzF => k_asm); (case zzN => k_asm); (case zzU => assumption); (case zzX => k_asm); (case zzT => k_asm); (case zzex => k_is); (case zzq => k_exc); (case zzhb => rfl); (case zzhk => exact rfl); (case zzhxk => exact rfl); (case zzhd => decide); k_whole; intro zzh9 zzoe9 zzvs9 zzF9 zzN9 zzhoe9 zzhov9; (try k_sweep); (try dsimp only))))))
  (k_with "my mine split" => k_search (by ((k_here; k_dflt (refine' split_spec ?zzk1 ?zzk2 ?zzk3 ?zzk5 ?zzkK ?zzd ?zzu ?zzhn ?zzN ?zzm1 ?zzm2 ?zzhP ?zzl1 ?zzhx ?zzs1 ?zzs2 ?zzs3 ?_; (case zzhP => assumption); (case zzhx => exact rfl); (case zzk1 => k_asm); (case zzk2 => k_asm); (case zzk3 => k_asm); (case zzk5 => k_asm); (case zzkK => first | exact rfl | assumption); (case zzhn => exact hand_news (by k_asm) (by k_mem) (by assumption) (by assumption)); (case zzd => ktr_room); (case zzu => ktr_units); (case zzN => k_asm); (case zzm1 => k_mem); (case zzm2 => k_mem); (case zzl1 => is_list); (case zzs1 => omega); (case zzs2 => omega); (case zzs3 => assumption); intro zzr9 zzh9 zztk9 zzps9 zzc9 zzoc9 zzK9 zzq1 zzq2 zzq3 zzq4 zzq5; (have zzc10 := code_ne_I zzq3 (by assumption) (by k_asm) (by k_mem)); (have zzN9 := tab_back (by assumption) (by k_asm) (by k_asm) (by kcf_all) zzK9 zzq1 zzq2 zzq3); (have zzN10 := split_news (by k_asm) zzN9 zzq5); (have zzF9 := fr_but (by k_asm) (by k_asm) (by k_mem) zzK9); (obtain ⟨zzpl9, zza19, zza29, zzn19, zzn29, zzt19, zzt29, zzt39, zzN11⟩ := zzN10); clear zzK9 zzq1 zzq2 zzq3 zzq5 zzN9; (try k_sweep); (try dsimp only))))))
  (k_with "my callWith ref" => k_search (by ((k_here; k_dflt (refine' callWith_K ?zzk1 ?zzk2 ?_; (case zzk1 => k_asm); (case zzk2 => k_is); k_whole)))))
  (k_with "my ne" => (first | exact Nat.ne_of_beq_eq_false rfl | exact Nat.ne_of_lt (by with_reducible assumption) | exact Nat.ne_of_gt (by with_reducible assumption) | with_reducible assumption | exact Ne.symm (by with_reducible assumption) | exact Nat.ne_of_gt (cj0 (by with_reducible assumption)) | exact Nat.ne_of_gt (cj1 (by with_reducible assumption)) | exact Nat.ne_of_gt (ck1 (by with_reducible assumption)) | exact Nat.ne_of_gt (cj2 (by with_reducible assumption)) | exact Nat.ne_of_gt (ck2 (by with_reducible assumption)) | exact Nat.ne_of_gt (cj3 (by with_reducible assumption)) | exact Nat.ne_of_gt (ck3 (by with_reducible assumption)) | exact Nat.ne_of_gt (cj4 (by with_reducible assumption)) | exact Nat.ne_of_gt (ck4 (by with_reducible assumption)) | exact Nat.ne_of_gt (cj5 (by with_reducible assumption)) | exact Nat.ne_of_gt (ck5 (by with_reducible assumption)) | exact Nat.ne_of_gt (cj6 (by with_reducible assumption)) | exact Nat.ne_of_gt (ck6 (by with_reducible assumption)) | exact Nat.ne_of_gt (cj7 (by with_reducible assumption)) | exact Nat.ne_of_gt (ck7 (by with_reducible assumption)) | exact Nat.ne_of_gt (cj8 (by with_reducible assumption)) | exact Nat.ne_of_gt (ck8 (by with_reducible assumption)) | exact Nat.ne_of_gt (cj9 (by with_reducible assumption)) | exact Nat.ne_of_gt (ck9 (by with_reducible assumption)) | exact Nat.ne_of_gt (cj10 (by with_reducible assumption)) | exact Nat.ne_of_gt (ck10 (by with_reducible assumption)) | exact Nat.ne_of_gt (cj11 (by with_reducible assumption)) | exact Nat.ne_of_gt (ck11 (by with_reducible assumption)) | exact Nat.ne_of_gt (cj12 (by with_reducible assumption)) | exact Nat.ne_of_gt (ck12 (by with_reducible assumption)) | exact Nat.ne_of_gt (cj13 (by with_reducible assumption)) | exact Nat.ne_of_gt (ck13 (by with_reducible assumption)) | exact Nat.ne_of_gt (cj14 (by with_reducible assumption)) | exact Nat.ne_of_gt (ck14 (by with_reducible assumption)) | exact Nat.ne_of_gt (cj15 (by with_reducible assumption)) | exact Nat.ne_of_gt (ck15 (by with_reducible assumption)) | exact Nat.ne_of_gt (cj16 (by with_reducible assumption)) | exact Nat.ne_of_gt (ck16 (by with_reducible assumption)) | exact Nat.ne_of_lt (cj0 (by with_reducible assumption)) | exact Nat.ne_of_lt (cj1 (by with_reducible assumption)) | exact Nat.ne_of_lt (ck1 (by with_reducible assumption)) | exact Nat.ne_of_lt (cj2 (by with_reducible assumption)) | exact Nat.ne_of_lt (ck2 (by with_reducible assumption)) | exact Nat.ne_of_lt (cj3 (by with_reducible assumption)) | exact Nat.ne_of_lt (ck3 (by with_reducible assumption)) | exact Nat.ne_of_lt (cj4 (by with_reducible assumption)) | exact Nat.ne_of_lt (ck4 (by with_reducible assumption)) | exact Nat.ne_of_lt (cj5 (by with_reducible assumption)) | exact Nat.ne_of_lt (ck5 (by with_reducible assumption)) | exact Nat.ne_of_lt (cj6 (by with_reducible assumption)) | exact Nat.ne_of_lt (ck6 (by with_reducible assumption)) | exact Nat.ne_of_lt (cj7 (by with_reducible assumption)) | exact Nat.ne_of_lt (ck7 (by with_reducible assumption)) | exact Nat.ne_of_lt (cj8 (by with_reducible assumption)) | exact Nat.ne_of_lt (ck8 (by with_reducible assumption)) | exact Nat.ne_of_lt (cj9 (by with_reducible assumption)) | exact Nat.ne_of_lt (ck9 (by with_reducible assumption)) | exact Nat.ne_of_lt (cj10 (by with_reducible assumption)) | exact Nat.ne_of_lt (ck10 (by with_reducible assumption)) | exact Nat.ne_of_lt (cj11 (by with_reducible assumption)) | exact Nat.ne_of_lt (ck11 (by with_reducible assumption)) | exact Nat.ne_of_lt (cj12 (by with_reducible assumption)) | exact Nat.ne_of_lt (ck12 (by with_reducible assumption)) | exact Nat.ne_of_lt (cj13 (by with_reducible assumption)) | exact Nat.ne_of_lt (ck13 (by with_reducible assumption)) | exact Nat.ne_of_lt (cj14 (by with_reducible assumption)) | exact Nat.ne_of_lt (ck14 (by with_reducible assumption)) | exact Nat.ne_of_lt (cj15 (by with_reducible assumption)) | exact Nat.ne_of_lt (ck15 (by with_reducible assumption)) | exact Nat.ne_of_lt (cj16 (by with_reducible assumption)) | exact Nat.ne_of_lt (ck16 (by with_reducible assumption)) | exact ne_gtt (by with_reducible assumption) (cj0 (by with_reducible assumption)) | exact ne_gtt (by with_reducible assumption) (cj1 (by with_reducible assumption)) | exact ne_gtt (by with_reducible assumption) (ck1 (by with_reducible assumption)) | exact ne_gtt (by with_reducible assumption) (cj2 (by with_reducible assumption)) | exact ne_gtt (by with_reducible assumption) (ck2 (by with_reducible assumption)) | exact ne_gtt (by with_reducible assumption) (cj3 (by with_reducible assumption)) | exact ne_gtt (by with_reducible assumption) (ck3 (by with_reducible assumption)) | exact ne_gtt (by with_reducible assumption) (cj4 (by with_reducible assumption)) | exact ne_gtt (by with_reducible assumption) (ck4 (by with_reducible assumption)) | exact ne_gtt (by with_reducible assumption) (cj5 (by with_reducible assumption)) | exact ne_gtt (by with_reducible assumption) (ck5 (by with_reducible assumption)) | exact ne_gtt (by with_reducible assumption) (cj6 (by with_reducible assumption)) | exact ne_gtt (by with_reducible assumption) (ck6 (by with_reducible assumption)) | exact ne_gtt (by with_reducible assumption) (cj7 (by with_reducible assumption)) | exact ne_gtt (by with_reducible assumption) (ck7 (by with_reducible assumption)) | exact ne_gtt (by with_reducible assumption) (cj8 (by with_reducible assumption)) | exact ne_gtt (by with_reducible assumption) (ck8 (by with_reducible assumption)) | exact ne_gtt (by with_reducible assumption) (cj9 (by with_reducible assumption)) | exact ne_gtt (by with_reducible assumption) (ck9 (by with_reducible assumption)) | exact ne_gtt (by with_reducible assumption) (cj10 (by with_reducible assumption)) | exact ne_gtt (by with_reducible assumption) (ck10 (by with_reducible assumption)) | exact ne_gtt (by with_reducible assumption) (cj11 (by with_reducible assumption)) | exact ne_gtt (by with_reducible assumption) (ck11 (by with_reducible assumption)) | exact ne_gtt (by with_reducible assumption) (cj12 (by with_reducible assumption)) | exact ne_gtt (by with_reducible assumption) (ck12 (by with_reducible assumption)) | exact ne_gtt (by with_reducible assumption) (cj13 (by with_reducible assumption)) | exact ne_gtt (by with_reducible assumption) (ck13 (by with_reducible assumption)) | exact ne_gtt (by with_reducible assumption) (cj14 (by with_reducible assumption)) | exact ne_gtt (by with_reducible assumption) (ck14 (by with_reducible assumption)) | exact ne_gtt (by with_reducible assumption) (cj15 (by with_reducible assumption)) | exact ne_gtt (by with_reducible assumption) (ck15 (by with_reducible assumption)) | exact ne_gtt (by with_reducible assumption) (cj16 (by with_reducible assumption)) | exact ne_gtt (by with_reducible assumption) (ck16 (by with_reducible assumption)) | exact ne_ltt (by with_reducible assumption) (cj0 (by with_reducible assumption)) | exact ne_ltt (by with_reducible assumption) (cj1 (by with_reducible assumption)) | exact ne_ltt (by with_reducible assumption) (ck1 (by with_reducible assumption)) | exact ne_ltt (by with_reducible assumption) (cj2 (by with_reducible assumption)) | exact ne_ltt (by with_reducible assumption) (ck2 (by with_reducible assumption)) | exact ne_ltt (by with_reducible assumption) (cj3 (by with_reducible assumption)) | exact ne_ltt (by with_reducible assumption) (ck3 (by with_reducible assumption)) | exact ne_ltt (by with_reducible assumption) (cj4 (by with_reducible assumption)) | exact ne_ltt (by with_reducible assumption) (ck4 (by with_reducible assumption)) | exact ne_ltt (by with_reducible assumption) (cj5 (by with_reducible assumption)) | exact ne_ltt (by with_reducible assumption) (ck5 (by with_reducible assumption)) | exact ne_ltt (by with_reducible assumption) (cj6 (by with_reducible assumption)) | exact ne_ltt (by with_reducible assumption) (ck6 (by with_reducible assumption)) | exact ne_ltt (by with_reducible assumption) (cj7 (by with_reducible assumption)) | exact ne_ltt (by with_reducible assumption) (ck7 (by with_reducible assumption)) | exact ne_ltt (by with_reducible assumption) (cj8 (by with_reducible assumption)) | exact ne_ltt (by with_reducible assumption) (ck8 (by with_reducible assumption)) | exact ne_ltt (by with_reducible assumption) (cj9 (by with_reducible assumption)) | exact ne_ltt (by with_reducible assumption) (ck9 (by with_reducible assumption)) | exact ne_ltt (by with_reducible assumption) (cj10 (by with_reducible assumption)) | exact ne_ltt (by with_reducible assumption) (ck10 (by with_reducible assumption)) | exact ne_ltt (by with_reducible assumption) (cj11 (by with_reducible assumption)) | exact ne_ltt (by with_reducible assumption) (ck11 (by with_reducible assumption)) | exact ne_ltt (by with_reducible assumption) (cj12 (by with_reducible assumption)) | exact ne_ltt (by with_reducible assumption) (ck12 (by with_reducible assumption)) | exact ne_ltt (by with_reducible assumption) (cj13 (by with_reducible assumption)) | exact ne_ltt (by with_reducible assumption) (ck13 (by with_reducible assumption)) | exact ne_ltt (by with_reducible assumption) (cj14 (by with_reducible assumption)) | exact ne_ltt (by with_reducible assumption) (ck14 (by with_reducible assumption)) | exact ne_ltt (by with_reducible assumption) (cj15 (by with_reducible assumption)) | exact ne_ltt (by with_reducible assumption) (ck15 (by with_reducible assumption)) | exact ne_ltt (by with_reducible assumption) (cj16 (by with_reducible assumption)) | exact ne_ltt (by with_reducible assumption) (ck16 (by with_reducible assumption)) | exact (cj0 (by with_reducible assumption)) | exact (cj1 (by with_reducible assumption)) | exact (ck1 (by with_reducible assumption)) | exact (cj2 (by with_reducible assumption)) | exact (ck2 (by with_reducible assumption)) | exact (cj3 (by with_reducible assumption)) | exact (ck3 (by with_reducible assumption)) | exact (cj4 (by with_reducible assumption)) | exact (ck4 (by with_reducible assumption)) | exact (cj5 (by with_reducible assumption)) | exact (ck5 (by with_reducible assumption)) | exact (cj6 (by with_reducible assumption)) | exact (ck6 (by with_reducible assumption)) | exact (cj7 (by with_reducible assumption)) | exact (ck7 (by with_reducible assumption)) | exact (cj8 (by with_reducible assumption)) | exact (ck8 (by with_reducible assumption)) | exact (cj9 (by with_reducible assumption)) | exact (ck9 (by with_reducible assumption)) | exact (cj10 (by with_reducible assumption)) | exact (ck10 (by with_reducible assumption)) | exact (cj11 (by with_reducible assumption)) | exact (ck11 (by with_reducible assumption)) | exact (cj12 (by with_reducible assumption)) | exact (ck12 (by with_reducible assumption)) | exact (cj13 (by with_reducible assumption)) | exact (ck13 (by with_reducible assumption)) | exact (cj14 (by with_reducible assumption)) | exact (ck14 (by with_reducible assumption)) | exact (cj15 (by with_reducible assumption)) | exact (ck15 (by with_reducible assumption)) | exact (cj16 (by with_reducible assumption)) | exact (ck16 (by with_reducible assumption)) | exact Ne.symm (cj0 (by with_reducible assumption)) | exact Ne.symm (cj1 (by with_reducible assumption)) | exact Ne.symm (ck1 (by with_reducible assumption)) | exact Ne.symm (cj2 (by with_reducible assumption)) | exact Ne.symm (ck2 (by with_reducible assumption)) | exact Ne.symm (cj3 (by with_reducible assumption)) | exact Ne.symm (ck3 (by with_reducible assumption)) | exact Ne.symm (cj4 (by with_reducible assumption)) | exact Ne.symm (ck4 (by with_reducible assumption)) | exact Ne.symm (cj5 (by with_reducible assumption)) | exact Ne.symm (ck5 (by with_reducible assumption)) | exact Ne.symm (cj6 (by with_reducible assumption)) | exact Ne.symm (ck6 (by with_reducible assumption)) | exact Ne.symm (cj7 (by with_reducible assumption)) | exact Ne.symm (ck7 (by with_reducible assumption)) | exact Ne.symm (cj8 (by with_reducible assumption)) | exact Ne.symm (ck8 (by with_reducible assumption)) | exact Ne.symm (cj9 (by with_reducible assumption)) | exact Ne.symm (ck9 (by with_reducible assumption)) | exact Ne.symm (cj10 (by with_reducible assumption)) | exact Ne.symm (ck10 (by with_reducible assumption)) | exact Ne.symm (cj11 (by with_reducible assumption)) | exact Ne.symm (ck11 (by with_reducible assumption)) | exact Ne.symm (cj12 (by with_reducible assumption)) | exact Ne.symm (ck12 (by with_reducible assumption)) | exact Ne.symm (cj13 (by with_reducible assumption)) | exact Ne.symm (ck13 (by with_reducible assumption)) | exact Ne.symm (cj14 (by with_reducible assumption)) | exact Ne.symm (ck14 (by with_reducible assumption)) | exact Ne.symm (cj15 (by with_reducible assumption)) | exact Ne.symm (ck15 (by with_reducible assumption)) | exact Ne.symm (cj16 (by with_reducible assumption)) | exact Ne.symm (ck16 (by with_reducible assumption)) | exact (cj0 (cj0 (by with_reducible assumption))) | exact (cj1 (cj0 (by with_reducible assumption))) | exact (ck2 (cj0 (by with_reducible assumption))) | exact (cj0 (cj1 (by with_reducible assumption))) | exact (cj1 (cj1 (by with_reducible assumption))) | exact (ck2 (cj1 (by with_reducible assumption))) | exact (cj0 (ck1 (by with_reducible assumption))) | exact (cj1 (ck1 (by with_reducible assumption))) | exact (ck2 (ck1 (by with_reducible assumption))) | exact (cj0 (cj2 (by with_reducible assumption))) | exact (cj1 (cj2 (by with_reducible assumption))) | exact (ck2 (cj2 (by with_reducible assumption))) | exact (cj0 (ck2 (by with_reducible assumption))) | exact (cj1 (ck2 (by with_reducible assumption))) | exact (ck2 (ck2 (by with_reducible assumption))) | exact (cj0 (cj3 (by with_reducible assumption))) | exact (cj1 (cj3 (by with_reducible assumption))) | exact (ck2 (cj3 (by with_reducible assumption))) | exact (cj0 (ck3 (by with_reducible assumption))) | exact (cj1 (ck3 (by with_reducible assumption))) | exact (ck2 (ck3 (by with_reducible assumption))) | exact (cj0 (cj4 (by with_reducible assumption))) | exact (cj1 (cj4 (by with_reducible assumption))) | exact (ck2 (cj4 (by with_reducible assumption))) | exact (cj0 (ck4 (by with_reducible assumption))) | exact (cj1 (ck4 (by with_reducible assumption))) | exact (ck2 (ck4 (by with_reducible assumption))) | exact (cj0 (cj5 (by with_reducible assumption))) | exact (cj1 (cj5 (by with_reducible assumption))) | exact (ck2 (cj5 (by with_reducible assumption))) | exact (cj0 (ck5 (by with_reducible assumption))) | exact (cj1 (ck5 (by with_reducible assumption))) | exact (ck2 (ck5 (by with_reducible assumption))) | exact (cj0 (cj6 (by with_reducible assumption))) | exact (cj1 (cj6 (by with_reducible assumption))) | exact (ck2 (cj6 (by with_reducible assumption))) | exact (cj0 (ck6 (by with_reducible assumption))) | exact (cj1 (ck6 (by with_reducible assumption))) | exact (ck2 (ck6 (by with_reducible assumption))) | exact (cj0 (cj7 (by with_reducible assumption))) | exact (cj1 (cj7 (by with_reducible assumption))) | exact (ck2 (cj7 (by with_reducible assumption))) | exact (cj0 (ck7 (by with_reducible assumption))) | exact (cj1 (ck7 (by with_reducible assumption))) | exact (ck2 (ck7 (by with_reducible assumption))) | exact (cj0 (cj8 (by with_reducible assumption))) | exact (cj1 (cj8 (by with_reducible assumption))) | exact (ck2 (cj8 (by with_reducible assumption))) | exact (cj0 (ck8 (by with_reducible assumption))) | exact (cj1 (ck8 (by with_reducible assumption))) | exact (ck2 (ck8 (by with_reducible assumption))) | exact Ne.symm (cj0 (cj0 (by with_reducible assumption))) | exact Ne.symm (cj1 (cj0 (by with_reducible assumption))) | exact Ne.symm (ck2 (cj0 (by with_reducible assumption))) | exact Ne.symm (cj0 (cj1 (by with_reducible assumption))) | exact Ne.symm (cj1 (cj1 (by with_reducible assumption))) | exact Ne.symm (ck2 (cj1 (by with_reducible assumption))) | exact Ne.symm (cj0 (ck1 (by with_reducible assumption))) | exact Ne.symm (cj1 (ck1 (by with_reducible assumption))) | exact Ne.symm (ck2 (ck1 (by with_reducible assumption))) | exact Ne.symm (cj0 (cj2 (by with_reducible assumption))) | exact Ne.symm (cj1 (cj2 (by with_reducible assumption))) | exact Ne.symm (ck2 (cj2 (by with_reducible assumption))) | exact Ne.symm (cj0 (ck2 (by with_reducible assumption))) | exact Ne.symm (cj1 (ck2 (by with_reducible assumption))) | exact Ne.symm (ck2 (ck2 (by with_reducible assumption))) | exact Ne.symm (cj0 (cj3 (by with_reducible assumption))) | exact Ne.symm (cj1 (cj3 (by with_reducible assumption))) | exact Ne.symm (ck2 (cj3 (by with_reducible assumption))) | exact Ne.symm (cj0 (ck3 (by with_reducible assumption))) | exact Ne.symm (cj1 (ck3 (by with_reducible assumption))) | exact Ne.symm (ck2 (ck3 (by with_reducible assumption))) | exact Ne.symm (cj0 (cj4 (by with_reducible assumption))) | exact Ne.symm (cj1 (cj4 (by with_reducible assumption))) | exact Ne.symm (ck2 (cj4 (by with_reducible assumption))) | exact Ne.symm (cj0 (ck4 (by with_reducible assumption))) | exact Ne.symm (cj1 (ck4 (by with_reducible assumption))) | exact Ne.symm (ck2 (ck4 (by with_reducible assumption))) | exact Ne.symm (cj0 (cj5 (by with_reducible assumption))) | exact Ne.symm (cj1 (cj5 (by with_reducible assumption))) | exact Ne.symm (ck2 (cj5 (by with_reducible assumption))) | exact Ne.symm (cj0 (ck5 (by with_reducible assumption))) | exact Ne.symm (cj1 (ck5 (by with_reducible assumption))) | exact Ne.symm (ck2 (ck5 (by with_reducible assumption))) | exact Ne.symm (cj0 (cj6 (by with_reducible assumption))) | exact Ne.symm (cj1 (cj6 (by with_reducible assumption))) | exact Ne.symm (ck2 (cj6 (by with_reducible assumption))) | exact Ne.symm (cj0 (ck6 (by with_reducible assumption))) | exact Ne.symm (cj1 (ck6 (by with_reducible assumption))) | exact Ne.symm (ck2 (ck6 (by with_reducible assumption))) | exact Ne.symm (cj0 (cj7 (by with_reducible assumption))) | exact Ne.symm (cj1 (cj7 (by with_reducible assumption))) | exact Ne.symm (ck2 (cj7 (by with_reducible assumption))) | exact Ne.symm (cj0 (ck7 (by with_reducible assumption))) | exact Ne.symm (cj1 (ck7 (by with_reducible assumption))) | exact Ne.symm (ck2 (ck7 (by with_reducible assumption))) | exact Ne.symm (cj0 (cj8 (by with_reducible assumption))) | exact Ne.symm (cj1 (cj8 (by with_reducible assumption))) | exact Ne.symm (ck2 (cj8 (by with_reducible assumption))) | exact Ne.symm (cj0 (ck8 (by with_reducible assumption))) | exact Ne.symm (cj1 (ck8 (by with_reducible assumption))) | exact Ne.symm (ck2 (ck8 (by with_reducible assumption)))))
  refine hd ?_
  k_go0
  (all_goals try k_fold)
  repeat' ((fail_if_success (with_reducible show wpAny _ _ (PySem.eval (Expr.BoolOp _ _ _) _) _ _ _)); (first | (k_unfold; (try dsimp only)) | (k_end; wrow_close) | walk1 | (dsimp only; walk1)))
  k_dflt (refine' rows_merge ?F ?N ?walk ?_)
  case F => k_asm
  case N => k_asm
  case walk =>
    intro Q' hQ'
    k_steps
    · k_dflt (refine' hQ' _ _ _ _ _ _ ?h1 ?h4 ?hi ?F ?hN ?hl)
      case hN => k_asm
      case hi => assumption
      case F => k_asm
      case hl => (simp only [AllLt, and_true]; omega)
      case h1 => omega
      case h4 => omega
    · k_dflt (refine' hQ' _ _ _ _ _ _ ?h1 ?h4 ?hi ?F ?hN ?hl)
      case hN => exact news_two (by k_asm) (by k_mem) (by kcf_all)
      case hi => exact .cons _ _ (.cons _ _ (.cons _ _ .nil))
      case F => k_asm
      case hl => (simp only [AllLt, and_true]; omega)
      case h1 => decide
      case h4 => decide
  intro R9 ws9 ns9 n9 h9 tk9 h1 h4 hi9 F9 N9 l9
  (simp only [AllLt, and_true] at l9)
  repeat' ((fail_if_success (with_reducible show LCg.CompSrc _ _ _ _ _ _ _ (Expr.Call _ _ _ _) _ _ _ _ _ _)); (first | (k_unfold; (try dsimp only)) | (k_end; wrow_close) | walk1 | (dsimp only; walk1)))
  k_here
  k_dflt (refine LCg.CompSrc.range (by rfl) (by k_asm) (by k_asm) (by assumption) (by first | exact small_one (by kcf_bnd) (by kcf_bnd) (by kcf_bnd) (by kcf_bnd) | decide) (by first | exact rangeSize_nat _ _ | rfl) (by (rw [PySem.sizeLine_eq]; kcf_lens; first | omega | ((simp only [List.size_toArray]); omega))) ?_)
  intro gg'
  k_dflt (refine' kct_range (wholeG ns9) (fun k' t' I' oI' C' oC' D' m' ys' h' tk' E' hlo' hhi' hC' hx' F' N' off' ne' hMark' => ?_) ?_)
  · (try (simp only [LCg.Off3, and_true] at off'))
    (try k_fold)
    repeat' ((fail_if_success (with_reducible show wpAny _ _ (PySem.call (Value.ref _) _) _ _ _)); (first | (k_unfold; (try dsimp only)) | (k_end; wrow_close) | walk1 | (dsimp only; walk1)))
    walk_at "call ref"
    refine' LCg.CompEnd.intro ?za ?zb _ ?zc ?zd ?ze ?zf
    case zf => (refine' kct_el (r' := wholeF (coreF ns9) (List.take k'.toNat (List.map (fun k' => k'.fmod 2) ns9))) ?z1 ?z2 ?z3; (case z3 => exact rfl); (case z2 => exact rfl); (case z1 => exact rfl))
    case za => assumption
    case zb => assumption
    case zc => kcf_all
    case zd => first | assumption | (simp only [LCg.Off3, and_true]; done) | (simp only [LCg.Off3, and_true]; assumption)
    case ze => first | lcg_src | assumption
  (try k_fold)
  repeat' ((fail_if_success (with_reducible show wpAny _ _ (PySem.pyIter (Value.ref _)) _ _ _)); (first | (k_unfold; (try dsimp only)) | (k_end; wrow_close) | walk1 | (dsimp only; walk1)))
  obtain ⟨cl, ecl, h5, hcl⟩ := core_five ns9
  k_here
  k_dflt (refine' tab_loop1 (n := ns9.length) (fun i => S (VL cl (List.map (fun k' => k'.fmod 2) ns9) i)) ?ya ?yb ?yc ?yd ?ye ?yf ?yr ?yg ?yh ?yi)
  case ya => rfl
  case yb => assumption
  case yc => exact small_one (by decide) (by decide) (by rw [List.length_map]; omega) (by rw [List.length_map]; omega)
  case yd => (rw [rangeSize_nat, List.length_map]; omega)
  case ye => k_asm
  case yf => k_asm
  case yr => (refine ⟨?_, ?_, ?_, ?_, ?_⟩ <;> k_ne)
  case yg => exact congrArg (fun x => some (Value.str x _)) ecl
  case yh =>
    intro i t8 tt8 ps8 c8 oc8 u2 u3 h8 tk8 I8 oI8 hi8 hP8 hc8 hD8 F8 N8
    obtain ⟨v1, v2, v3⟩ := VL_len cl h5 (by omega) (by omega) (List.map (fun k' => k'.fmod 2) ns9) i (by omega)
    have v4 : (S (VL cl (List.map (fun k' => k'.fmod 2) ns9) i)).length ≤ 300 := by rw [S_length]; exact v2
    have v5 : 1 ≤ (S (VL cl (List.map (fun k' => k'.fmod 2) ns9) i)).length := by rw [S_length]; exact v1
    (simp only [Int.zero_add, Int.mul_one] at F8)
    (try k_sweep)
    (try dsimp only at F8)
    repeat' ((fail_if_success (with_reducible show wpAny _ _ (PySem.call (Value.ref _) _) _ _ _)); (fail_if_success (with_reducible show wpAny _ _ (compareOp CmpOp.NotEq (Value.str _ _) (Value.str _ _)) _ _ _)); (first | (k_unfold; (try dsimp only)) | (k_end; wrow_close) | walk1 | (dsimp only; walk1)))
    · refine ne_str_same (layer_257 (by assumption) (by assumption) (by assumption) (by assumption)) ?_
      k_steps
      (refine' tabPost_next (tt := _) ?xa ?xb ?xc ?xd ?xe ?xf ?xg ?xh; (case xa => assumption); (case xb => assumption); (case xc => k_asm); (case xd => k_asm); (case xe => kcf_all); (case xf => rfl); (case xg => exact layer_257 (by assumption) (by assumption) (by assumption) (by assumption)); (case xh => (intro y h1 h2 h3 h4; simp only [if_neg h1, if_neg h2, if_neg h3, if_neg h4])))
    · walk_at "call ref"
      repeat' ((fail_if_success (with_reducible show wpAny _ _ (PySem.call (Value.ref _) _) _ _ _)); (fail_if_success (with_reducible show wpAny _ _ (compareOp CmpOp.NotEq (Value.str _ _) (Value.str _ _)) _ _ _)); (first | (k_unfold; (try dsimp only)) | (k_end; wrow_close) | walk1 | (dsimp only; walk1)))
      refine ne_str_same (layer_join (by assumption)) ?_
      k_steps
      (refine' tabPost_next (tt := _) ?wa ?wb ?wc ?wd ?we ?wf ?wg ?wh; (case wa => assumption); (case wb => assumption); (case wc => k_asm); (case wd => k_asm); (case we => kcf_all); (case wf => rfl); (case wg => exact layer_join (by assumption)); (case wh => (intro y h1 h2 h3 h4; simp only [if_neg h1, if_neg h2, if_neg h3, if_neg h4])))
  case yi =>
    intro tt8 ps8 c8 oc8 u1 u2 u3 h8 tk8 hP8 F8 N8
    (try dsimp only at F8)
    repeat' ((fail_if_success (with_reducible show wpAny _ _ (PySem.pyIter (Value.ref _)) _ _ _)); (first | (k_unfold; (try dsimp only)) | (k_end; wrow_close) | walk1 | (dsimp only; walk1)))
    k_here
    k_dflt (refine' tab_loop2 (n := ns9.length) (fun i => S (VL cl (List.map (fun k' => k'.fmod 2) ns9) (ns9.length - i))) ?ya ?yb ?yc ?yd ?ye ?yf ?yr ?yg ?yh ?yi)
    case ya => rfl
    case yb => assumption
    case yc => exact small_down (by rw [List.length_map]; omega) (by rw [List.length_map]; omega) (by decide) (by decide)
    case yd => (rw [rangeSize_downNat, List.length_map]; omega)
    case ye => k_asm
    case yf => k_asm
    case yr => (refine ⟨?_, ?_, ?_, ?_, ?_⟩ <;> k_ne)
    case yg => exact rfl
    case yh =>
      intro i t8 tt9 ps9 c9 oc9 v2 v3 h9 tk9 I9 oI9 hi9 hP9 hc9 hD9 F9 N9
      obtain ⟨j, hj⟩ : ∃ j, ns9.length - i = j + 1 := ⟨ns9.length - i - 1, by omega⟩
      have hj' : j < ns9.length := by omega
      have hj2 : ns9.length - (i + 1) = j := by omega
      have ej : (((List.map (fun k' => k'.fmod 2) ns9).length : Nat) : Int) - 1 + (i : Int) * -1 = (j : Int) := by rw [List.length_map]; omega
      obtain ⟨w1, w2, w3⟩ := VL_len cl h5 (by omega) (by omega) (List.map (fun k' => k'.fmod 2) ns9) (j + 1) (by omega)
      obtain ⟨w4, w5, w6⟩ := VL_len cl h5 (by omega) (by omega) (List.map (fun k' => k'.fmod 2) ns9) j (by omega)
      have v4 : (S (VL cl (List.map (fun k' => k'.fmod 2) ns9) (j + 1))).length ≤ 300 := by rw [S_length]; exact w2
      have v5 : (S (VL cl (List.map (fun k' => k'.fmod 2) ns9) j)).length ≤ 300 := by rw [S_length]; exact w5
      (try dsimp only at F9)
      rw [ej, hj] at F9
      rw [hj2]
      rcases hands01 ns9 j hj' with hz | hz
      · have ev : VL cl (List.map (fun k' => k'.fmod 2) ns9) (j + 1) = fr257 (VL cl (List.map (fun k' => k'.fmod 2) ns9) j) := by
          show layerL _ _ = _
          rw [layerL, if_pos hz]
        rw [ev] at F9 v4
        (try k_sweep)
        repeat' ((fail_if_success (with_reducible show wpAny _ _ (PySem.exec (Stmt.Try _ _ _ _ _) _) _ _ _)); (first | (k_unfold; (try dsimp only)) | (k_end; wrow_close) | walk1 | (dsimp only; walk1)))
        refine wpAny_Try_except ?_
        repeat' ((fail_if_success (with_reducible show wpAny _ _ (PySem.call (Value.ref _) _) _ _ _)); (first | (k_unfold; (try dsimp only)) | (k_end; wrow_close) | walk1 | (dsimp only; walk1)))
        walk_at "mine parse ok"
        repeat' ((fail_if_success (with_reducible show wpAny _ _ (PySem.call (Value.ref _) _) _ _ _)); (first | (k_unfold; (try dsimp only)) | (k_end; wrow_close) | walk1 | (dsimp only; walk1)))
        · exact absurd hz.symm (by assumption)
        · (refine' tabPost_next (tt := _) ?xa ?xb ?xc ?xd ?xe ?xf ?xg ?xh; (case xa => assumption); (case xb => assumption); (case xc => k_asm); (case xd => k_asm); (case xe => kcf_all); (case xf => rfl); (case xg => exact rfl); (case xh => (intro y h1 h2 h3 h4; simp only [if_neg h1, if_neg h2, if_neg h3, if_neg h4])))
      · have ev : VL cl (List.map (fun k' => k'.fmod 2) ns9) (j + 1) = joinF (VL cl (List.map (fun k' => k'.fmod 2) ns9) j) := by
          show layerL _ _ = _
          rw [layerL, if_neg (by omega)]
        rw [ev] at F9 v4
        (try k_sweep)
        repeat' ((fail_if_success (with_reducible show wpAny _ _ (PySem.exec (Stmt.Try _ _ _ _ _) _) _ _ _)); (first | (k_unfold; (try dsimp only)) | (k_end; wrow_close) | walk1 | (dsimp only; walk1)))
        refine wpAny_Try_except ?_
        repeat' ((fail_if_success (with_reducible show wpAny _ _ (PySem.call (Value.ref _) _) _ _ _)); (first | (k_unfold; (try dsimp only)) | (k_end; wrow_close) | walk1 | (dsimp only; walk1)))
        walk_at "mine parse no"
        walk_at "mine caught"
        repeat' ((fail_if_success (with_reducible show wpAny _ _ (PySem.call (Value.ref _) _) _ _ _)); (first | (k_unfold; (try dsimp only)) | (k_end; wrow_close) | walk1 | (dsimp only; walk1)))
        walk_at "mine split"
        repeat' ((fail_if_success (with_reducible show wpAny _ _ (PySem.call (Value.ref _) _) _ _ _)); (first | (k_unfold; (try dsimp only)) | (k_end; wrow_close) | walk1 | (dsimp only; walk1)))
        · exact absurd hz.symm (by assumption)
        · (refine' tabPost_next (tt := _) ?wa ?wb ?wc ?wd ?we ?wf ?wg ?wh; (case wa => assumption); (case wb => assumption); (case wc => k_asm); (case wd => k_asm); (case we => kcf_all); (case wf => rfl); (case wg => exact rfl); (case wh => (intro y h1 h2 h3 h4; simp only [if_neg h1, if_neg h2, if_neg h3, if_neg h4])))
    case yi =>
      intro tt9 ps9 c9 oc9 u4 u5 u6 h9 tk9 hP9 F9 N9
      (try dsimp only at F9)
      k_steps
end Mine
end
end
theorem PySem.Challenge.cw_nb0164_01_holds : PySem.Challenge.rw_nb0164_01.Holds := by
  exact Mine.law_walk
