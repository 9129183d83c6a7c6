import PyProof.Rows.All
import Wide.All
import OpenK.AllK
import Wide.FinOn
import Lean
import PySem.Challenge.RW_rl0027_01
set_option Elab.async false
set_option maxRecDepth 100000
set_option maxHeartbeats 0
set_option linter.unusedVariables false
set_option genSizeOf false
set_option genInjectivity false
noncomputable section
namespace Mine
open PySem PySem.W PySem.W.X PySem.Spec PySem.Calls PyProof.Rows

/-! ## a row shown at the caller's own stack -/
noncomputable def callerG : PySem.Ctx := ⟨.builtin "claim.caller" {}, none, none, [], none⟩
theorem callFrom_at {c : ClaimW} {tree : List Value → Sem Fin} {w : World} {s : Shared} {free : Addr → Prop} {gens : Prop} {kept : Heap → Prop} (hz : s.asleep) (hgens : s.gens = #[])
    (hspec : ∀ args, c.pre args = true → WData.layableAll args = true → ∀ ord : List DictEntry → List DictEntry, (∀ l, (ord l).Perm l) →
      ∃ vs s₁, layAllW c.records (classAt s.heap) w.params ord args s = some (vs, s₁) ∧
        Sem.wp (model c.prog w) callerG (tree vs) (Sem.finPost (model c.prog w) callerG fun r s' => c.Ends s args vs s₁ r s' ∧ s'.os = s.os ∧ AllBare s'.gens ∧ kept s'.heap)
          (fun e _ s' => c.Ends s args vs s₁ (.error e) s' ∧ s'.os = s.os ∧ AllBare s'.gens ∧ kept s'.heap) default s₁) :
    c.CallFrom (fun vs => ⟨tree vs, .builtin "claim.caller" {}, default, []⟩) w free gens kept s := by
  intro args hpre hlay ord hord
  obtain ⟨vs, s₁, hlaid, hcode⟩ := hspec args hpre hlay ord hord
  have hal := layAllW_rest _ _ _ hlaid
  have hw := Sem.wp_mono (model c.prog w) callerG (tree vs)
    (post' := Sem.finPost (model c.prog w) callerG fun r s' => (c.Ends s args vs s₁ r s' ∧ s'.os = s.os ∧ kept s'.heap) ∧ leftWithCleanup s'.gens = false)
    (exc' := fun e _ s' => (c.Ends s args vs s₁ (.error e) s' ∧ s'.os = s.os ∧ kept s'.heap) ∧ leftWithCleanup s'.gens = false)
    (fun _ _ _ h => finPost_mono (fun _ _ x => ⟨⟨x.1, x.2.1, x.2.2.2⟩, leftWithCleanup_false_of_bare x.2.2.1⟩) h) (fun _ _ _ x => ⟨⟨x.1, x.2.1, x.2.2.2⟩, leftWithCleanup_false_of_bare x.2.2.1⟩) _ _ hcode
  obtain ⟨k, r, s'', s', hsched, hrun, hfo, hcase, hos, hkp⟩ := wp_halts_full (M := model c.prog w) (Shared.asleep_of_life hal.2.2.2 hz) hw
  obtain ⟨eh, _, _, eo, _⟩ := Shared.forget_eq hfo
  have hcase := hcase.congr eh
  have hkp : kept s'.heap := eh ▸ hkp
  rw [← eo] at hos
  have hlife : s'.heap.life = s.heap.life := (runN_life _ _ _ hrun).trans hal.2.2.2
  refine ⟨vs, s₁, hlaid, k, _, s', hsched, ?_, (fun _ i x hx => by rw [hgens] at hx; simp at hx), hkp, by rw [hlife], Shared.rest_eq hos⟩
  rcases hcase with ⟨v, rfl, d1, d2, d3, d4, d5⟩ | ⟨e, ob, cls, rfl, d1, d2, d3, d4, d5⟩
  · exact .inl ⟨v, rfl, d1, d2, d3, fun b o y _ => d4 b o y, d5⟩
  · exact .inr ⟨e, ob, cls, rfl, d1, d2, d3, d4, fun b o y _ => d5 b o y⟩

theorem open_at {r : RowW} {tree : List Value → Sem Fin} {q : Program} {loose defs kps : List Str} {writes : Bool} {Xt : Shared → Bool} {XP : (Str → Option Value) → Heap → Prop} {α : Type} {Yf : Shared → α} {Ya : World → α} {N : Nat}
    (left : LeftO r.prog q loose Xt Yf Ya N) (hX : ∀ s, Xt s = true → XP (s.heap.nsMap mainGlobals) s.heap) (hXk : ∀ mg h h', XP mg h → (∀ b o, h.get? b = some o → h'.get? b = some o) → XP mg h')
    (hRf : ∀ s, Xt s = true → RecFacts r.records s.heap) (hwr : (!writes || r.records.isEmpty) = true) (hch : chainsOk q = true) (o1 : opensWell r.prog = true) (k5 : frees r = true) (k6 : r.within.isEmpty = true) (hb : r.prog.bare) (hw : r.promised)
    (pin : ∀ w s, s.heap.isNs mainGlobals = true → Ground q loose [] XP w s (s.heap.nsMap mainGlobals) (s.heap.nsMap builtinsNs) s.heap → ∀ n ∈ defs, isTheDefsW r.prog s.heap n)
    (call : ∀ (w : World) (s₀ s₁ : Shared), s₀.gens = #[] → Ground q loose r.records XP w s₀ (s₀.heap.nsMap mainGlobals) (s₀.heap.nsMap builtinsNs) s₁.heap → Yf s₀ = Ya w → ∀ (args : List WData) (vs : List Value) (as : List Addr),
      r.claim.pre args = true → WData.layableAll args = true → Laid r.records w s₀ s₁ args vs as → sysModules < s₀.heap.objs.size →
        Sem.wp (model r.prog w) callerG (tree vs) (Sem.finPost (model r.prog w) callerG fun x s' => GoodWG r.claim (classAt s₀.heap) (ExcName.means s₀.heap) args s₁ x s')
          (fun e _ s' => GoodWG r.claim (classAt s₀.heap) (ExcName.means s₀.heap) args s₁ (.error e) s') default s₁) : r.claim.HoldsOpenBy (fun vs => ⟨tree vs, .builtin "claim.caller" {}, default, []⟩) defs kps writes := by
  obtain ⟨hsame, hu, ha, hap, hm⟩ := frees_parts k5
  refine ⟨⟨hb, o1, by show r.makers.map _ = []; rw [hm]; rfl⟩, hw.witness, fun w => ⟨(left.behind hX hch w).1, fun s' hs' => ?_⟩⟩
  obtain ⟨s₀, hf, hg0, s, hT, hz, hgens, hg, G00, y⟩ := (left.behind (XP := fun mg h => XP mg h ∧ RecFacts r.records h) (fun s hs => ⟨hX s hs, hRf s hs⟩) hch w).2 s' hs'
  have G0 : Ground q loose [] XP w s (s.heap.nsMap mainGlobals) (s.heap.nsMap builtinsNs) s.heap := ⟨G00.T, G00.B, G00.D, G00.TE, G00.TD, G00.W, G00.X.1, G00.cls, G00.has, G00.apart, G00.once, G00.K⟩
  have RF := G00.X.2
  refine ⟨s₀, hf, hg0, s, hT, pin w s hg G0, RF.1, RF.2.1, ?_⟩
  have hgens : s.gens = #[] := Array.eq_empty_of_size_eq_zero (beq_iff_eq.mp hgens)
  have G : Ground q loose r.records XP w s _ _ s.heap := RF.ground G0
  refine callFrom_at (c := r.claim) hz hgens fun args hpre hlay ord hord => ?_
  obtain ⟨⟨vs, s₁⟩, hlaid⟩ := Option.isSome_iff_exists.mp (layAllW_isSome (P := w.params) (ord := ord) G.has args r.args s (pre_splitW hpre).1)
  have keeps := layAllW_keeps _ _ _ hlaid
  have hal := layAllW_rest _ _ _ hlaid
  obtain ⟨as, hrd, hin, hold⟩ := reads_layAllW hord _ _ _ hlaid hlay s₁.heap (fun _ _ e => e)
  have L : Laid r.records w s s₁ args vs as := ⟨⟨ord, hord, hlaid⟩, hrd, hin, hold, keeps, hal.1.trans hgens, hal.2.2.1⟩
  have h := call w s s₁ hgens (G.keeps hXk keeps) y args vs as hpre hlay L G.low
  have hi := ident_freeW hu ha hap
  have hwi : r.claim.within = [] := List.isEmpty_iff.mp k6
  refine ⟨vs, s₁, hlaid, Sem.wp_mono _ _ _ (fun _ _ _ h => finPost_mono (fun x s' g => ?_) h) (fun x _ s' g => ?_) _ _ h⟩
  · exact have z := g.laid (c := r.claim) hsame hwi hi L; ⟨z.1, z.2.1, z.2.2, fun q => ⟨namesKept_of hT hg kps keeps g.2.1.old, noTable hwr q⟩⟩
  · exact have z := g.laid (c := r.claim) hsame hwi hi L; ⟨z.1, z.2.1, z.2.2, fun q => ⟨namesKept_of hT hg kps keeps g.2.1.old, noTable hwr q⟩⟩
end Mine
end
noncomputable section
namespace Mine
open PySem PySem.Sre

/-! ## the run of the pattern machine: ends behind so many steps -/
noncomputable def Ends (n : Nat) (m m' : M) : Prop := m.runFor n = m' ∧ m'.outcome.isSome = true
theorem Ends.step {n : Nat} {m m' : M} (h : m.outcome = none) (g : Ends n m.step m') : Ends (n + 1) m m' := by
  refine ⟨?_, g.2⟩
  show (if m.outcome.isSome then m else M.runFor n m.step) = m'
  rw [h]; exact g.1
theorem Ends.at {n : Nat} {m m₁ m' : M} (h : m.outcome = none) (e : m.step = m₁) (g : Ends n m₁ m') : Ends (n + 1) m m' := Ends.step h (e ▸ g)
theorem runFor_done {m : M} (h : m.outcome.isSome = true) : ∀ n, m.runFor n = m
  | 0 => rfl
  | n + 1 => by show (if m.outcome.isSome then m else M.runFor n m.step) = m; rw [if_pos h]
theorem runFor_add (m : M) : ∀ a b, m.runFor (a + b) = (m.runFor a).runFor b
  | 0, b => by rw [Nat.zero_add]; rfl
  | a + 1, b => by
    rw [show a + 1 + b = (a + b) + 1 by omega]
    show (if m.outcome.isSome then m else M.runFor (a + b) m.step) = (if m.outcome.isSome then m else M.runFor a m.step).runFor b
    by_cases h : m.outcome.isSome = true
    · rw [if_pos h, if_pos h, runFor_done h]
    · rw [if_neg h, if_neg h, runFor_add]
theorem Ends.mono {n k : Nat} {m m' : M} (h : Ends n m m') (hk : n ≤ k) : Ends k m m' := by
  refine ⟨?_, h.2⟩
  obtain ⟨d, rfl⟩ := Nat.exists_eq_add_of_le hk
  rw [runFor_add, h.1, runFor_done h.2]
theorem Ends.done {m : M} (h : m.outcome.isSome = true) : Ends 0 m m := ⟨rfl, h⟩

/-! ## the two patterns -/
noncomputable def code2 : Array Nat := #[14, 9, 4, 1, 2, 16, 10, 16, 13, 0, 7, 7, 16, 13, 16, 10, 15, 18, 5, 16, 10, 15, 13, 11, 16, 13, 5, 5, 0, 16, 10, 1, 15, 2, 0, 1]
noncomputable def code1 : Array Nat := #[14, 4, 0, 1, 1, 6, 1, 16, 46, 1]

theorem exec_lit_yes (m : M) (hw : m.word 0 = 16) (hp : m.pos < m.lim) (hc : m.text.getD m.pos 0 = m.word 1) :
    m.exec = { m with seen := m.seen.add 16, pc := m.pc + 2, pos := m.pos + 1 } := by
  have e : m.code.getD m.pc 0 = 16 := hw
  have e1 : m.code.getD (m.pc + 1) 0 = m.text.getD m.pos 0 := hc.symm
  unfold M.exec
  rw [hw]
  simp only [show ops[16]? = some Op.LITERAL from rfl]
  rw [if_neg (by simpa using hp)]
  simp only [accepts, e, e1, show ops[16]? = some Op.LITERAL from rfl, BEq.rfl, itemWidth]
theorem exec_lit_no (m : M) (hw : m.word 0 = 16) (hc : m.pos < m.lim → m.text.getD m.pos 0 ≠ m.word 1) :
    m.exec = { m with seen := m.seen.add 16 }.say false := by
  have e : m.code.getD m.pc 0 = 16 := hw
  unfold M.exec
  rw [hw]
  simp only [show ops[16]? = some Op.LITERAL from rfl]
  by_cases hp : m.pos ≥ m.lim
  · rw [if_pos hp]
  · rw [if_neg hp]
    have e1 : (m.text.getD m.pos 0 == m.code.getD (m.pc + 1) 0) = false := beq_eq_false_iff_ne.mpr (hc (by omega))
    simp only [accepts, e, e1, show ops[16]? = some Op.LITERAL from rfl]
theorem step_exec (m : M) (ho : m.outcome = none) (ha : m.answer = none) (hp : m.pc < m.code.size) : m.step = m.exec := by
  unfold M.step
  rw [ho, ha]
  simp [hp]

/-! ## pattern 2: the ends -/
noncomputable def S2 (t : Array Nat) (s pc pos : Nat) (om : Bool) (fr : List Sre.Frame) (wt : Nat) (ans : Option Bool) (hd : Nat) (sn : Seen) : M :=
  { code := code2, text := t, lim := t.size, start := s, lastStart := t.size, pc := pc, pos := pos, handed := hd, outermost := om, marks := #[], frames := fr, weight := wt, answer := ans, seen := sn }
noncomputable def f0 (pc s : Nat) : Sre.Frame := { wait := .nextStart, pc := pc, pos := s, outermost := true }
noncomputable def f1 (alt s : Nat) : Sre.Frame := { wait := .nextBranch, pc := alt, pos := s, outermost := true, kept := {} }

section
variable (t : Array Nat) (s : Nat) (sn : Seen)
theorem end_true (pc pos hd : Nat) (om : Bool) (fr : Sre.Frame) (hf : fr = f0 10 s) : ∃ m', Ends 2 (S2 t s pc pos om [fr] 1 (some true) hd sn) m' ∧ m'.outcome = some .matched ∧ m'.start = s ∧ m'.handed = hd := by
  subst hf
  refine ⟨_, Ends.step rfl (Ends.step rfl (Ends.done rfl)), rfl, rfl, rfl⟩
theorem branch_true (alt pc pos hd : Nat) (om : Bool) : ∃ m', Ends 3 (S2 t s pc pos om [f1 alt s, f0 10 s] 2 (some true) hd sn) m' ∧ m'.outcome = some .matched ∧ m'.start = s ∧ m'.handed = hd := by
  obtain ⟨m', h, r⟩ := end_true t s sn alt s hd true _ rfl
  exact ⟨m', Ends.at rfl rfl h, r⟩
theorem jump_true (alt pc pos hd : Nat) (h2 : code2.getD pc 0 = 15) (h3 : pc + 1 + code2.getD (pc + 1) 0 = 35) (hp : pc < 36) : ∃ m', Ends 5 (S2 t s pc pos true [f1 alt s, f0 10 s] 2 none hd sn) m' ∧ m'.outcome = some .matched ∧ m'.start = s ∧ m'.handed = pos := by
  have e : (S2 t s pc pos true [f1 alt s, f0 10 s] 2 none hd sn).step = S2 t s 35 pos true [f1 alt s, f0 10 s] 2 none hd (sn.add 15) := by
    rw [step_exec _ rfl rfl (by exact hp)]
    unfold M.exec
    rw [show (S2 t s pc pos true [f1 alt s, f0 10 s] 2 none hd sn).word 0 = 15 from h2]
    simp only [show ops[15]? = some Op.JUMP from rfl]
    rw [show ({ S2 t s pc pos true [f1 alt s, f0 10 s] 2 none hd sn with seen := (S2 t s pc pos true [f1 alt s, f0 10 s] 2 none hd sn).seen.add 15 } : M).word 1 = code2.getD (pc + 1) 0 from rfl]
    show S2 t s (pc + 1 + code2.getD (pc + 1) 0) pos true [f1 alt s, f0 10 s] 2 none hd (sn.add 15) = _
    rw [h3]
  obtain ⟨m', h, r⟩ := branch_true t s ((sn.add 15).add 1) alt 35 pos pos true
  exact ⟨m', Ends.at rfl e (Ends.at rfl rfl h), r⟩
/-- a literal that is there -/
theorem lit_step (pc pos hd : Nat) (om : Bool) (fr : List Sre.Frame) (wt : Nat) (hw : code2.getD pc 0 = 16) (hp : pc < 36) (hl : pos < t.size) (hc : t.getD pos 0 = code2.getD (pc + 1) 0) :
    (S2 t s pc pos om fr wt none hd sn).step = S2 t s (pc + 2) (pos + 1) om fr wt none hd (sn.add 16) := by
  rw [step_exec _ rfl rfl (by exact hp), exec_lit_yes (S2 t s pc pos om fr wt none hd sn) hw hl hc]; rfl
theorem lit_stop (pc pos hd : Nat) (om : Bool) (fr : List Sre.Frame) (wt : Nat) (hw : code2.getD pc 0 = 16) (hp : pc < 36) (hc : pos < t.size → t.getD pos 0 ≠ code2.getD (pc + 1) 0) :
    (S2 t s pc pos om fr wt none hd sn).step = S2 t s pc pos om fr wt (some false) hd (sn.add 16) := by
  rw [step_exec _ rfl rfl (by exact hp), exec_lit_no (S2 t s pc pos om fr wt none hd sn) hw hc]; rfl

/-- where an attempt begins -/
noncomputable def A2 : M := S2 t s 10 s true [f0 10 s] 1 none s sn
theorem at_crlf (hl : s + 1 < t.size) (h0 : t.getD s 0 = 13) (h1 : t.getD (s + 1) 0 = 10) : ∃ m', Ends 8 (A2 t s sn) m' ∧ m'.outcome = some .matched ∧ m'.start = s ∧ m'.handed = s + 2 := by
  obtain ⟨m', h, r⟩ := jump_true t s (((sn.add 7).add 16).add 16) 11 16 (s + 2) s rfl rfl (by decide)
  refine ⟨m', Ends.at (m₁ := S2 t s 12 s true [f1 11 s, f0 10 s] 2 none s (sn.add 7)) rfl rfl ?_, r⟩
  exact Ends.at rfl (lit_step t s _ 12 s s true _ 2 rfl (by decide) (by omega) h0) (Ends.at rfl (lit_step t s _ 14 (s + 1) s true _ 2 rfl (by decide) hl h1) h)
theorem at_lf (hl : s < t.size) (h0 : t.getD s 0 = 10) : ∃ m', Ends 9 (A2 t s sn) m' ∧ m'.outcome = some .matched ∧ m'.start = s ∧ m'.handed = s + 1 := by
  obtain ⟨m', h, r⟩ := jump_true t s (((sn.add 7).add 16).add 16) 18 21 (s + 1) s rfl rfl (by decide)
  refine ⟨m', Ends.at (m₁ := S2 t s 12 s true [f1 11 s, f0 10 s] 2 none s (sn.add 7)) rfl rfl ?_, r⟩
  refine Ends.at rfl (lit_stop t s _ 12 s s true _ 2 rfl (by decide) (fun _ => by rw [h0]; decide)) ?_
  refine Ends.at (m₁ := S2 t s 19 s true [f1 18 s, f0 10 s] 2 none s _) rfl rfl ?_
  exact Ends.mono (Ends.at rfl (lit_step t s _ 19 s s true _ 2 rfl (by decide) hl h0) h) (by decide)
theorem at_cr (hl : s < t.size) (h0 : t.getD s 0 = 13) (h1 : s + 1 < t.size → t.getD (s + 1) 0 ≠ 10) : ∃ m', Ends 20 (A2 t s sn) m' ∧ m'.outcome = some .matched ∧ m'.start = s ∧ m'.handed = s + 1 := by
  obtain ⟨m', h, r⟩ := jump_true t s ((((((sn.add 7).add 16).add 16).add 16).add 16).add 5 |>.add 16) 23 32 (s + 1) (s + 1) rfl rfl (by decide)
  refine ⟨m', Ends.mono (k := 20) (Ends.at (m₁ := S2 t s 12 s true [f1 11 s, f0 10 s] 2 none s (sn.add 7)) rfl rfl ?_) (by decide : 17 ≤ 20), r⟩
  refine Ends.at rfl (lit_step t s _ 12 s s true _ 2 rfl (by decide) hl h0) ?_
  refine Ends.at rfl (lit_stop t s _ 14 (s + 1) s true _ 2 rfl (by decide) h1) ?_
  refine Ends.at (m₁ := S2 t s 19 s true [f1 18 s, f0 10 s] 2 none s _) rfl rfl ?_
  refine Ends.at rfl (lit_stop t s _ 19 s s true _ 2 rfl (by decide) (fun _ => by rw [h0]; decide)) ?_
  refine Ends.at (m₁ := S2 t s 24 s true [f1 23 s, f0 10 s] 2 none s _) rfl rfl ?_
  refine Ends.at rfl (lit_step t s _ 24 s s true _ 2 rfl (by decide) hl h0) ?_
  refine Ends.at (m₁ := S2 t s 29 (s + 1) false [{ wait := .lookNot, pc := 26, pos := s + 1, outermost := true, kept := {} }, f1 23 s, f0 10 s] 3 none (s + 1) _) rfl rfl ?_
  refine Ends.at rfl (lit_stop t s _ 29 (s + 1) (s + 1) false _ 3 rfl (by decide) h1) ?_
  refine Ends.at (m₁ := S2 t s 32 (s + 1) true [f1 23 s, f0 10 s] 2 none (s + 1) _) rfl rfl ?_
  exact Ends.mono h (by decide)
end

theorem inSet2 (c : Nat) (seen : Seen) : ∃ seen', inSet code2 c 36 5 true seen = .ok (c == 10 || c == 13, seen') := by
  unfold inSet
  simp only [show ops[code2.getD (5 + 0) 0]? = some Op.LITERAL from rfl, show code2.getD (5 + 1) 0 = 10 from rfl]
  by_cases h : c = 10
  · subst h; exact ⟨_, rfl⟩
  · rw [if_neg (by simpa using h)]
    unfold inSet
    simp only [show ops[code2.getD (5 + 2 + 0) 0]? = some Op.LITERAL from rfl, show code2.getD (5 + 2 + 1) 0 = 13 from rfl]
    by_cases h' : c = 13
    · subst h'; exact ⟨_, rfl⟩
    · rw [if_neg (by simpa using h')]
      unfold inSet
      simp only [show ops[code2.getD (5 + 2 + 2 + 0) 0]? = some Op.FAILURE from rfl]
      rw [show (c == 10 || c == 13) = false by simp [h, h']]
      exact ⟨_, rfl⟩
noncomputable def isEnd (c : Nat) : Bool := c == 10 || c == 13

theorem admitted_some (m : M) (hm : m.code = code2) (s : Nat) (hs : s < m.lim) (he : isEnd (m.text.getD s 0) = true) : ∀ (k p : Nat) (seen : Seen), p + k = s → (∀ j, p ≤ j → j < s → isEnd (m.text.getD j 0) = false) →
    ∀ fuel, k < fuel → ∃ seen', M.admitted m fuel p seen = .ok (some s, seen')
  | _, _, _, _, _, 0, hf => absurd hf (Nat.not_lt_zero _)
  | 0, p, seen, hp, _, fuel + 1, _ => by
    obtain rfl : p = s := by omega
    unfold M.admitted
    rw [if_neg (by omega), hm, show code2.size = 36 from rfl]
    obtain ⟨sn, e⟩ := inSet2 (m.text.getD p 0) seen
    have he' : (m.text.getD p 0 == 10 || m.text.getD p 0 == 13) = true := he
    rw [e, he']
    exact ⟨_, rfl⟩
  | k + 1, p, seen, hp, hb, fuel + 1, hf => by
    unfold M.admitted
    rw [if_neg (by omega), hm, show code2.size = 36 from rfl]
    obtain ⟨sn, e⟩ := inSet2 (m.text.getD p 0) seen
    have he' : (m.text.getD p 0 == 10 || m.text.getD p 0 == 13) = false := hb p (Nat.le_refl _) (by omega)
    rw [e, he']
    exact admitted_some m hm s hs he k (p + 1) sn (by omega) (fun j h1 h2 => hb j (by omega) h2) fuel (by omega)
theorem admitted_none (m : M) (hm : m.code = code2) : ∀ (k p : Nat) (seen : Seen), p + k = m.lim → (∀ j, p ≤ j → j < m.lim → isEnd (m.text.getD j 0) = false) →
    ∀ fuel, k < fuel → ∃ seen', M.admitted m fuel p seen = .ok (none, seen')
  | _, _, _, _, _, 0, hf => absurd hf (Nat.not_lt_zero _)
  | 0, p, seen, hp, _, fuel + 1, _ => by
    unfold M.admitted
    rw [if_pos (by omega)]
    exact ⟨_, rfl⟩
  | k + 1, p, seen, hp, hb, fuel + 1, hf => by
    unfold M.admitted
    rw [if_neg (by omega), hm, show code2.size = 36 from rfl]
    obtain ⟨sn, e⟩ := inSet2 (m.text.getD p 0) seen
    have he' : (m.text.getD p 0 == 10 || m.text.getD p 0 == 13) = false := hb p (Nat.le_refl _) (by omega)
    rw [e, he']
    exact admitted_none m hm k (p + 1) sn (by omega) (fun j h1 h2 => hb j (by omega) h2) fuel (by omega)

noncomputable def Fnd (code t : Array Nat) (p s e : Nat) : Prop := ∃ n, n < 1000000000 ∧ ∃ m', Ends n (forSearch code t 0 p t.size false) m' ∧ m'.outcome = some .matched ∧ m'.start = s ∧ m'.handed = e
noncomputable def Fld (code t : Array Nat) (p : Nat) : Prop := ∃ n, n < 1000000000 ∧ ∃ m', Ends n (forSearch code t 0 p t.size false) m' ∧ m'.outcome = some .failed

theorem search2 (t : Array Nat) (p s : Nat) (hps : p ≤ s) (hs : s < t.size) (he : isEnd (t.getD s 0) = true) (hb : ∀ j, p ≤ j → j < s → isEnd (t.getD j 0) = false) :
    ∃ sn, forSearch code2 t 0 p t.size false = A2 t s sn := by
  obtain ⟨sn, e⟩ := admitted_some (S2 t p 10 p true [] 0 none p (({} : Seen).add 14)) rfl s hs he (s - p) p (({} : Seen).add 14) (by omega) hb (t.size + 1 - p) (by omega)
  refine ⟨sn, ?_⟩
  have h1 : forSearch code2 t 0 p t.size false = if p > t.size || t.size - p < 1 then _ else (S2 t p 10 p true [] 0 none p (({} : Seen).add 14)).attemptFrom p true := rfl
  rw [h1, if_neg (by simp; omega)]
  unfold M.attemptFrom
  rw [show M.hasFirstSet (S2 t p 10 p true [] 0 none p (({} : Seen).add 14)) = true from rfl]
  rw [if_neg (by decide)]
  show (match M.admitted (S2 t p 10 p true [] 0 none p (({} : Seen).add 14)) (t.size + 1 - p) p (({} : Seen).add 14) with | .ok (some s, seen) => _ | .ok (none, seen) => _ | .error why => _) = _
  rw [e]
  rfl
theorem search2_none (t : Array Nat) (p : Nat) (hp : p ≤ t.size) (hb : ∀ j, p ≤ j → j < t.size → isEnd (t.getD j 0) = false) : Fld code2 t p := by
  by_cases hq : p = t.size
  · have h1 : forSearch code2 t 0 p t.size false = if p > t.size || t.size - p < 1 then S2 t p 10 p true [] 0 (some false) p (({} : Seen).add 14) |> fun m => { m with lastStart := 0 } else (S2 t p 10 p true [] 0 none p (({} : Seen).add 14)).attemptFrom p true := rfl
    rw [if_pos (by simp; omega)] at h1
    exact ⟨1, by decide, _, by rw [h1]; exact Ends.step rfl (Ends.done rfl), rfl⟩
  · obtain ⟨sn, e⟩ := admitted_none (S2 t p 10 p true [] 0 none p (({} : Seen).add 14)) rfl (t.size - p) p (({} : Seen).add 14) (by show p + (t.size - p) = t.size; omega) hb (t.size + 1 - p) (by omega)
    have h1 : forSearch code2 t 0 p t.size false = if p > t.size || t.size - p < 1 then _ else (S2 t p 10 p true [] 0 none p (({} : Seen).add 14)).attemptFrom p true := rfl
    rw [if_neg (by simp; omega)] at h1
    have h2 : (S2 t p 10 p true [] 0 none p (({} : Seen).add 14)).attemptFrom p true = S2 t p 10 p true [] 0 (some false) p sn := by
      unfold M.attemptFrom
      rw [show M.hasFirstSet (S2 t p 10 p true [] 0 none p (({} : Seen).add 14)) = true from rfl]
      rw [if_neg (by decide)]
      show (match M.admitted (S2 t p 10 p true [] 0 none p (({} : Seen).add 14)) (t.size + 1 - p) p (({} : Seen).add 14) with | .ok (some s, seen) => _ | .ok (none, seen) => _ | .error why => _) = _
      rw [e]
      rfl
    exact ⟨1, by decide, _, by rw [h1, h2]; exact Ends.step rfl (Ends.done rfl), rfl⟩
theorem found2_crlf (t : Array Nat) (p s : Nat) (hps : p ≤ s) (hl : s + 1 < t.size) (h0 : t.getD s 0 = 13) (h1 : t.getD (s + 1) 0 = 10) (hb : ∀ j, p ≤ j → j < s → isEnd (t.getD j 0) = false) : Fnd code2 t p s (s + 2) := by
  obtain ⟨sn, e⟩ := search2 t p s hps (by omega) (by rw [h0]; rfl) hb
  obtain ⟨m', h, r⟩ := at_crlf t s sn hl h0 h1
  exact ⟨8, by decide, m', by rw [e]; exact h, r⟩
theorem found2_lf (t : Array Nat) (p s : Nat) (hps : p ≤ s) (hl : s < t.size) (h0 : t.getD s 0 = 10) (hb : ∀ j, p ≤ j → j < s → isEnd (t.getD j 0) = false) : Fnd code2 t p s (s + 1) := by
  obtain ⟨sn, e⟩ := search2 t p s hps (by omega) (by rw [h0]; rfl) hb
  obtain ⟨m', h, r⟩ := at_lf t s sn hl h0
  exact ⟨9, by decide, m', by rw [e]; exact h, r⟩
theorem found2_cr (t : Array Nat) (p s : Nat) (hps : p ≤ s) (hl : s < t.size) (h0 : t.getD s 0 = 13) (h1 : s + 1 < t.size → t.getD (s + 1) 0 ≠ 10) (hb : ∀ j, p ≤ j → j < s → isEnd (t.getD j 0) = false) : Fnd code2 t p s (s + 1) := by
  obtain ⟨sn, e⟩ := search2 t p s hps (by omega) (by rw [h0]; rfl) hb
  obtain ⟨m', h, r⟩ := at_cr t s sn hl h0 h1
  exact ⟨20, by decide, m', by rw [e]; exact h, r⟩

/-! ## pattern 1: a dot where a line begins -/
noncomputable def S1 (t : Array Nat) (s pc pos : Nat) (om : Bool) (fr : List Sre.Frame) (wt : Nat) (ans : Option Bool) (hd : Nat) (sn : Seen) : M :=
  { code := code1, text := t, lim := t.size, start := s, lastStart := t.size, pc := pc, pos := pos, handed := hd, outermost := om, marks := #[], frames := fr, weight := wt, answer := ans, seen := sn }
noncomputable def g0 (s : Nat) (om : Bool) : Sre.Frame := { wait := .nextStart, pc := 5, pos := s, outermost := om }
noncomputable def B1 (t : Array Nat) (s : Nat) (om : Bool) (sn : Seen) : M := S1 t s 5 s om [g0 s om] 1 none s sn
noncomputable def lineAt (t : Array Nat) (j : Nat) : Bool := j == 0 || t.getD (j - 1) 0 == 10
noncomputable def dotAt (t : Array Nat) (j : Nat) : Bool := lineAt t j && t.getD j 0 == 46

section
variable (t : Array Nat) (s : Nat) (om : Bool) (sn : Seen)
theorem at_step : (B1 t s om sn).step = if lineAt t s then S1 t s 7 s om [g0 s om] 1 none s ((sn.add 6).add 44) else S1 t s 5 s om [g0 s om] 1 (some false) s ((sn.add 6).add 44) := by
  rw [step_exec _ rfl rfl (show 5 < 10 by decide)]
  unfold M.exec
  rw [show (B1 t s om sn).word 0 = 6 from rfl]
  simp only [show ops[6]? = some Op.AT from rfl]
  rw [show M.isAt ({ B1 t s om sn with seen := (B1 t s om sn).seen.add 6 } : M) (M.word ({ B1 t s om sn with seen := (B1 t s om sn).seen.add 6 } : M) 1) = .ok (lineAt t s) from rfl]
  cases lineAt t s <;> rfl
theorem dot_step (hl : s < t.size) (hc : t.getD s 0 = 46) : (S1 t s 7 s om [g0 s om] 1 none s sn).step = S1 t s 9 (s + 1) om [g0 s om] 1 none s (sn.add 16) := by
  rw [step_exec _ rfl rfl (show 7 < 10 by decide), exec_lit_yes (S1 t s 7 s om [g0 s om] 1 none s sn) rfl hl hc]; rfl
theorem dot_stop (hc : s < t.size → t.getD s 0 ≠ 46) : (S1 t s 7 s om [g0 s om] 1 none s sn).step = S1 t s 7 s om [g0 s om] 1 (some false) s (sn.add 16) := by
  rw [step_exec _ rfl rfl (show 7 < 10 by decide), exec_lit_no (S1 t s 7 s om [g0 s om] 1 none s sn) rfl hc]; rfl
theorem back_step (pc : Nat) (hl : s < t.size) : (S1 t s pc s om [g0 s om] 1 (some false) s sn).step = B1 t (s + 1) false sn := by
  show (if (false : Bool) = true then _ else if s < t.size then B1 t (s + 1) false sn else _) = _
  rw [if_neg (by decide), if_pos hl]
theorem back_stop (pc : Nat) (hl : ¬ s < t.size) : (S1 t s pc s om [g0 s om] 1 (some false) s sn).step = S1 t s 5 s om [] 0 (some false) s sn := by
  show (if (false : Bool) = true then _ else if s < t.size then B1 t (s + 1) false sn else S1 t s 5 s om [] 0 (some false) s sn) = _
  rw [if_neg (by decide), if_neg hl]
theorem at1 (hl : s < t.size) (h : dotAt t s = true) : ∃ m', Ends 5 (B1 t s om sn) m' ∧ m'.outcome = some .matched ∧ m'.start = s ∧ m'.handed = s + 1 := by
  obtain ⟨h1, h2⟩ := Bool.and_eq_true_iff.mp h
  have e := at_step t s om sn
  rw [if_pos h1] at e
  have e2 : (S1 t s 9 (s + 1) om [g0 s om] 1 none s (((sn.add 6).add 44).add 16)).step = S1 t s 9 (s + 1) om [g0 s om] 1 (some true) (s + 1) ((((sn.add 6).add 44).add 16).add 1) := by cases om <;> rfl
  refine ⟨_, Ends.at rfl e (Ends.at rfl (dot_step t s om _ hl (beq_iff_eq.mp h2)) (Ends.at rfl e2 (Ends.step rfl (Ends.step rfl (Ends.done rfl))))), rfl, rfl, rfl⟩
theorem past1 (hl : s < t.size) (h : dotAt t s = false) : ∃ sn' k, k ≤ 3 ∧ ∀ n m', Ends n (B1 t (s + 1) false sn') m' → Ends (n + k) (B1 t s om sn) m' := by
  have e := at_step t s om sn
  by_cases hb : lineAt t s = true
  · rw [if_pos hb] at e
    have hc : t.getD s 0 ≠ 46 := by
      intro q
      have : dotAt t s = true := by unfold dotAt; rw [hb, q]; rfl
      rw [h] at this; cases this
    exact ⟨_, 3, by omega, fun n m' g => Ends.at rfl e (Ends.at rfl (dot_stop t s om _ fun _ => hc) (Ends.at rfl (back_step t s om _ 7 hl) g))⟩
  · rw [if_neg hb] at e
    exact ⟨_, 2, by omega, fun n m' g => Ends.at rfl e (Ends.at rfl (back_step t s om _ 5 hl) g)⟩
theorem stop1 (hl : ¬ s < t.size) : ∃ m', Ends 4 (B1 t s om sn) m' ∧ m'.outcome = some .failed := by
  have e := at_step t s om sn
  by_cases hb : lineAt t s = true
  · rw [if_pos hb] at e
    exact ⟨_, Ends.at rfl e (Ends.at rfl (dot_stop t s om _ fun q => absurd q hl) (Ends.at rfl (back_stop t s om _ 7 hl) (Ends.step rfl (Ends.done rfl)))), rfl⟩
  · rw [if_neg hb] at e
    exact ⟨_, Ends.mono (Ends.at rfl e (Ends.at rfl (back_stop t s om _ 5 hl) (Ends.step rfl (Ends.done rfl)))) (by decide : 3 ≤ 4), rfl⟩
end
theorem walk1 (t : Array Nat) (s : Nat) (hs : s < t.size) (h : dotAt t s = true) : ∀ (k p : Nat) (om : Bool) (sn : Seen), p + k = s → (∀ j, p ≤ j → j < s → dotAt t j = false) →
    ∃ n, n ≤ 3 * k + 5 ∧ ∃ m', Ends n (B1 t p om sn) m' ∧ m'.outcome = some .matched ∧ m'.start = s ∧ m'.handed = s + 1
  | 0, p, om, sn, hp, _ => by
    obtain rfl : p = s := by omega
    exact ⟨5, by omega, at1 t p om sn hs h⟩
  | k + 1, p, om, sn, hp, hb => by
    obtain ⟨sn', d, hd, g⟩ := past1 t p om sn (by omega) (hb p (Nat.le_refl _) (by omega))
    obtain ⟨n, hn, m', e, r⟩ := walk1 t s hs h k (p + 1) false sn' (by omega) (fun j h1 h2 => hb j (by omega) h2)
    exact ⟨n + d, by omega, m', g n m' e, r⟩
theorem walk1_none (t : Array Nat) : ∀ (k p : Nat) (om : Bool) (sn : Seen), p + k = t.size → (∀ j, p ≤ j → j < t.size → dotAt t j = false) →
    ∃ n, n ≤ 3 * k + 5 ∧ ∃ m', Ends n (B1 t p om sn) m' ∧ m'.outcome = some .failed
  | 0, p, om, sn, hp, _ => by
    obtain ⟨m', e, r⟩ := stop1 t p om sn (by omega)
    exact ⟨4, by omega, m', e, r⟩
  | k + 1, p, om, sn, hp, hb => by
    obtain ⟨sn', d, hd, g⟩ := past1 t p om sn (by omega) (hb p (Nat.le_refl _) (by omega))
    obtain ⟨n, hn, m', e, r⟩ := walk1_none t k (p + 1) false sn' (by omega) (fun j h1 h2 => hb j (by omega) h2)
    exact ⟨n + d, by omega, m', g n m' e, r⟩
theorem search1 (t : Array Nat) (p : Nat) (hp : p < t.size) : forSearch code1 t 0 p t.size false = B1 t p true (({} : Seen).add 14) := by
  have h1 : forSearch code1 t 0 p t.size false = if p > t.size || t.size - p < 1 then _ else B1 t p true (({} : Seen).add 14) := rfl
  rw [h1, if_neg (by simp; omega)]
theorem found1 (t : Array Nat) (ht : t.size < 100000000) (p s : Nat) (hps : p ≤ s) (hs : s < t.size) (h : dotAt t s = true) (hb : ∀ j, p ≤ j → j < s → dotAt t j = false) : Fnd code1 t p s (s + 1) := by
  obtain ⟨n, hn, m', e, r⟩ := walk1 t s hs h (s - p) p true (({} : Seen).add 14) (by omega) hb
  exact ⟨n, by omega, m', by rw [search1 t p (by omega)]; exact e, r⟩
theorem found1_none (t : Array Nat) (ht : t.size < 100000000) (p : Nat) (hp : p ≤ t.size) (hb : ∀ j, p ≤ j → j < t.size → dotAt t j = false) : Fld code1 t p := by
  by_cases hq : p < t.size
  · obtain ⟨n, hn, m', e, r⟩ := walk1_none t (t.size - p) p true (({} : Seen).add 14) (by omega) hb
    exact ⟨n, by omega, m', by rw [search1 t p hq]; exact e, r⟩
  · have h1 : forSearch code1 t 0 p t.size false = if p > t.size || t.size - p < 1 then S1 t p 5 p true [] 0 (some false) p (({} : Seen).add 14) |> fun m => { m with lastStart := 0 } else B1 t p true (({} : Seen).add 14) := rfl
    rw [if_pos (by simp; omega)] at h1
    exact ⟨1, by decide, _, by rw [h1]; exact Ends.step rfl (Ends.done rfl), rfl⟩
end Mine
end
noncomputable section
namespace Mine
open PySem PySem.W PySem.W.X
open PySem.Sem (wp finPost)

/-! ## trees with number labels -/
inductive Tr (α : Type) where
  | nil
  | node (v : α) (l r : Tr α)
namespace Tr
variable {α : Type}
noncomputable def get : Tr α → Nat → Option α
  | .nil, _ => none
  | .node v l r, i => match Nat.beq i 0 with
    | true => some v
    | false => match Nat.beq (i % 2) 1 with
      | true => l.get (i / 2)
      | false => r.get (i / 2 - 1)
noncomputable def put : Tr α → Nat → α → Tr α
  | .nil, _, o => .node o .nil .nil
  | .node v l r, i, o => match Nat.beq i 0 with
    | true => .node o l r
    | false => match Nat.beq (i % 2) 1 with
      | true => .node v (l.put (i / 2) o) r
      | false => .node v l (r.put (i / 2 - 1) o)
theorem get_node (v : α) (l r : Tr α) (i : Nat) : (node v l r).get i = if i = 0 then some v else if i % 2 = 1 then l.get (i / 2) else r.get (i / 2 - 1) := by
  show (match Nat.beq i 0 with | true => some v | false => match Nat.beq (i % 2) 1 with | true => l.get (i / 2) | false => r.get (i / 2 - 1)) = _
  rw [BT.beq_eq, BT.beq_eq]
  by_cases h : i = 0
  · simp [h]
  · by_cases q : i % 2 = 1 <;> simp [h, q]
theorem put_node (v : α) (l r : Tr α) (i : Nat) (o : α) : (node v l r).put i o = if i = 0 then node o l r else if i % 2 = 1 then node v (l.put (i / 2) o) r else node v l (r.put (i / 2 - 1) o) := by
  show (match Nat.beq i 0 with | true => node o l r | false => match Nat.beq (i % 2) 1 with | true => node v (l.put (i / 2) o) r | false => node v l (r.put (i / 2 - 1) o)) = _
  rw [BT.beq_eq, BT.beq_eq]
  by_cases h : i = 0
  · simp [h]
  · by_cases q : i % 2 = 1 <;> simp [h, q]
theorem get_put (o : α) : ∀ (t : Tr α) (a : Nat), ((t.put a o).get a).isSome = true → ∀ i, (t.put a o).get i = if i = a then some o else t.get i
  | .nil, a, h, i => by
    have e : (Tr.nil.put a o) = node o nil nil := rfl
    rw [e, get_node] at h
    have ha : a = 0 := by
      by_cases q : a = 0
      · exact q
      · exfalso; revert h; by_cases p : a % 2 = 1 <;> simp [q, p, get]
    subst ha
    rw [e, get_node]
    by_cases hi : i = 0
    · simp [hi]
    · by_cases p : i % 2 = 1 <;> simp [hi, p, get]
  | .node v l r, a, h, i => by
    rw [put_node] at h ⊢
    rw [get_node v l r i]
    by_cases ha : a = 0
    · subst ha
      rw [if_pos rfl, get_node]
      by_cases hi : i = 0 <;> simp [hi]
    · rw [if_neg ha] at h ⊢
      by_cases pa : a % 2 = 1
      · rw [if_pos pa] at h ⊢
        rw [get_node, if_neg ha, if_pos pa] at h
        rw [get_node]
        by_cases hi : i = 0
        · simp [hi, Ne.symm ha]
        · by_cases pi : i % 2 = 1
          · simp only [hi, pi, if_true, if_false, get_put o l _ h]
            by_cases e : i = a
            · simp [e]
            · have : i / 2 ≠ a / 2 := by omega
              simp [e, this]
          · have : i ≠ a := fun q => pi (q ▸ pa)
            simp [hi, pi, this]
      · rw [if_neg pa] at h ⊢
        rw [get_node, if_neg ha, if_neg pa] at h
        rw [get_node]
        by_cases hi : i = 0
        · simp [hi, Ne.symm ha]
        · by_cases pi : i % 2 = 1
          · have : i ≠ a := fun q => pa (q ▸ pi)
            simp [hi, pi, this]
          · simp only [hi, pi, if_false, get_put o r _ h]
            by_cases e : i = a
            · simp [e]
            · have : i / 2 - 1 ≠ a / 2 - 1 := by omega
              simp [e, this]
end Tr

/-! ## the evaluator's state -/
structure St where
  T : Tr (Addr × Obj)
  m : Nat
  tb : Nat
  to : Nat
  kb : Nat
  ko : Nat
structure Kf where
  c : Code
  p : Pos
  k : Result → Sem Fin
noncomputable abbrev J := Code × Pos × Sem Fin × List Kf × St
structure Acc where
  a : List (Nat × Nat)
  r : List ((Setting → Sem Fin) × (Setting → Sem Fin))
  j : List (J × J)
structure X where
  c : Code
  p : Pos
  t : Sem Fin
  κ : List Kf
  st : St
  hs : List Nat
  acc : Acc
structure En where
  dn : Code → Sem Fin
  prog : Program
  w : World
  kt : KT
  base : List (Code × Pos)

noncomputable def rowName : Nat → String
  | 1 => "special-get-raises"
  | _ => "comprehension-iter-twice"
noncomputable def Srow (S : Setting) (b : Bool) : Setting := ⟨S.program, { S.params with followText := fun _ => b }⟩
noncomputable def En.set0 (E : En) : Setting := ⟨E.prog, E.w.params⟩
noncomputable def X.toJ (x : X) : J := (x.c, x.p, x.t, x.κ, x.st)
noncomputable def below (base : List (Code × Pos)) : List Kf → List (Code × Pos)
  | [] => base
  | f :: κ => (f.c, f.p) :: below base κ

noncomputable def step1 (E : En) (rec : Nat → X → Option X) : X → Option X
  | ⟨c, p, t, κ, st, hs, acc⟩ => match t with
    | .pure fin => match fin with
      | .done f => match κ with
        | [] => none
        | fr :: κ' => some ⟨fr.c, fr.p, fr.k (.ok f), κ', st, hs, acc⟩
      | .again c' => match c'.quiet with
        | true => some ⟨c', p, E.dn c', κ, st, hs, acc⟩
        | false => none
    | .raise e => match κ with
      | [] => none
      | fr :: κ' => some ⟨fr.c, fr.p, fr.k (.error e), κ', st, hs, acc⟩
    | .rule _ k => some ⟨c, p, k (), κ, st, hs, acc⟩
    | .at q k => some ⟨c, q, k (), κ, st, hs, acc⟩
    | .point _ k => some ⟨c, p, k (), κ, st, hs, acc⟩
    | .ask k => match hs with
      | [] => none
      | h :: hs₁ => match h with
        | 0 => some ⟨c, p, k E.set0, κ, st, hs₁, acc⟩
        | r + 1 => match hs₁ with
          | n :: m :: hs₂ => match rec n ⟨c, p, k (Srow E.set0 true), κ, st, hs₂, acc⟩ with
            | some x => match rec m ⟨c, p, k (Srow E.set0 false), κ, st, x.hs, x.acc⟩ with
              | some y => some ⟨x.c, x.p, x.t, x.κ, x.st, y.hs, ⟨y.acc.a, (k, fun S => k (Srow S (S.params.followText (rowName (r + 1))))) :: y.acc.r, (x.toJ, y.toJ) :: y.acc.j⟩⟩
              | none => none
            | none => none
          | _ => none
    | .load a _ k => match hs with
      | [] => none
      | h :: hs₁ => match h with
        | 0 => match E.kt.get a with
          | some o => some ⟨c, p, k o, κ, st, hs₁, acc⟩
          | none => none
        | i + 1 => match st.T.get i with
          | some x => some ⟨c, p, k x.2, κ, st, hs₁, ⟨(a, x.1) :: acc.a, acc.r, acc.j⟩⟩
          | none => none
    | .loadIfAlive a k => match hs with
      | [] => none
      | h :: hs₁ => match h with
        | 0 => match E.kt.get a with
          | some o => some ⟨c, p, k (some o), κ, st, hs₁, acc⟩
          | none => none
        | i + 1 => match st.T.get i with
          | some x => some ⟨c, p, k (some x.2), κ, st, hs₁, ⟨(a, x.1) :: acc.a, acc.r, acc.j⟩⟩
          | none => none
    | .update a _ f k => match hs with
      | [] => none
      | i :: hs₁ => match st.T.get i with
        | some x => match (f x.2).isFreed with
          | true => none
          | false => match (st.T.put i (x.1, f x.2)).get i with
            | some _ => some ⟨c, p, k (), κ, ⟨st.T.put i (x.1, f x.2), st.m, st.tb, st.to, st.kb, st.ko⟩, hs₁, ⟨(a, x.1) :: acc.a, acc.r, acc.j⟩⟩
            | none => none
        | none => none
    | .alloc o k => match o.isFreed with
      | true => none
      | false => match (st.T.put st.m (st.tb + st.to, o)).get st.m with
        | some _ => some ⟨c, p, k (st.tb + st.to), κ, ⟨st.T.put st.m (st.tb + st.to, o), st.m + 1, st.tb, st.to + 1, st.kb, st.ko⟩, hs, acc⟩
        | none => none
    | .fresh k => some ⟨c, p, k (st.kb + st.ko), κ, ⟨st.T, st.m, st.tb, st.to, st.kb, st.ko + 1⟩, hs, acc⟩
    | .handled _ k => some ⟨c, p, k none, κ, st, hs, acc⟩
    | .stack k => some ⟨c, p, k ((c, p) :: below E.base κ), κ, st, hs, acc⟩
    | .call c' hd _ _ k => match hd with
      | none => some ⟨c', p, E.dn c', ⟨c, p, k⟩ :: κ, st, hs, acc⟩
      | some _ => none
    | _ => none

noncomputable def runStep (E : En) (ih : Nat → X → Option X) (n : Nat) (x : X) : Option X := match n with
  | 0 => some x
  | n + 1 => match step1 E ih x with
    | some y => ih n y
    | none => none
noncomputable def run (E : En) : Nat → Nat → X → Option X
  | 0 => fun n x => match n with
    | 0 => some x
    | _ + 1 => none
  | f + 1 => runStep E (run E f)
end Mine
end
noncomputable section
namespace Mine
open PySem PySem.W PySem.W.X
open PySem.Sem (wp finPost)

noncomputable def Γof (c : Code) (b : List (Code × Pos)) : Ctx := ⟨c, none, none, b, none⟩
theorem enter_Γof (c c' : Code) (b : List (Code × Pos)) (p : Pos) : (Γof c b).enter c' none p = Γof c' ((c, p) :: b) := rfl

/-- what the state of the evaluator says of a machine state, over a base heap `h₀` of which the addresses `mu` may be turned -/
structure Rp (K : KT) (h₀ : Heap) (mu : List Addr) (rest : Array GenState × Drawn × OsState) (st : St) (s : Shared) : Prop where
  size : s.heap.objs.size = st.tb + st.to
  toks : s.toks = st.kb + st.ko
  own : ∀ i x, st.T.get i = some x → s.heap.get? x.1 = some x.2
  lab : ∀ i x, st.T.get i = some x → i < st.m
  inj : ∀ i j x y, st.T.get i = some x → st.T.get j = some y → x.1 = y.1 → i = j
  ktk : ∀ a o, K.get a = some o → s.heap.get? a = some o
  ktn : ∀ i x, st.T.get i = some x → K.get x.1 = none
  keep : ∀ b o, h₀.get? b = some o → b ∉ mu → s.heap.get? b = some o
  fresh : ∀ i x, st.T.get i = some x → x.1 ∈ mu ∨ h₀.objs.size ≤ x.1
  le : h₀.objs.size ≤ s.heap.objs.size
  rest : (s.gens, s.drawn, s.os) = rest

section
variable {kt : KT} {h₀ : Heap} {mu : List Addr} {rest : Array GenState × Drawn × OsState} {st : St} {s : Shared}
theorem Rp.alloc (D : Rp kt h₀ mu rest st s) {o : Obj} (hf : o.isFreed = false) (hg : ((st.T.put st.m (st.tb + st.to, o)).get st.m).isSome = true) :
    Rp kt h₀ mu rest ⟨st.T.put st.m (st.tb + st.to, o), st.m + 1, st.tb, st.to + 1, st.kb, st.ko⟩ { s with heap := s.heap.push o } := by
  have G := Tr.get_put (st.tb + st.to, o) st.T st.m hg
  have hne : ∀ i x, st.T.get i = some x → i ≠ st.m := fun i x e => Nat.ne_of_lt (D.lab i x e)
  have hlt : ∀ i x, st.T.get i = some x → x.1 < st.tb + st.to := fun i x e => D.size ▸ Heap.lt_size (D.own i x e)
  refine ⟨?_, D.toks, ?_, ?_, ?_, ?_, ?_, ?_, ?_, ?_, D.rest⟩
  · show (s.heap.push o).objs.size = _
    rw [Heap.size_push, D.size, Nat.add_assoc]
  · intro i x e
    dsimp only at e
    rw [G] at e
    by_cases h : i = st.m
    · rw [if_pos h] at e
      cases e
      show (s.heap.push o).get? (st.tb + st.to) = some o
      rw [← D.size]; exact Heap.get?_push_size _ hf
    · rw [if_neg h] at e
      exact Heap.get?_push_of_some _ (D.own i x e)
  · intro i x e
    dsimp only at e ⊢
    rw [G] at e
    by_cases h : i = st.m
    · omega
    · rw [if_neg h] at e
      have := D.lab i x e
      omega
  · intro i j x y ei ej exy
    dsimp only at ei ej
    rw [G] at ei ej
    by_cases h : i = st.m
    · rw [if_pos h] at ei
      cases ei
      by_cases h' : j = st.m
      · rw [h, h']
      · rw [if_neg h'] at ej
        have := hlt j y ej
        exact absurd exy.symm (Nat.ne_of_lt this)
    · rw [if_neg h] at ei
      by_cases h' : j = st.m
      · rw [if_pos h'] at ej
        cases ej
        have := hlt i x ei
        exact absurd exy (Nat.ne_of_lt this)
      · rw [if_neg h'] at ej
        exact D.inj i j x y ei ej exy
  · intro a o' e
    exact Heap.get?_push_of_some _ (D.ktk a o' e)
  · intro i x e
    dsimp only at e
    rw [G] at e
    by_cases h : i = st.m
    · rw [if_pos h] at e
      cases e
      show kt.get (st.tb + st.to) = none
      cases q : kt.get (st.tb + st.to) with
      | none => rfl
      | some o' => exact absurd (Heap.lt_size (D.ktk _ _ q)) (by rw [D.size]; exact Nat.lt_irrefl _)
    · rw [if_neg h] at e
      exact D.ktn i x e
  · intro b o' e hb
    exact Heap.get?_push_of_some _ (D.keep b o' e hb)
  · intro i x e
    dsimp only at e
    rw [G] at e
    by_cases h : i = st.m
    · rw [if_pos h] at e
      cases e
      right
      show h₀.objs.size ≤ st.tb + st.to
      rw [← D.size]; exact D.le
    · rw [if_neg h] at e
      exact D.fresh i x e
  · show h₀.objs.size ≤ (s.heap.push o).objs.size
    rw [Heap.size_push]; exact Nat.le_succ_of_le D.le

theorem Rp.update (D : Rp kt h₀ mu rest st s) {i : Nat} {x : Addr × Obj} {f : Obj → Obj} (e : st.T.get i = some x) (hf : (f x.2).isFreed = false) (hg : ((st.T.put i (x.1, f x.2)).get i).isSome = true) :
    Rp kt h₀ mu rest ⟨st.T.put i (x.1, f x.2), st.m, st.tb, st.to, st.kb, st.ko⟩ { s with heap := s.heap.update x.1 f } := by
  have G := Tr.get_put (x.1, f x.2) st.T i hg
  have hs : Heap.SameBut x.1 s.heap (s.heap.update x.1 f) := Heap.SameBut.update ..
  refine ⟨hs.1.trans D.size, D.toks, ?_, ?_, ?_, ?_, ?_, ?_, ?_, ?_, D.rest⟩
  · intro j y ej
    dsimp only at ej ⊢
    rw [G] at ej
    by_cases h : j = i
    · rw [if_pos h] at ej
      cases ej
      exact Heap.get?_update_self f (D.own i x e) hf
    · rw [if_neg h] at ej
      have : y.1 ≠ x.1 := fun q => h (D.inj j i y x ej e q)
      exact (hs.2 _ this).trans (D.own j y ej)
  · intro j y ej
    dsimp only at ej ⊢
    rw [G] at ej
    by_cases h : j = i
    · rw [h]; exact D.lab i x e
    · rw [if_neg h] at ej; exact D.lab j y ej
  · intro j k y z ej ek eyz
    dsimp only at ej ek
    rw [G] at ej ek
    have fix : ∀ j y, (if j = i then some (x.1, f x.2) else st.T.get j) = some y → ∃ y', st.T.get j = some y' ∧ y'.1 = y.1 := by
      intro j y ej
      by_cases h : j = i
      · rw [if_pos h] at ej
        cases ej
        exact ⟨x, by rw [h]; exact e, rfl⟩
      · rw [if_neg h] at ej
        exact ⟨y, ej, rfl⟩
    obtain ⟨y', hy, ey⟩ := fix j y ej
    obtain ⟨z', hz, ez⟩ := fix k z ek
    exact D.inj j k y' z' hy hz (by rw [ey, ez]; exact eyz)
  · intro a o ea
    have : a ≠ x.1 := fun q => by have := D.ktn i x e; rw [← q, ea] at this; cases this
    exact (hs.2 _ this).trans (D.ktk a o ea)
  · intro j y ej
    dsimp only at ej
    rw [G] at ej
    by_cases h : j = i
    · rw [if_pos h] at ej
      cases ej
      exact D.ktn i x e
    · rw [if_neg h] at ej; exact D.ktn j y ej
  · intro b o eb hb
    have : b ≠ x.1 := by
      rcases D.fresh i x e with q | q
      · exact fun z => hb (z ▸ q)
      · exact Nat.ne_of_lt (Nat.lt_of_lt_of_le (Heap.lt_size eb) q)
    exact (hs.2 _ this).trans (D.keep b o eb hb)
  · intro j y ej
    dsimp only at ej
    rw [G] at ej
    by_cases h : j = i
    · rw [if_pos h] at ej
      cases ej
      exact D.fresh i x e
    · rw [if_neg h] at ej; exact D.fresh j y ej
  · show h₀.objs.size ≤ (s.heap.update x.1 f).objs.size
    rw [hs.1]; exact D.le
theorem Rp.fresh1 (D : Rp kt h₀ mu rest st s) : Rp kt h₀ mu rest ⟨st.T, st.m, st.tb, st.to, st.kb, st.ko + 1⟩ { s with toks := s.toks + 1 } :=
  ⟨D.size, by show s.toks + 1 = _; rw [D.toks, Nat.add_assoc], D.own, D.lab, D.inj, D.ktk, D.ktn, D.keep, D.fresh, D.le, D.rest⟩
end

/-! ## meaning -/
noncomputable def endW (M : Model) (base : List (Code × Pos)) (R₀ : Result → Shared → Prop) : List Kf → Result → Shared → Prop
  | [] => R₀
  | f :: κ => fun r s => wp M (Γof f.c (below base κ)) (f.k r) (finPost M (Γof f.c (below base κ)) (endW M base R₀ κ)) (fun e _ s' => endW M base R₀ κ (.error e) s') f.p s

noncomputable def Means (M : Model) (base : List (Code × Pos)) (R₀ : Result → Shared → Prop) (c : Code) (p : Pos) (t : Sem Fin) (κ : List Kf) (s : Shared) : Prop :=
  wp M (Γof c (below base κ)) t (finPost M (Γof c (below base κ)) (endW M base R₀ κ)) (fun e _ s' => endW M base R₀ κ (.error e) s') p s

noncomputable def Hold (acc : Acc) : Prop := (∀ e ∈ acc.a, e.1 = e.2) ∧ (∀ e ∈ acc.r, e.1 = e.2) ∧ (∀ e ∈ acc.j, e.1 = e.2)

section
variable (E : En) (hdn : denote table = E.dn) (R₀ : Result → Shared → Prop) (h₀ : Heap) (mu : List Addr) (rest : Array GenState × Drawn × OsState)

noncomputable abbrev En.M (E : En) : Model := model E.prog E.w
noncomputable abbrev MeansX (x : X) (s : Shared) : Prop := Means E.M E.base R₀ x.c x.p x.t x.κ s
noncomputable def Goes (x y : X) : Prop := ∀ s, Rp E.kt h₀ mu rest x.st s → (∀ s', Rp E.kt h₀ mu rest y.st s' → MeansX E R₀ y s') → MeansX E R₀ x s
noncomputable def Sound1 (f : X → Option X) : Prop := ∀ x y, f x = some y → Hold y.acc → Hold x.acc ∧ Goes E R₀ h₀ mu rest x y

theorem finPost_done (M : Model) (Γ : Ctx) (R : Result → Shared → Prop) (f : Flow) (p : Pos) (s : Shared) : finPost M Γ R (.done f) p s = R (.ok f) s := rfl
theorem finPost_again (M : Model) (Γ : Ctx) (R : Result → Shared → Prop) (c : Code) (p : Pos) (s : Shared) : finPost M Γ R (.again c) p s = (c.quiet = true ∧ wpCode M (Γ.goto c) R p s) := rfl

include hdn in
theorem code_means {c : Code} {κ : List Kf} {p : Pos} {s : Shared} : wpCode E.M (Γof c (below E.base κ)) (endW E.M E.base R₀ κ) p s ↔ Means E.M E.base R₀ c p (E.dn c) κ s := by
  rw [wpCode_iff_wp]
  show wp E.M (Γof c (below E.base κ)) (denote table c) _ _ p s ↔ _
  rw [hdn]
  rfl

include hdn in
theorem step1_sound (rec : Nat → X → Option X) (ih : ∀ n, Sound1 E R₀ h₀ mu rest (rec n)) : Sound1 E R₀ h₀ mu rest (step1 E rec) := by
  rintro ⟨c, p, t, κ, st, hs, acc⟩ y h H
  cases t with
  | pure fin =>
    cases fin with
    | done f =>
      cases κ with
      | nil => cases h
      | cons fr κ' => cases h; exact ⟨H, fun s D k => k s D⟩
    | again c' =>
      simp only [step1] at h
      split at h
      · rename_i q
        cases h
        refine ⟨H, fun s D k => ?_⟩
        show finPost _ _ _ (.again c') p s
        rw [finPost_again]
        exact ⟨q, (code_means E hdn R₀).mpr (k s D)⟩
      · cases h
  | raise e =>
    cases κ with
    | nil => cases h
    | cons fr κ' => cases h; exact ⟨H, fun s D k => k s D⟩
  | rule tag k => cases h; exact ⟨H, fun s D K => K s D⟩
  | «at» q k => cases h; exact ⟨H, fun s D K => K s D⟩
  | point l k => cases h; exact ⟨H, fun s D K => K s D⟩
  | ask k =>
    cases hs with
    | nil => cases h
    | cons h1 hs1 =>
      cases h1 with
      | zero => cases h; exact ⟨H, fun s D K => K s D⟩
      | succ r =>
        cases hs1 with
        | nil => cases h
        | cons n hs2 =>
          cases hs2 with
          | nil => cases h
          | cons m hs3 =>
            simp only [step1] at h
            split at h
            · rename_i x ex
              split at h
              · rename_i z ez
                cases h
                obtain ⟨Ha, Hr, Hj⟩ := H
                have Hz : Hold z.acc := ⟨Ha, fun e he => Hr e (.tail _ he), fun e he => Hj e (.tail _ he)⟩
                obtain ⟨Hx, Gz⟩ := ih m _ _ ez Hz
                obtain ⟨H0, Gx⟩ := ih n _ _ ex Hx
                refine ⟨H0, fun s D K => ?_⟩
                have ek : k = fun S => k (Srow S (S.params.followText (rowName (r + 1)))) := Hr _ (.head _)
                have ej : x.toJ = z.toJ := Hj _ (.head _)
                show wp _ _ (k E.set0) _ _ p s
                rw [ek]
                dsimp only
                cases hb : E.set0.params.followText (rowName (r + 1)) with
                | true => exact Gx s D K
                | false =>
                  refine Gz s D fun s' D' => ?_
                  obtain ⟨e1, e2⟩ := Prod.mk.inj ej
                  obtain ⟨e2, e3⟩ := Prod.mk.inj e2
                  obtain ⟨e3, e4⟩ := Prod.mk.inj e3
                  obtain ⟨e4, e5⟩ := Prod.mk.inj e4
                  have := K s' (by rw [e5]; exact D')
                  show Means _ _ _ z.c z.p z.t z.κ s'
                  rw [← e1, ← e2, ← e3, ← e4]
                  exact this
              · cases h
            · cases h
  | load a q k =>
    cases hs with
    | nil => cases h
    | cons h1 hs1 =>
      cases h1 with
      | zero =>
        simp only [step1] at h
        split at h
        · rename_i o eo
          cases h
          refine ⟨H, fun s D K => ?_⟩
          show wp _ _ (.load a q k) _ _ p s
          rw [Sem.wp_load]
          exact ⟨o, D.ktk a o eo, K s D⟩
        · cases h
      | succ i =>
        simp only [step1] at h
        split at h
        · rename_i x ex
          cases h
          obtain ⟨Ha, Hr, Hj⟩ := H
          refine ⟨⟨fun e he => Ha e (.tail _ he), Hr, Hj⟩, fun s D K => ?_⟩
          have ea : a = x.1 := Ha _ (.head _)
          show wp _ _ (.load a q k) _ _ p s
          rw [Sem.wp_load]
          exact ⟨x.2, ea ▸ D.own i x ex, K s D⟩
        · cases h
  | loadIfAlive a k =>
    cases hs with
    | nil => cases h
    | cons h1 hs1 =>
      cases h1 with
      | zero =>
        simp only [step1] at h
        split at h
        · rename_i o eo
          cases h
          refine ⟨H, fun s D K => ?_⟩
          show wp _ _ (.loadIfAlive a k) _ _ p s
          rw [Sem.wp_loadIfAlive, D.ktk a o eo]
          exact K s D
        · cases h
      | succ i =>
        simp only [step1] at h
        split at h
        · rename_i x ex
          cases h
          obtain ⟨Ha, Hr, Hj⟩ := H
          refine ⟨⟨fun e he => Ha e (.tail _ he), Hr, Hj⟩, fun s D K => ?_⟩
          have ea : a = x.1 := Ha _ (.head _)
          show wp _ _ (.loadIfAlive a k) _ _ p s
          rw [Sem.wp_loadIfAlive, ea, D.own i x ex]
          exact K s D
        · cases h
  | update a q f k =>
    cases hs with
    | nil => cases h
    | cons i hs1 =>
      simp only [step1] at h
      split at h
      · rename_i x ex
        split at h
        · cases h
        · rename_i hf
          split at h
          · rename_i z hz
            cases h
            obtain ⟨Ha, Hr, Hj⟩ := H
            refine ⟨⟨fun e he => Ha e (.tail _ he), Hr, Hj⟩, fun s D K => ?_⟩
            have ea : a = x.1 := Ha _ (.head _)
            show wp _ _ (.update a q f k) _ _ p s
            rw [Sem.wp_update, ea]
            exact ⟨by rw [D.own i x ex]; rfl, K _ (D.update ex hf (by rw [hz]; rfl))⟩
          · cases h
      · cases h
  | alloc o k =>
    simp only [step1] at h
    split at h
    · cases h
    · rename_i hf
      split at h
      · rename_i z hz
        cases h
        refine ⟨H, fun s D K => ?_⟩
        show wp _ _ (.alloc o k) _ _ p s
        rw [Sem.wp_alloc, D.size]
        exact K _ (D.alloc hf (by rw [hz]; rfl))
      · cases h
  | fresh k =>
    cases h
    refine ⟨H, fun s D K => ?_⟩
    show wp _ _ (.fresh k) _ _ p s
    rw [Sem.wp_fresh, D.toks]
    have := K _ D.fresh1
    rw [D.toks] at this
    exact this
  | handled own k =>
    cases h
    refine ⟨H, fun s D K => ?_⟩
    show wp _ _ (.handled own k) _ _ p s
    rw [Sem.wp_handled]
    cases own <;> exact K s D
  | stack k => cases h; exact ⟨H, fun s D K => K s D⟩
  | call c' hd g l k =>
    cases hd with
    | some v => cases h
    | none =>
      cases h
      refine ⟨H, fun s D K => ?_⟩
      show wp _ _ (.call c' none g l k) _ _ p s
      rw [Sem.wp_call]
      exact (code_means E hdn R₀ (κ := ⟨c, p, k⟩ :: κ)).mpr (K s D)
  | unsupported => cases h
  | finish => cases h
  | register => cases h
  | choose => cases h
  | os => cases h
  | genState => cases h
  | newGen => cases h
  | resume => cases h
  | yield => cases h
  | fork => cases h
  | thread => cases h
  | await => cases h

theorem Goes.refl (x : X) : Goes E R₀ h₀ mu rest x x := fun s D K => K s D
include hdn in
theorem run_sound : ∀ f n, Sound1 E R₀ h₀ mu rest (run E f n)
  | 0, n => by
    intro x y h H
    cases n with
    | zero => cases h; exact ⟨H, Goes.refl E R₀ h₀ mu rest _⟩
    | succ n => cases h
  | f + 1, n => by
    intro x y h H
    cases n with
    | zero => cases h; exact ⟨H, Goes.refl E R₀ h₀ mu rest _⟩
    | succ n =>
      have h : (match step1 E (run E f) x with | some y => run E f n y | none => none) = some y := h
      split at h
      · rename_i z hz
        obtain ⟨Hz, Gz⟩ := run_sound f n z y h H
        obtain ⟨Hx, Gx⟩ := step1_sound E hdn R₀ h₀ mu rest (run E f) (run_sound f) x z hz Hz
        exact ⟨Hx, fun s D K => Gx s D fun s' D' => Gz s' D' K⟩
      · cases h
end
end Mine
end
noncomputable section
namespace Mine
open PySem PySem.W PySem.W.X
open PySem.Sem (wp finPost)

/-! ## contracts -/
structure Outc where
  r : Result
  upd : List Obj
  new : List (Addr × Obj)
  top : Nat
  tok : Nat

noncomputable def Upd (h : Heap) : List (Addr × Obj) → List Obj → Prop
  | [], [] => True
  | x :: xs, o :: os => h.get? x.1 = some o ∧ Upd h xs os
  | _, _ => False

/-- what a contract promises of the state behind it -/
structure Post (kt : KT) (rest : Array GenState × Drawn × OsState) (pre : List (Addr × Obj)) (s : Shared) (o : Outc) (s' : Shared) : Prop where
  upd : Upd s'.heap pre o.upd
  new : ∀ x ∈ o.new, s'.heap.get? x.1 = some x.2 ∧ s.heap.objs.size ≤ x.1
  nodup : (o.new.map (·.1)).Nodup
  frame : ∀ b ob, s.heap.get? b = some ob → b ∉ pre.map (·.1) → s'.heap.get? b = some ob
  top : s'.heap.objs.size = o.top
  le : s.heap.objs.size ≤ s'.heap.objs.size
  tok : s'.toks = o.tok
  rest : (s'.gens, s'.drawn, s'.os) = rest

/-- the code `c`, called over the stack `bel` where the objects `pre` stand, ends in an outcome with `Q` -/
noncomputable def Ctr (E : En) (bel : List (Code × Pos)) (c : Code) (pre : List (Addr × Obj)) (Q : Outc → Prop) : Prop :=
  ∀ (rest : Array GenState × Drawn × OsState) (p : Pos) (s : Shared), (∀ a o, E.kt.get a = some o → s.heap.get? a = some o) → (∀ x ∈ pre, s.heap.get? x.1 = some x.2) → (pre.map (·.1)).Nodup → (∀ x ∈ pre, E.kt.get x.1 = none) →
    (s.gens, s.drawn, s.os) = rest → wpCode E.M (Γof c bel) (fun r s' => ∃ o, o.r = r ∧ Q o ∧ Post E.kt rest pre s o s') p s

noncomputable def mTree : Made → Sem Fin
  | .val v => .pure (.done (.ret v))
  | .int i => .fresh fun t => .pure (.done (.ret (.int i t)))
  | .str x => .fresh fun t => .pure (.done (.ret (.str x t)))
  | _ => .unsupported "made"
noncomputable def MadeOk : Made → Prop
  | .str x => x.length ≤ sizeLine
  | .val _ => True
  | .int _ => True
  | _ => False

noncomputable def leaf : Result → Sem Fin
  | .ok f => .pure (.done f)
  | .error e => .raise e

noncomputable def getPre (T : Tr (Addr × Obj)) : List Nat → Option (List (Addr × Obj))
  | [] => some []
  | i :: ls => match T.get i with
    | some x => match getPre T ls with
      | some l => some (x :: l)
      | none => none
    | none => none
noncomputable def putUpd : Tr (Addr × Obj) → List Nat → List Obj → Option (Tr (Addr × Obj))
  | T, [], [] => some T
  | T, i :: ls, o :: os => match T.get i with
    | some x => match (T.put i (x.1, o)).get i with
      | some _ => putUpd (T.put i (x.1, o)) ls os
      | none => none
    | none => none
  | _, _, _ => none
noncomputable def putNew : Tr (Addr × Obj) → Nat → List (Addr × Obj) → Option (Tr (Addr × Obj) × Nat)
  | T, m, [] => some (T, m)
  | T, m, x :: xs => match (T.put m x).get m with
    | some _ => putNew (T.put m x) (m + 1) xs
    | none => none
noncomputable def noDup : List Nat → Bool
  | [] => true
  | x :: xs => !xs.any (Nat.beq x) && noDup xs
noncomputable def stAfter (st : St) (ls : List Nat) (o : Outc) : Option St := match noDup ls with
  | false => none
  | true => match putUpd st.T ls o.upd with
    | some T₁ => match putNew T₁ st.m o.new with
      | some (T₂, m₂) => some ⟨T₂, m₂, o.top, 0, o.tok, 0⟩
      | none => none
    | none => none

theorem noDup_sound : ∀ {l : List Nat}, noDup l = true → l.Nodup
  | [], _ => List.nodup_nil
  | x :: xs, h => by
    simp only [noDup, Bool.and_eq_true, Bool.not_eq_true'] at h
    refine List.nodup_cons.mpr ⟨fun hm => ?_, noDup_sound h.2⟩
    have : xs.any (Nat.beq x) = true := List.any_eq_true.mpr ⟨x, hm, Nat.beq_refl x⟩
    rw [this] at h; cases h.1

theorem getPre_mem {T : Tr (Addr × Obj)} : ∀ {ls : List Nat} {pre : List (Addr × Obj)}, getPre T ls = some pre → ∀ x ∈ pre, ∃ i ∈ ls, T.get i = some x
  | [], _, h, _, hx => by cases h; cases hx
  | i :: ls, pre, h, x, hx => by
    unfold getPre at h
    split at h
    · rename_i y ey
      split at h
      · rename_i l el
        cases h
        rcases List.mem_cons.mp hx with rfl | hx
        · exact ⟨i, .head _, ey⟩
        · obtain ⟨j, hj, ej⟩ := getPre_mem el x hx
          exact ⟨j, .tail _ hj, ej⟩
      · cases h
    · cases h
theorem getPre_of {T : Tr (Addr × Obj)} : ∀ {ls : List Nat} {pre : List (Addr × Obj)}, getPre T ls = some pre → ∀ i ∈ ls, ∃ x ∈ pre, T.get i = some x
  | [], _, _, _, hi => by cases hi
  | j :: ls, pre, h, i, hi => by
    unfold getPre at h
    split at h
    · rename_i y ey
      split at h
      · rename_i l el
        cases h
        rcases List.mem_cons.mp hi with rfl | hi
        · exact ⟨y, .head _, ey⟩
        · obtain ⟨x, hx, ex⟩ := getPre_of el i hi
          exact ⟨x, .tail _ hx, ex⟩
      · cases h
    · cases h
theorem getPre_nodup {T : Tr (Addr × Obj)} (inj : ∀ i j x y, T.get i = some x → T.get j = some y → x.1 = y.1 → i = j) : ∀ {ls : List Nat} {pre : List (Addr × Obj)}, ls.Nodup → getPre T ls = some pre → (pre.map (·.1)).Nodup
  | [], _, _, h => by cases h; exact List.nodup_nil
  | j :: ls, pre, hn, h => by
    unfold getPre at h
    split at h
    · rename_i y ey
      split at h
      · rename_i l el
        cases h
        obtain ⟨h1, h2⟩ := List.nodup_cons.mp hn
        rw [List.map_cons]
        refine List.nodup_cons.mpr ⟨fun hm => ?_, getPre_nodup inj h2 el⟩
        obtain ⟨z, hz, ez⟩ := List.mem_map.mp hm
        obtain ⟨i, hi, ei⟩ := getPre_mem el z hz
        exact h1 (inj _ _ _ _ ei ey ez ▸ hi)
      · cases h
    · cases h

/-- the labels behind putUpd -/
theorem putUpd_get {h : Heap} : ∀ {ls : List Nat} {T T' : Tr (Addr × Obj)} {os : List Obj} {pre : List (Addr × Obj)}, putUpd T ls os = some T' → ls.Nodup → getPre T ls = some pre → Upd h pre os →
    ∀ j x', T'.get j = some x' → ∃ x, T.get j = some x ∧ x.1 = x'.1 ∧ ((j ∉ ls ∧ x' = x) ∨ (j ∈ ls ∧ h.get? x'.1 = some x'.2))
  | [], T, T', [], _, e, _, _, _, j, x', ej => by
    cases e
    exact ⟨x', ej, rfl, .inl ⟨fun q => (nomatch q), rfl⟩⟩
  | [], _, _, _ :: _, _, e, _, _, _, _, _, _ => by cases e
  | _ :: _, _, _, [], _, e, _, _, _, _, _, _ => by cases e
  | i :: ls, T, T', o :: os, pre, e, hn, hp, hu, j, x', ej => by
    unfold putUpd at e
    split at e
    · rename_i y ey
      split at e
      · rename_i z hz
        unfold getPre at hp
        rw [ey] at hp
        dsimp only at hp
        split at hp
        · rename_i l el
          cases hp
          obtain ⟨h1, h2⟩ := List.nodup_cons.mp hn
          have G := Tr.get_put (y.1, o) T i (by rw [hz]; rfl)
          have el' : ∀ {ks : List Nat} {l' : List (Addr × Obj)}, i ∉ ks → getPre T ks = some l' → getPre (T.put i (y.1, o)) ks = some l' := by
            intro ks
            induction ks with
            | nil => intro l' _ q; exact q
            | cons k ks ih =>
              intro l' hk q
              unfold getPre at q ⊢
              rw [G, if_neg (fun (z : k = i) => hk (z ▸ List.Mem.head _))]
              split at q
              · rename_i w ew
                split at q
                · rename_i l'' el''
                  rw [ih (fun q => hk (.tail _ q)) el'']
                  exact q
                · cases q
              · cases q
          obtain ⟨x, ex, exx, hx⟩ := putUpd_get e h2 (el' h1 el) hu.2 j x' ej
          rw [G] at ex
          by_cases hj : j = i
          · subst hj
            rw [if_pos rfl] at ex
            cases ex
            refine ⟨y, ey, exx, .inr ⟨.head _, ?_⟩⟩
            rcases hx with ⟨_, rfl⟩ | ⟨hm, _⟩
            · exact hu.1
            · exact absurd hm h1
          · rw [if_neg hj] at ex
            refine ⟨x, ex, exx, ?_⟩
            rcases hx with ⟨hm, rfl⟩ | ⟨hm, hg⟩
            · exact .inl ⟨fun q => by cases q with | head => exact hj rfl | tail _ q => exact hm q, rfl⟩
            · exact .inr ⟨.tail _ hm, hg⟩
        · cases hp
      · cases e
    · cases e
theorem putNew_get : ∀ {xs : List (Addr × Obj)} {T T' : Tr (Addr × Obj)} {m m' : Nat}, putNew T m xs = some (T', m') → (∀ i x, T.get i = some x → i < m) → m ≤ m' ∧ ∀ j x', T'.get j = some x' → j < m' ∧ ((j < m ∧ T.get j = some x') ∨ (m ≤ j ∧ xs[j - m]? = some x'))
  | [], T, T', m, m', e, hl => by
    cases e
    exact ⟨Nat.le_refl _, fun j x' ej => ⟨hl j x' ej, .inl ⟨hl j x' ej, ej⟩⟩⟩
  | x :: xs, T, T', m, m', e, hl => by
    unfold putNew at e
    split at e
    · rename_i z hz
      have G := Tr.get_put x T m (by rw [hz]; rfl)
      have hl' : ∀ i y, (T.put m x).get i = some y → i < m + 1 := by
        intro i y ei
        rw [G] at ei
        by_cases hi : i = m
        · omega
        · rw [if_neg hi] at ei
          have := hl i y ei
          omega
      obtain ⟨h1, h2⟩ := putNew_get e hl'
      refine ⟨by omega, fun j x' ej => ?_⟩
      obtain ⟨h3, h4⟩ := h2 j x' ej
      refine ⟨h3, ?_⟩
      rcases h4 with ⟨h5, h6⟩ | ⟨h5, h6⟩
      · rw [G] at h6
        by_cases hj : j = m
        · rw [if_pos hj] at h6
          cases h6
          refine .inr ⟨by omega, ?_⟩
          rw [hj, Nat.sub_self]; rfl
        · rw [if_neg hj] at h6
          exact .inl ⟨hl j x' h6, h6⟩
      · refine .inr ⟨by omega, ?_⟩
        have : j - m = (j - (m + 1)) + 1 := by omega
        rw [this]
        exact h6
    · cases e

theorem Rp.after {kt : KT} {h₀ : Heap} {mu : List Addr} {rest : Array GenState × Drawn × OsState} {st st' : St} {s s' : Shared} {ls : List Nat} {pre : List (Addr × Obj)} {o : Outc}
    (D : Rp kt h₀ mu rest st s) (hp : getPre st.T ls = some pre) (P : Post kt rest pre s o s') (e : stAfter st ls o = some st') : Rp kt h₀ mu rest st' s' := by
  unfold stAfter at e
  split at e
  · cases e
  · rename_i hn
    split at e
    · rename_i T₁ e1
      split at e
      · rename_i T₂ m₂ e2
        cases e
        have A := putUpd_get e1 (noDup_sound hn) hp P.upd
        have hl1 : ∀ i x, T₁.get i = some x → i < st.m := fun i x ei => by
          obtain ⟨y, ey, _⟩ := A i x ei
          exact D.lab i y ey
        obtain ⟨_, B⟩ := putNew_get e2 hl1
        have old : ∀ j x', T₁.get j = some x' → s'.heap.get? x'.1 = some x'.2 := by
          intro j x' ej
          obtain ⟨x, ex, exx, h | h⟩ := A j x' ej
          · obtain ⟨hj, rfl⟩ := h
            refine P.frame _ _ (D.own j x' ex) fun hm => ?_
            obtain ⟨z, hz, ez⟩ := List.mem_map.mp hm
            obtain ⟨i, hi, ei⟩ := getPre_mem hp z hz
            exact hj (D.inj _ _ _ _ ei ex ez ▸ hi)
          · exact h.2
        have newMem : ∀ {k : Nat} {x' : Addr × Obj}, o.new[k]? = some x' → x' ∈ o.new := fun h => List.mem_of_getElem? h
        refine ⟨P.top, P.tok, ?_, fun j x' ej => (B j x' ej).1, ?_, ?_, ?_, ?_, ?_, Nat.le_trans D.le P.le, P.rest⟩
        · intro j x' ej
          rcases (B j x' ej).2 with ⟨_, h⟩ | ⟨_, h⟩
          · exact old j x' h
          · exact (P.new x' (newMem h)).1
        · intro i j x y ei ej exy
          have lt1 : ∀ k z, T₁.get k = some z → z.1 < s.heap.objs.size := fun k z ek => by
            obtain ⟨u, eu, euz, _⟩ := A k z ek
            rw [← euz]; exact Heap.lt_size (D.own k u eu)
          rcases (B i x ei).2 with ⟨hi, h⟩ | ⟨hi, h⟩ <;> rcases (B j y ej).2 with ⟨hj, h'⟩ | ⟨hj, h'⟩
          · obtain ⟨u, eu, eux, _⟩ := A i x h
            obtain ⟨v, ev, evy, _⟩ := A j y h'
            exact D.inj i j u v eu ev (by rw [eux, evy]; exact exy)
          · exact absurd (Nat.lt_of_lt_of_le (lt1 i x h) (P.new y (newMem h')).2) (by rw [exy]; exact Nat.lt_irrefl _)
          · exact absurd (Nat.lt_of_lt_of_le (lt1 j y h') (P.new x (newMem h)).2) (by rw [exy]; exact Nat.lt_irrefl _)
          · have nd := P.nodup
            have e1 : (o.new.map (·.1))[i - st.m]? = some x.1 := by rw [List.getElem?_map, h]; rfl
            have e2 : (o.new.map (·.1))[j - st.m]? = some x.1 := by rw [List.getElem?_map, h', exy]; rfl
            have l1 : i - st.m < (o.new.map (·.1)).length := (List.getElem?_eq_some_iff.mp e1).1
            have := (List.getElem?_inj l1 nd).mp (e1.trans e2.symm)
            omega
        · intro a ob ea
          refine P.frame _ _ (D.ktk a ob ea) fun hm => ?_
          obtain ⟨z, hz, ez⟩ := List.mem_map.mp hm
          obtain ⟨i, _, ei⟩ := getPre_mem hp z hz
          have := D.ktn i z ei
          rw [ez, ea] at this
          cases this
        · intro j x' ej
          rcases (B j x' ej).2 with ⟨_, h⟩ | ⟨_, h⟩
          · obtain ⟨u, eu, eux, _⟩ := A j x' h
            rw [← eux]; exact D.ktn j u eu
          · cases q : kt.get x'.1 with
            | none => rfl
            | some ob =>
              exact absurd (Nat.lt_of_lt_of_le (Heap.lt_size (D.ktk _ _ q)) (P.new x' (newMem h)).2) (Nat.lt_irrefl _)
        · intro b ob eb hb
          refine P.frame _ _ (D.keep b ob eb hb) fun hm => ?_
          obtain ⟨z, hz, ez⟩ := List.mem_map.mp hm
          obtain ⟨i, _, ei⟩ := getPre_mem hp z hz
          rcases D.fresh i z ei with q | q
          · exact hb (ez ▸ q)
          · exact absurd (Nat.lt_of_lt_of_le (Heap.lt_size eb) q) (by rw [ez]; exact Nat.lt_irrefl _)
        · intro j x' ej
          rcases (B j x' ej).2 with ⟨_, h⟩ | ⟨_, h⟩
          · obtain ⟨u, eu, eux, _⟩ := A j x' h
            rw [← eux]; exact D.fresh j u eu
          · exact .inr (Nat.le_trans D.le (P.new x' (newMem h)).2)
      · cases e
    · cases e
end Mine
end
noncomputable section
namespace Mine
open PySem PySem.W PySem.W.X
open PySem.Sem (wp finPost)

/-- another tree that does for a code -/
noncomputable def Sub (c : Code) (alt : Sem Fin) : Prop := ∀ (M : Model) (Γ : Ctx) (Q : Fin → Pos → Shared → Prop) (Er : Value → Pos → Shared → Prop) (p : Pos) (s : Shared), Γ.code = c → wp M Γ alt Q Er p s → wp M Γ (denote table c) Q Er p s
inductive Ins where
  | pur (n : Nat) (hs : List Nat) (m : Made)
  | ent (n : Nat) (hs : List Nat) (c : Code) (alt : Sem Fin)
  | ctr (n : Nat) (hs : List Nat) (ls : List Nat) (o : Outc)
structure Qu where
  bel : List (Code × Pos)
  c : Code
  pre : List (Addr × Obj)
structure Res where
  x : X
  gs : List (Code × Made)
  qs : List Qu

noncomputable def X.hint (x : X) (hs : List Nat) : X := ⟨x.c, x.p, x.t, x.κ, x.st, hs, x.acc⟩

/-- where a contract stands: the stack, the code, and what goes on behind the answer -/
noncomputable def atCtr (E : En) (y : X) (ls : List Nat) (o : Outc) : Option (Qu × X) := match getPre y.st.T ls with
  | none => none
  | some pre => match stAfter y.st ls o with
    | none => none
    | some st' => match y.t with
      | .call c' hd _ _ k => match hd with
        | none => some (⟨(y.c, y.p) :: below E.base y.κ, c', pre⟩, ⟨y.c, y.p, k o.r, y.κ, st', [], y.acc⟩)
        | some _ => none
      | .pure fin => match fin with
        | .again c' => match c'.quiet with
          | true => some (⟨below E.base y.κ, c', pre⟩, ⟨c', y.p, leaf o.r, y.κ, st', [], y.acc⟩)
          | false => none
        | .done _ => none
      | _ => none
noncomputable def atPur (y : X) (m : Made) : Option (Code × X) := match y.t with
  | .pure fin => match fin with
    | .again c' => match c'.quiet with
      | true => some (c', ⟨c', y.p, mTree m, y.κ, y.st, [], y.acc⟩)
      | false => none
    | .done _ => none
  | _ => none

noncomputable def St0 : St := ⟨.nil, 0, 0, 0, 0, 0⟩
noncomputable def entJ (c : Code) (p : Pos) : J := (c, p, .raise .none, [], St0)
/-- into a code by another tree -/
noncomputable def atEnt (y : X) (c : Code) (alt : Sem Fin) : Option X := match y.t with
  | .call c' hd _ _ k => match hd with
    | none => some ⟨c, y.p, alt, ⟨y.c, y.p, k⟩ :: y.κ, y.st, [], ⟨y.acc.a, y.acc.r, (entJ c' y.p, entJ c y.p) :: y.acc.j⟩⟩
    | some _ => none
  | .pure fin => match fin with
    | .again c' => match c'.quiet with
      | true => some ⟨c, y.p, alt, y.κ, y.st, [], ⟨y.acc.a, y.acc.r, (entJ c' y.p, entJ c y.p) :: y.acc.j⟩⟩
      | false => none
    | .done _ => none
  | _ => none

noncomputable def exec (E : En) (F : Nat) : List Ins → Nat → List Nat → X → Option Res
  | [], n, hs, x => match run E F n (x.hint hs) with
    | some y => some ⟨y, [], []⟩
    | none => none
  | .pur n₁ h₁ m :: is, n, hs, x => match run E F n₁ (x.hint h₁) with
    | some y => match atPur y m with
      | some (c', x') => match exec E F is n hs x' with
        | some r => some ⟨r.x, (c', m) :: r.gs, r.qs⟩
        | none => none
      | none => none
    | none => none
  | .ent n₁ h₁ c alt :: is, n, hs, x => match run E F n₁ (x.hint h₁) with
    | some y => match atEnt y c alt with
      | some x' => exec E F is n hs x'
      | none => none
    | none => none
  | .ctr n₁ h₁ ls o :: is, n, hs, x => match run E F n₁ (x.hint h₁) with
    | some y => match atCtr E y ls o with
      | some (q, x') => match exec E F is n hs x' with
        | some r => some ⟨r.x, r.gs, q :: r.qs⟩
        | none => none
      | none => none
    | none => none

inductive Tele where
  | fin (n : Nat) (hs : List Nat)
  | pur (n : Nat) (hs : List Nat) (m : Made) (rest : Tele)
  | ent (n : Nat) (hs : List Nat) (c : Code) (alt : Sem Fin) (h : Sub c alt) (rest : Tele)
  | ctr (n : Nat) (hs : List Nat) (ls : List Nat) (Q : Outc → Prop) (hQ : ∃ o, Q o) (rest : Outc → Tele)
  | dat {α : Type} (n : Nat) (hs : List Nat) (ls : List Nat) (f : α → Outc) (a₀ : α) (rest : α → Tele)
/-- outcomes by their data -/
noncomputable def QF {α : Type} (f : α → Outc) (o : Outc) : Prop := ∃ a, o = f a
noncomputable def Tele.All : Tele → (List Ins → List (Outc → Prop) → Nat → List Nat → Prop) → Prop
  | .fin n hs, P => P [] [] n hs
  | .pur n h m rest, P => rest.All fun is qs n' hs' => P (.pur n h m :: is) qs n' hs'
  | .ent n h c alt _ rest, P => rest.All fun is qs n' hs' => P (.ent n h c alt :: is) qs n' hs'
  | .ctr n h ls Q _ rest, P => ∀ o, Q o → (rest o).All fun is qs n' hs' => P (.ctr n h ls o :: is) (Q :: qs) n' hs'
  | .dat n h ls f _ rest, P => ∀ a, (rest a).All fun is qs n' hs' => P (.ctr n h ls (f a) :: is) (QF f :: qs) n' hs'
theorem Tele.All.mono : ∀ (T : Tele) {P P' : List Ins → List (Outc → Prop) → Nat → List Nat → Prop}, (∀ is qs n hs, P is qs n hs → P' is qs n hs) → T.All P → T.All P'
  | .fin n hs, _, _, h, a => h _ _ _ _ a
  | .pur _ _ _ rest, _, _, h, a => Tele.All.mono rest (fun is qs n hs => h _ qs n hs) a
  | .ent _ _ _ _ _ rest, _, _, h, a => Tele.All.mono rest (fun is qs n hs => h _ qs n hs) a
  | .ctr _ _ _ _ _ rest, _, _, h, a => fun o ho => Tele.All.mono (rest o) (fun _ _ _ _ => h _ _ _ _) (a o ho)
  | .dat _ _ _ _ _ rest, _, _, h, a => fun o => Tele.All.mono (rest o) (fun _ _ _ _ => h _ _ _ _) (a o)
theorem Tele.All.some : ∀ (T : Tele) {P : List Ins → List (Outc → Prop) → Nat → List Nat → Prop}, T.All P → ∃ is qs n hs, P is qs n hs
  | .fin n hs, _, a => ⟨_, _, _, _, a⟩
  | .pur _ _ _ rest, _, a => let ⟨_, _, _, _, h⟩ := Tele.All.some rest a; ⟨_, _, _, _, h⟩
  | .ent _ _ _ _ _ rest, _, a => let ⟨_, _, _, _, h⟩ := Tele.All.some rest a; ⟨_, _, _, _, h⟩
  | .ctr _ _ _ _ ⟨o, ho⟩ rest, _, a => let ⟨_, _, _, _, h⟩ := Tele.All.some (rest o) (a o ho); ⟨_, _, _, _, h⟩
  | .dat _ _ _ _ o rest, _, a => let ⟨_, _, _, _, h⟩ := Tele.All.some (rest o) (a o); ⟨_, _, _, _, h⟩

/-- a contract that may lean on what stood in the heap `h₀` outside of `mu` -/
noncomputable def CtrH (E : En) (h₀ : Heap) (mu : List Addr) (bel : List (Code × Pos)) (c : Code) (pre : List (Addr × Obj)) (Q : Outc → Prop) : Prop :=
  ∀ (rest : Array GenState × Drawn × OsState) (p : Pos) (s : Shared), (∀ b ob, h₀.get? b = some ob → b ∉ mu → s.heap.get? b = some ob) → (∀ x ∈ pre, x.1 ∈ mu ∨ h₀.objs.size ≤ x.1) → h₀.objs.size ≤ s.heap.objs.size →
    (∀ a o, E.kt.get a = some o → s.heap.get? a = some o) → (∀ x ∈ pre, s.heap.get? x.1 = some x.2) → (pre.map (·.1)).Nodup → (∀ x ∈ pre, E.kt.get x.1 = none) →
    (s.gens, s.drawn, s.os) = rest → wpCode E.M (Γof c bel) (fun r s' => ∃ o, o.r = r ∧ Q o ∧ Post E.kt rest pre s o s') p s
theorem Ctr.toH {E : En} {h₀ : Heap} {mu : List Addr} {bel : List (Code × Pos)} {c : Code} {pre : List (Addr × Obj)} {Q : Outc → Prop} (h : Ctr E bel c pre Q) : CtrH E h₀ mu bel c pre Q :=
  fun rest p s _ _ _ a b c d e => h rest p s a b c d e
noncomputable def CtrAll (E : En) (h₀ : Heap) (mu : List Addr) : List Qu → List (Outc → Prop) → Prop
  | [], [] => True
  | q :: qs, Q :: Qs => CtrH E h₀ mu q.bel q.c q.pre Q ∧ CtrAll E h₀ mu qs Qs
  | _, _ => False

structure Good (E : En) (F : Nat) (h₀ : Heap) (mu : List Addr) (rest : Array GenState × Drawn × OsState) (R₀ : Result → Shared → Prop) (x : X) (is : List Ins) (Qs : List (Outc → Prop)) (n : Nat) (hs : List Nat) : Prop where
  go : ∃ r, exec E F is n hs x = some r ∧ Hold r.x.acc ∧ (∀ g ∈ r.gs, Gives (denote table g.1) g.2 ∧ MadeOk g.2) ∧ CtrAll E h₀ mu r.qs Qs ∧
    ∀ s, Rp E.kt h₀ mu rest r.x.st s → MeansX E R₀ r.x s

theorem atEnt_hold {y : X} {c : Code} {alt : Sem Fin} {x' : X} (h : atEnt y c alt = some x') (H : Hold x'.acc) : Hold y.acc := by
  unfold atEnt at h
  split at h
  · split at h
    · cases h; exact ⟨H.1, H.2.1, fun e he => H.2.2 e (.tail _ he)⟩
    · cases h
  · split at h
    · split at h
      · cases h; exact ⟨H.1, H.2.1, fun e he => H.2.2 e (.tail _ he)⟩
      · cases h
    · cases h
  · cases h
theorem exec_hold (E : En) (hdn : denote table = E.dn) (F : Nat) : ∀ (is : List Ins) (n : Nat) (hs : List Nat) (x : X) (r : Res), exec E F is n hs x = some r → Hold r.x.acc → Hold x.acc
  | [], n, hs, x, r, e, H => by
    unfold exec at e
    split at e
    · rename_i y hy
      cases e
      exact (run_sound E hdn (fun _ _ => True) ⟨#[], {}⟩ [] (#[], {}, {}) F n _ _ hy H).1
    · cases e
  | .pur n₁ h₁ m :: is, n, hs, x, r, e, H => by
    unfold exec at e
    split at e
    · rename_i y hy
      split at e
      · rename_i c' x' hx
        split at e
        · rename_i r' hr
          cases e
          have := exec_hold E hdn F is n hs x' r' hr H
          unfold atPur at hx
          split at hx
          · split at hx
            · split at hx
              · cases hx
                exact (run_sound E hdn (fun _ _ => True) ⟨#[], {}⟩ [] (#[], {}, {}) F _ _ _ hy this).1
              · cases hx
            · cases hx
          · cases hx
        · cases e
      · cases e
    · cases e
  | .ent n₁ h₁ c alt :: is, n, hs, x, r, e, H => by
    unfold exec at e
    split at e
    · rename_i y hy
      split at e
      · rename_i x' hx
        have := exec_hold E hdn F is n hs x' r e H
        exact (run_sound E hdn (fun _ _ => True) ⟨#[], {}⟩ [] (#[], {}, {}) F _ _ _ hy (atEnt_hold hx this)).1
      · cases e
    · cases e
  | .ctr n₁ h₁ ls o :: is, n, hs, x, r, e, H => by
    unfold exec at e
    split at e
    · rename_i y hy
      split at e
      · rename_i q x' hx
        split at e
        · rename_i r' hr
          cases e
          have := exec_hold E hdn F is n hs x' r' hr H
          have hy' : Hold y.acc := by
            unfold atCtr at hx
            split at hx
            · cases hx
            · split at hx
              · cases hx
              · split at hx
                · split at hx
                  · cases hx; exact this
                  · cases hx
                · split at hx
                  · split at hx
                    · cases hx; exact this
                    · cases hx
                  · cases hx
                · cases hx
          exact (run_sound E hdn (fun _ _ => True) ⟨#[], {}⟩ [] (#[], {}, {}) F _ _ _ hy hy').1
        · cases e
      · cases e
    · cases e

theorem made_sound {E : En} {b : List (Code × Pos)} {c' : Code} {m : Made} {R : Result → Shared → Prop} {p : Pos} {s : Shared} (g : Gives (denote table c') m) (hm : MadeOk m)
    (h : wp E.M (Γof c' b) (mTree m) (finPost E.M (Γof c' b) R) (fun e _ s' => R (.error e) s') p s) : wpCode E.M (Γof c' b) R p s := by
  rw [wpCode_iff_wp]
  have post : m.post (fun v s' => R (.ok (.ret v)) s') s := by
    cases m with
    | val v => exact h
    | int i => exact h
    | str x => exact ⟨hm, h⟩
    | float _ => cases hm
    | bytes _ => cases hm
    | either _ _ => cases hm
  let A : Around := { handled := none, depth := frameCount b + c'.weight, frames := none, guards := none, units := (Γof c' b).units }
  have hin : (Γof c' b).In A.in1 := ⟨rfl, Nat.le_refl _, fun _ hl => (nomatch hl), fun _ hg => (nomatch hg), Nat.le_succ _⟩
  refine Sem.wp_mono E.M (Γof c' b) _ (fun fin p' s' h' => ?_) (fun _ _ _ h' => h') p s (g E.prog E.w A R s post (Γof c' b) p hin)
  cases fin with
  | done f => exact h'
  | again c'' => exact ⟨h'.1, h'.2 ((Γof c' b).goto c'') p' rfl ⟨rfl, Nat.le_add_right _ _, fun _ hl => (nomatch hl), fun _ hg => (nomatch hg), Nat.le_add_left _ _⟩⟩

theorem exec_ctr {E : En} {F n₁ n : Nat} {h₁ ls hs : List Nat} {o : Outc} {is : List Ins} {x : X} {r : Res} (e : exec E F (.ctr n₁ h₁ ls o :: is) n hs x = some r) :
    ∃ y q x' r', run E F n₁ (x.hint h₁) = some y ∧ atCtr E y ls o = some (q, x') ∧ exec E F is n hs x' = some r' ∧ (⟨r'.x, r'.gs, q :: r'.qs⟩ : Res) = r := by
  unfold exec at e
  split at e
  · rename_i y hy
    split at e
    · rename_i q x' hx
      split at e
      · rename_i r' hr
        exact ⟨y, q, x', r', hy, hx, hr, Option.some.inj e⟩
      · cases e
    · cases e
  · cases e
theorem good_ctr {E : En} {F n₁ n : Nat} {h₁ ls hs : List Nat} {o : Outc} {is : List Ins} {x y x' : X} {q : Qu} {h₀ : Heap} {mu : List Addr} {rest : Array GenState × Drawn × OsState} {R₀ : Result → Shared → Prop} {Q : Outc → Prop} {Qs : List (Outc → Prop)}
    (hy : run E F n₁ (x.hint h₁) = some y) (hx : atCtr E y ls o = some (q, x')) (g : Good E F h₀ mu rest R₀ x (.ctr n₁ h₁ ls o :: is) (Q :: Qs) n hs) : Good E F h₀ mu rest R₀ x' is Qs n hs := by
  obtain ⟨r, e, H, gs, cs, rst⟩ := g.go
  obtain ⟨y', q', x'', r', hy', hx', hr, rfl⟩ := exec_ctr e
  obtain rfl := Option.some.inj (hy.symm.trans hy')
  cases hx.symm.trans hx'
  exact ⟨r', hr, H, gs, cs.2, rst⟩
theorem endW_leaf {E : En} {R₀ : Result → Shared → Prop} {c : Code} {p : Pos} {κ : List Kf} {s : Shared} {r : Result} (h : Means E.M E.base R₀ c p (leaf r) κ s) : endW E.M E.base R₀ κ r s := by
  cases r with
  | ok f => exact h
  | error e => exact h
section
variable (E : En) (hdn : denote table = E.dn) (F : Nat) (h₀ : Heap) (mu : List Addr) (rest : Array GenState × Drawn × OsState) (R₀ : Result → Shared → Prop)
include hdn in
theorem ctr_step {x y : X} {n₁ : Nat} {h₁ ls : List Nat} (hy : run E F n₁ (x.hint h₁) = some y) {o₀ : Outc} {q : Qu} {x' : X} (hx : atCtr E y ls o₀ = some (q, x')) (H : Hold x'.acc) {Q : Outc → Prop} (C : CtrH E h₀ mu q.bel q.c q.pre Q)
    (key : ∀ o, Q o → ∃ q' x'', atCtr E y ls o = some (q', x'') ∧ ∀ s, Rp E.kt h₀ mu rest x''.st s → MeansX E R₀ x'' s) (s : Shared) (D : Rp E.kt h₀ mu rest x.st s) : MeansX E R₀ x s := by
  unfold atCtr at hx
  split at hx
  · cases hx
  · rename_i pre hpre
    split at hx
    · cases hx
    · rename_i st' hst
      have hn : noDup ls = true := by
        unfold stAfter at hst
        split at hst
        · cases hst
        · assumption
      have go : ∀ (s' : Shared) (D' : Rp E.kt h₀ mu rest y.st s'), (∀ x ∈ pre, s'.heap.get? x.1 = some x.2) ∧ (pre.map (·.1)).Nodup ∧ (∀ x ∈ pre, E.kt.get x.1 = none) ∧ (∀ x ∈ pre, x.1 ∈ mu ∨ h₀.objs.size ≤ x.1) := by
        intro s' D'
        refine ⟨fun x hx => ?_, getPre_nodup D'.inj (noDup_sound hn) hpre, fun x hx => ?_, fun x hx => ?_⟩
        · obtain ⟨i, _, ei⟩ := getPre_mem hpre x hx
          exact D'.own i x ei
        · obtain ⟨i, _, ei⟩ := getPre_mem hpre x hx
          exact D'.ktn i x ei
        · obtain ⟨i, _, ei⟩ := getPre_mem hpre x hx
          exact D'.fresh i x ei
      split at hx
      · rename_i c' hd g l k ey
        split at hx
        · cases hx
          obtain ⟨_, G⟩ := run_sound E hdn R₀ h₀ mu rest F n₁ _ _ hy H
          refine G s D fun s' D' => ?_
          show Means _ _ _ y.c y.p y.t y.κ s'
          rw [ey]
          show wp _ _ (.call c' none g l k) _ _ y.p s'
          rw [Sem.wp_call]
          obtain ⟨g1, g2, g3, g4⟩ := go s' D'
          refine wpCode_mono (fun r s'' hr => ?_) (C rest y.p s' D'.keep g4 D'.le D'.ktk g1 g2 g3 D'.rest)
          obtain ⟨o, rfl, ho, P⟩ := hr
          obtain ⟨q', x'', hx'', T'⟩ := key o ho
          unfold atCtr at hx''
          rw [hpre] at hx''
          dsimp only at hx''
          split at hx''
          · cases hx''
          · rename_i st'' hst''
            rw [ey] at hx''
            cases hx''
            exact T' s'' (D'.after hpre P hst'')
        · cases hx
      · rename_i fin ey
        split at hx
        · rename_i c'
          split at hx
          · rename_i hq
            cases hx
            obtain ⟨_, G⟩ := run_sound E hdn R₀ h₀ mu rest F n₁ _ _ hy H
            refine G s D fun s' D' => ?_
            show Means _ _ _ y.c y.p y.t y.κ s'
            rw [ey]
            show finPost _ _ _ (.again c') y.p s'
            rw [finPost_again]
            obtain ⟨g1, g2, g3, g4⟩ := go s' D'
            refine ⟨hq, wpCode_mono (fun r s'' hr => ?_) (C rest y.p s' D'.keep g4 D'.le D'.ktk g1 g2 g3 D'.rest)⟩
            obtain ⟨o, rfl, ho, P⟩ := hr
            obtain ⟨q', x'', hx'', T'⟩ := key o ho
            unfold atCtr at hx''
            rw [hpre] at hx''
            dsimp only at hx''
            split at hx''
            · cases hx''
            · rename_i st'' hst''
              rw [ey] at hx''
              dsimp only at hx''
              rw [hq] at hx''
              cases hx''
              exact endW_leaf (T' s'' (D'.after hpre P hst''))
          · cases hx
        · cases hx
      · cases hx
include hdn in
theorem tele_sound : ∀ (T : Tele) (x : X), T.All (Good E F h₀ mu rest R₀ x) → ∀ s, Rp E.kt h₀ mu rest x.st s → MeansX E R₀ x s
  | .fin n hs, x, a, s, D => by
    obtain ⟨r, e, H, _, _, hR⟩ := a.go
    unfold exec at e
    split at e
    · rename_i y hy
      cases e
      obtain ⟨_, G⟩ := run_sound E hdn R₀ h₀ mu rest F n _ _ hy H
      exact G s D fun s' D' => hR s' D'
    · cases e
  | .pur n₁ h₁ m rest', x, a, s, D => by
    obtain ⟨is, qs, n, hs, ⟨r, e, H, gs, cs, _⟩⟩ := Tele.All.some rest' a
    unfold exec at e
    split at e
    · rename_i y hy
      split at e
      · rename_i c' x' hx
        split at e
        · rename_i r' hr
          cases e
          have hx0 := exec_hold E hdn F is n hs x' r' hr H
          have key : rest'.All (Good E F h₀ mu rest R₀ x') := by
            refine Tele.All.mono rest' (fun is qs n hs g => ?_) a
            obtain ⟨r, e, H, gs, rst⟩ := g.go
            unfold exec at e
            rw [hy] at e
            dsimp only at e
            rw [hx] at e
            dsimp only at e
            split at e
            · rename_i r'' hr''
              cases e
              exact ⟨r'', hr'', H, fun g hg => gs g (.tail _ hg), rst⟩
            · cases e
          have gg := gs (c', m) (.head _)
          unfold atPur at hx
          split at hx
          · rename_i fin ey
            split at hx
            · rename_i c₁
              split at hx
              · rename_i hq
                cases hx
                obtain ⟨_, G⟩ := run_sound E hdn R₀ h₀ mu rest F n₁ _ _ hy hx0
                refine G s D fun s' D' => ?_
                have z := tele_sound rest' _ key s' D'
                show Means _ _ _ y.c y.p y.t y.κ s'
                rw [ey]
                show finPost _ _ _ (.again c') y.p s'
                rw [finPost_again]
                exact ⟨hq, made_sound gg.1 gg.2 z⟩
              · cases hx
            · cases hx
          · cases hx
        · cases e
      · cases e
    · cases e
  | .ent n₁ h₁ c alt hsub rest', x, a, s, D => by
    obtain ⟨is, qs, n, hs, ⟨r, e, H, gs, cs, _⟩⟩ := Tele.All.some rest' a
    unfold exec at e
    split at e
    · rename_i y hy
      split at e
      · rename_i x' hx
        have hx0 := exec_hold E hdn F is n hs x' r e H
        have key : rest'.All (Good E F h₀ mu rest R₀ x') := by
          refine Tele.All.mono rest' (fun is qs n hs g => ?_) a
          obtain ⟨r, e, rst⟩ := g.go
          unfold exec at e
          rw [hy] at e
          dsimp only at e
          rw [hx] at e
          exact ⟨r, e, rst⟩
        obtain ⟨_, G⟩ := run_sound E hdn R₀ h₀ mu rest F n₁ _ _ hy (atEnt_hold hx hx0)
        refine G s D fun s' D' => ?_
        unfold atEnt at hx
        split at hx
        · rename_i c' hd g l k ey
          split at hx
          · cases hx
            have hc : c' = c := congrArg (fun j : J => j.1) (hx0.2.2 _ (.head _))
            subst hc
            have z := tele_sound rest' _ key s' D'
            show Means _ _ _ y.c y.p y.t y.κ s'
            rw [ey]
            show wp _ _ (.call c' none g l k) _ _ y.p s'
            rw [Sem.wp_call, wpCode_iff_wp]
            exact hsub _ _ _ _ _ _ rfl z
          · cases hx
        · rename_i fin ey
          split at hx
          · rename_i c'
            split at hx
            · rename_i hq
              cases hx
              have hc : c' = c := congrArg (fun j : J => j.1) (hx0.2.2 _ (.head _))
              subst hc
              have z := tele_sound rest' _ key s' D'
              show Means _ _ _ y.c y.p y.t y.κ s'
              rw [ey]
              show finPost _ _ _ (.again c') y.p s'
              rw [finPost_again]
              refine ⟨hq, ?_⟩
              rw [wpCode_iff_wp]
              exact hsub _ _ _ _ _ _ rfl z
            · cases hx
          · cases hx
        · cases hx
      · cases e
    · cases e
  | .ctr n₁ h₁ ls Q hQ rest', x, a, s, D => by
    obtain ⟨o₀, ho₀⟩ := hQ
    obtain ⟨is, qs, n, hs, ⟨r, e, H, gs, cs, _⟩⟩ := Tele.All.some (rest' o₀) (a o₀ ho₀)
    obtain ⟨y, q, x', r', hy, hx, hr, rfl⟩ := exec_ctr e
    refine ctr_step E hdn F h₀ mu rest R₀ hy hx (exec_hold E hdn F is n hs x' r' hr H) cs.1 (fun o ho => ?_) s D
    obtain ⟨is, qs, n, hs, ⟨r, e, _⟩⟩ := Tele.All.some (rest' o) (a o ho)
    obtain ⟨y', q', x'', r'', hy', hx'', hr'', rfl⟩ := exec_ctr e
    obtain rfl := Option.some.inj (hy.symm.trans hy')
    exact ⟨q', x'', hx'', tele_sound (rest' o) x'' (Tele.All.mono (rest' o) (fun is qs n hs g => good_ctr hy hx'' g) (a o ho))⟩
  | .dat n₁ h₁ ls f a₀ rest', x, a, s, D => by
    obtain ⟨is, qs, n, hs, ⟨r, e, H, gs, cs, _⟩⟩ := Tele.All.some (rest' a₀) (a a₀)
    obtain ⟨y, q, x', r', hy, hx, hr, rfl⟩ := exec_ctr e
    refine ctr_step E hdn F h₀ mu rest R₀ hy hx (exec_hold E hdn F is n hs x' r' hr H) cs.1 (fun o ⟨b, ho⟩ => ?_) s D
    obtain ⟨is, qs, n, hs, ⟨r, e, _⟩⟩ := Tele.All.some (rest' b) (a b)
    obtain ⟨y', q', x'', r'', hy', hx'', hr'', rfl⟩ := exec_ctr e
    obtain rfl := Option.some.inj (hy.symm.trans hy')
    exact ⟨q', x'', ho ▸ hx'', tele_sound (rest' b) x'' (Tele.All.mono (rest' b) (fun is qs n hs g => good_ctr hy hx'' g) (a b))⟩
end
end Mine
end
noncomputable section
namespace Mine
open PySem PySem.W PySem.W.X
open PySem.Sem (wp finPost)

set_option genInjectivity true in
structure V1 where
  a : List Nat
  r : List (Setting → Sem Fin)
  j : List J
  gs : List (Code × Made)
  qs : List (Option (List (Code × Pos)) × Code × List (Addr × Obj))
  ans : Option Result
  upd : Option (List (Addr × Obj))
  new : Option (List (Addr × Obj))
  top : Nat × Nat
  tok : Nat × Nat
noncomputable def ansOf (x : X) : Option Result := match x.κ with
  | [] => match x.t with
    | .pure fin => match fin with
      | .done f => some (.ok f)
      | .again _ => none
    | .raise e => some (.error e)
    | _ => none
  | _ :: _ => none
noncomputable abbrev Qv := Option (List (Code × Pos)) × Code × List (Addr × Obj)
/-- the queries with their stacks where these are asked for -/
noncomputable def qv : List Qv → List Qu → List Qv
  | (some _, _) :: fs, q :: qs => (some q.bel, q.c, q.pre) :: qv fs qs
  | (none, _) :: fs, q :: qs => (none, q.c, q.pre) :: qv fs qs
  | [], q :: qs => (none, q.c, q.pre) :: qv [] qs
  | _, [] => []
noncomputable def lhs (o : Option Res) (fl : List Qv) (k nl : List Nat) : Option V1 := match o with
  | some r => some ⟨r.x.acc.a.map (·.1), r.x.acc.r.map (·.1), r.x.acc.j.map (·.1), r.gs, qv fl r.qs, ansOf r.x, getPre r.x.st.T k, getPre r.x.st.T nl, (r.x.st.tb, r.x.st.to), (r.x.st.kb, r.x.st.ko)⟩
  | none => none
noncomputable def rhs (o : Option Res) (gs : List (Code × Made)) (qs : List Qv) (ans : Result) (upd new : List (Addr × Obj)) (top tok : Nat × Nat) : Option V1 := some (match o with
  | some r => ⟨r.x.acc.a.map (·.2), r.x.acc.r.map (·.2), r.x.acc.j.map (·.2), gs, qs, some ans, some upd, some new, top, tok⟩
  | none => ⟨[], [], [], gs, qs, some ans, some upd, some new, top, tok⟩)

noncomputable def treeOf (pre : List (Addr × Obj)) : Tr (Addr × Obj) := match putNew .nil 0 pre with
  | some x => x.1
  | none => .nil
noncomputable def x0 (E : En) (c : Code) (p : Pos) (pre : List (Addr × Obj)) (N K : Nat) : X := ⟨c, p, E.dn c, [], ⟨treeOf pre, pre.length, N, 0, K, 0⟩, [], ⟨[], [], []⟩⟩
noncomputable def En.on (E : En) (bel : List (Code × Pos)) : En := ⟨E.dn, E.prog, E.w, E.kt, bel⟩

theorem map_eq_mem {α : Type} : ∀ {l : List (α × α)}, l.map (·.1) = l.map (·.2) → ∀ e ∈ l, e.1 = e.2
  | [], _, _, he => by cases he
  | x :: l, h, e, he => by
    simp only [List.map_cons, List.cons.injEq] at h
    rcases List.mem_cons.mp he with rfl | he
    · exact h.1
    · exact map_eq_mem h.2 e he
theorem ansOf_leaf {x : X} {a : Result} (h : ansOf x = some a) : x.κ = [] ∧ x.t = leaf a := by
  unfold ansOf at h
  split at h
  · rename_i hκ
    refine ⟨hκ, ?_⟩
    split at h
    · rename_i ht
      split at h
      · cases h; exact ht
      · cases h
    · rename_i ht
      cases h; exact ht
    · cases h
  · cases h

theorem putNew_len : ∀ {xs : List (Addr × Obj)} {T T' : Tr (Addr × Obj)} {m m' : Nat}, putNew T m xs = some (T', m') → m' = m + xs.length
  | [], _, _, _, _, e => by cases e; rfl
  | x :: xs, T, T', m, m', e => by
    unfold putNew at e
    split at e
    · have := putNew_len e
      rw [this, List.length_cons]; omega
    · cases e
theorem treeOf_get {pre : List (Addr × Obj)} {i : Nat} {x : Addr × Obj} (h : (treeOf pre).get i = some x) : pre[i]? = some x := by
  unfold treeOf at h
  split at h
  · rename_i y hy
    obtain ⟨T, m⟩ := y
    obtain ⟨_, B⟩ := putNew_get hy (fun i x q => by cases q)
    rcases (B i x h).2 with ⟨q, _⟩ | ⟨_, q⟩
    · omega
    · exact q
  · cases h

theorem rp_start {kt : KT} {rest : Array GenState × Drawn × OsState} {pre : List (Addr × Obj)} {s : Shared} (hk : ∀ a o, kt.get a = some o → s.heap.get? a = some o) (hp : ∀ x ∈ pre, s.heap.get? x.1 = some x.2) (hn : (pre.map (·.1)).Nodup)
    (hkn : ∀ x ∈ pre, kt.get x.1 = none) (hr : (s.gens, s.drawn, s.os) = rest) : Rp kt s.heap (pre.map (·.1)) rest ⟨treeOf pre, pre.length, s.heap.objs.size, 0, s.toks, 0⟩ s := by
  have M : ∀ {i : Nat} {x : Addr × Obj}, (treeOf pre).get i = some x → x ∈ pre := fun h => List.mem_of_getElem? (treeOf_get h)
  refine ⟨rfl, rfl, fun i x e => hp x (M e), fun i x e => (List.getElem?_eq_some_iff.mp (treeOf_get e)).1, fun i j x y ei ej exy => ?_, hk, fun i x e => hkn x (M e), fun _ _ e _ => e, fun i x e => .inl (List.mem_map_of_mem (M e)), Nat.le_refl _, hr⟩
  have e1 : (pre.map (·.1))[i]? = some x.1 := by rw [List.getElem?_map, treeOf_get ei]; rfl
  have e2 : (pre.map (·.1))[j]? = some x.1 := by rw [List.getElem?_map, treeOf_get ej, exy]; rfl
  exact (List.getElem?_inj (List.getElem?_eq_some_iff.mp e1).1 hn).mp (e1.trans e2.symm)

theorem upd_of {h : Heap} : ∀ {pre upd : List (Addr × Obj)}, upd.map (·.1) = pre.map (·.1) → (∀ x ∈ upd, h.get? x.1 = some x.2) → Upd h pre (upd.map (·.2))
  | [], [], _, _ => trivial
  | [], _ :: _, e, _ => by cases e
  | _ :: _, [], e, _ => by cases e
  | x :: pre, y :: upd, e, hy => by
    simp only [List.map_cons, List.cons.injEq] at e
    exact ⟨e.1 ▸ hy y (.head _), upd_of e.2 fun z hz => hy z (.tail _ hz)⟩

noncomputable def CtrV (E : En) : List Qv → List (Outc → Prop) → Prop
  | [], [] => True
  | (some b, c, pre) :: qs, Q :: Qs => Ctr E b c pre Q ∧ CtrV E qs Qs
  | (none, c, pre) :: qs, Q :: Qs => (∀ b, Ctr E b c pre Q) ∧ CtrV E qs Qs
  | _, _ => False
theorem ctrV_all {E : En} {h₀ : Heap} {mu : List Addr} : ∀ {fs vs : List Qv} {qs : List Qu} {Qs : List (Outc → Prop)}, qv fs qs = vs → CtrV E vs Qs → CtrAll E h₀ mu qs Qs
  | _, _, [], [], e, h => trivial
  | fs, vs, [], Q :: Qs, e, h => by
    have : vs = [] := by rw [← e]; cases fs <;> first | rfl | (rename_i f fs; obtain ⟨f, _⟩ := f; cases f <;> rfl)
    subst this
    cases h
  | fs, vs, q :: qs, [], e, h => by
    have : ∃ v vs', vs = v :: vs' := by
      rw [← e]
      cases fs with
      | nil => exact ⟨_, _, rfl⟩
      | cons f fs => obtain ⟨f, _⟩ := f; cases f <;> exact ⟨_, _, rfl⟩
    obtain ⟨⟨v, c, pre⟩, vs', rfl⟩ := this
    cases v <;> cases h
  | fs, vs, q :: qs, Q :: Qs, e, h => by
    cases fs with
    | nil =>
      have e : (none, q.c, q.pre) :: qv [] qs = vs := e
      subst e
      exact ⟨(h.1 q.bel).toH, ctrV_all rfl h.2⟩
    | cons f fs =>
      obtain ⟨f, g⟩ := f
      cases f with
      | none =>
        have e : (none, q.c, q.pre) :: qv fs qs = vs := e
        subst e
        exact ⟨(h.1 q.bel).toH, ctrV_all rfl h.2⟩
      | some b =>
        have e : (some q.bel, q.c, q.pre) :: qv fs qs = vs := e
        subst e
        exact ⟨h.1.toH, ctrV_all rfl h.2⟩

/-- what one has to show for a code: an evaluation with its contracts -/
structure Told (E : En) (F : Nat) (x : X) (pre : List (Addr × Obj)) (Q : Outc → Prop) (is : List Ins) (Qs : List (Outc → Prop)) (n : Nat) (hs : List Nat)
    (gs : List (Code × Made)) (qs : List Qv) (ans : Result) (upd new : List (Addr × Obj)) (top tok : Nat × Nat) (nl : List Nat) : Prop where
  eq : lhs (exec E F is n hs x) qs (List.range pre.length) nl = rhs (exec E F is n hs x) gs qs ans upd new top tok
  gsOk : ∀ g ∈ gs, Gives (denote table g.1) g.2 ∧ MadeOk g.2
  qsOk : CtrV E qs Qs
  updA : upd.map (·.1) = pre.map (·.1)
  nlOk : (noDup nl && nl.all fun i => Nat.ble pre.length i) = true
  qOk : Q ⟨ans, upd.map (·.2), new, top.1 + top.2, tok.1 + tok.2⟩

theorem getPre_range {T : Tr (Addr × Obj)} {upd : List (Addr × Obj)} : ∀ {ls : List Nat}, getPre T ls = some upd → ∀ (k : Nat) (x : Addr × Obj), upd[k]? = some x → ∃ i, ls[k]? = some i ∧ T.get i = some x := by
  intro ls
  induction ls generalizing upd with
  | nil => intro h k x hx; cases h; cases hx
  | cons j ls ih =>
    intro h k x hx
    unfold getPre at h
    split at h
    · rename_i y ey
      split at h
      · rename_i l el
        cases h
        cases k with
        | zero => cases hx; exact ⟨j, rfl, ey⟩
        | succ k => exact ih el k x hx
      · cases h
    · cases h

theorem tell (E : En) (hdn : denote table = E.dn) (F : Nat) (bel : List (Code × Pos)) (pre : List (Addr × Obj)) (Q : Outc → Prop) (rest : Array GenState × Drawn × OsState) (s₀ s : Shared) (T : Tele) (x : X)
    (D : Rp E.kt s₀.heap (pre.map (·.1)) rest x.st s) (h : T.All fun is Qs n hs => ∃ gs qs ans upd new top tok nl, Told (E.on bel) F x pre Q is Qs n hs gs qs ans upd new top tok nl) :
    MeansX (E.on bel) (fun r s' => ∃ o : Outc, o.r = r ∧ Q o ∧ Post E.kt rest pre s₀ o s') x s := by
  refine tele_sound (E.on bel) hdn F s₀.heap (pre.map (fun x : Addr × Obj => x.1)) rest _ T x ?_ s D
  refine Tele.All.mono _ (fun is Qs n hs ht => ?_) h
  obtain ⟨gs, qs, ans, upd, new, top, tok, nl, ⟨eq, hgs, hqs, hupd, hnl, hQ⟩⟩ := ht
  refine ⟨?_⟩
  unfold lhs rhs at eq
  split at eq
  · rename_i r hr'
    simp only [Option.some.injEq, V1.mk.injEq] at eq
    obtain ⟨ea, er, ej, egs, eqs, eans, eupd, enew, etop, etok⟩ := eq
    obtain ⟨e1, e2⟩ := ansOf_leaf eans
    refine ⟨r, hr', ⟨map_eq_mem ea, map_eq_mem er, map_eq_mem ej⟩, egs ▸ hgs, ctrV_all eqs hqs, fun s' D' => ?_⟩
    suffices hfin : ∃ o : Outc, o.r = ans ∧ Q o ∧ Post E.kt rest pre s₀ o s' by
      show Means _ _ _ r.x.c r.x.p r.x.t r.x.κ s'
      rw [e1, e2]
      cases ans with
      | ok f => exact hfin
      | error e => exact hfin
    obtain ⟨hnd, hge⟩ := Bool.and_eq_true_iff.mp hnl
    have uget : ∀ x ∈ upd, ∃ i, i < pre.length ∧ r.x.st.T.get i = some x := by
      intro x hx
      obtain ⟨i, hi, ei⟩ := getPre_mem eupd x hx
      exact ⟨i, List.mem_range.mp hi, ei⟩
    have nget : ∀ x ∈ new, ∃ i ∈ nl, r.x.st.T.get i = some x := fun x hx => getPre_mem enew x hx
    refine ⟨⟨ans, upd.map (·.2), new, top.1 + top.2, tok.1 + tok.2⟩, rfl, hQ, ?_⟩
    refine ⟨upd_of hupd fun x hx => ?_, fun x hx => ?_, ?_, fun b ob eb hb => D'.keep b ob eb hb, ?_, D'.le, ?_, D'.rest⟩
    · obtain ⟨i, _, ei⟩ := uget x hx
      exact D'.own i x ei
    · obtain ⟨i, hi, ei⟩ := nget x hx
      refine ⟨D'.own i x ei, ?_⟩
      rcases D'.fresh i x ei with q | q
      · exfalso
        rw [← hupd] at q
        obtain ⟨y, hy, exy⟩ := List.mem_map.mp q
        obtain ⟨j, hj, ej'⟩ := uget y hy
        have : j = i := D'.inj j i y x ej' ei exy
        have hge' := Nat.le_of_ble_eq_true (List.all_eq_true.mp hge i hi)
        omega
      · exact q
    · exact getPre_nodup D'.inj (noDup_sound hnd) enew
    · rw [D'.size, ← etop]
    · rw [D'.toks, ← etok]
  · cases eq

theorem ctr_intro (E : En) (hdn : denote table = E.dn) (F : Nat) (bel : List (Code × Pos)) (c : Code) (pre : List (Addr × Obj)) (Q : Outc → Prop) (T : Nat → Nat → Pos → Tele)
    (h : ∀ N K p, (T N K p).All fun is Qs n hs => ∃ gs qs ans upd new top tok nl, Told (E.on bel) F (x0 E c p pre N K) pre Q is Qs n hs gs qs ans upd new top tok nl) : Ctr E bel c pre Q := by
  intro rest p s hk hp hn hkn hr
  exact (code_means (E.on bel) hdn _ (κ := [])).mpr (tell E hdn F bel pre Q rest s s (T s.heap.objs.size s.toks p) (x0 E c p pre s.heap.objs.size s.toks) (rp_start hk hp hn hkn hr) (h s.heap.objs.size s.toks p))
end Mine
end
noncomputable section
namespace Mine
open PySem PySem.W PySem.W.X
open PySem.Sem (wp finPost)

theorem den_builtin {id : String} {args : Args} {B : Builtin} (entry : entryFor table id = some B) : denote table (.builtin id args) = B args := by
  show (match entryFor table id with | some b => b args | none => _) = _
  rw [entry]

/-- a contract of a built-in by one of the library's `Meets` -/
theorem ctr_meets {E : En} {bel : List (Code × Pos)} {id : String} {args : Args} {B : Builtin} {S : Spec} {pre : List (Addr × Obj)} {Q : Outc → Prop} (entry : entryFor table id = some B) (g : Meets (B args) S)
    (h : ∀ (A : Around) (R : Result → Shared → Prop) (s : Shared) (rest : Array GenState × Drawn × OsState), (s.gens, s.drawn, s.os) = rest → (∀ a o, E.kt.get a = some o → s.heap.get? a = some o) → (∀ x ∈ pre, s.heap.get? x.1 = some x.2) → (pre.map (·.1)).Nodup →
      (∀ o s', Q o → Post E.kt rest pre s o s' → R o.r s') → S A R s) : Ctr E bel (.builtin id args) pre Q := by
  intro rest p s hk hp hn hkn hr
  rw [wpCode_iff_wp]
  show wp E.M (Γof (.builtin id args) bel) (denote table (.builtin id args)) _ _ p s
  rw [den_builtin entry]
  let c' : Code := .builtin id args
  let A : Around := { handled := none, depth := frameCount bel + c'.weight, frames := none, guards := none, units := (Γof c' bel).units }
  have hin : (Γof c' bel).In A.in1 := ⟨rfl, Nat.le_refl _, fun _ hl => (nomatch hl), fun _ hg => (nomatch hg), Nat.le_succ _⟩
  have key := g E.prog E.w A (fun r s' => ∃ o : Outc, o.r = r ∧ Q o ∧ Post E.kt rest pre s o s') s (h A _ s rest hr hk hp hn fun o s' hQ P => ⟨o, rfl, hQ, P⟩) (Γof c' bel) p hin
  refine Sem.wp_mono E.M (Γof c' bel) _ (fun fin p' s' h' => ?_) (fun _ _ _ h' => h') p s key
  cases fin with
  | done f => exact h'
  | again c'' => exact ⟨h'.1, h'.2 ((Γof c' bel).goto c'') p' rfl ⟨rfl, Nat.le_add_right _ _, fun _ hl => (nomatch hl), fun _ hg => (nomatch hg), Nat.le_add_left _ _⟩⟩

/-- one object turned, nothing made -/
theorem post_update {kt : KT} {rest : Array GenState × Drawn × OsState} {s : Shared} {l : Addr} {o o' : Obj} {f : Obj → Obj} {r : Result} (hr : (s.gens, s.drawn, s.os) = rest) (hl : s.heap.get? l = some o) (e : f o = o') (hf : o'.isFreed = false) :
    Post kt rest [(l, o)] s ⟨r, [o'], [], s.heap.objs.size, s.toks⟩ { s with heap := s.heap.update l f } := by
  have hs : Heap.SameBut l s.heap (s.heap.update l f) := Heap.SameBut.update ..
  subst e
  refine ⟨⟨Heap.get?_update_self f hl hf, trivial⟩, fun _ hx => (nomatch hx), List.nodup_nil, fun b ob hb hn => ?_, hs.1, Nat.le_of_eq hs.1.symm, rfl, hr⟩
  exact (hs.2 b fun q => hn (by rw [q]; exact List.Mem.head _)).trans hb

noncomputable def listO (xs : List Value) (ep : Nat) : Obj := ⟨.type "list", none, .seq xs.toArray ep, #[]⟩

noncomputable def QPop (v : Value) (xs : List Value) (ep : Nat) (o : Outc) : Prop := ∃ top tok, o = ⟨.ok (.ret v), [listO xs (ep + 1)], [], top, tok⟩
theorem ctr_pop0 (E : En) (bel : List (Code × Pos)) (l : Addr) (v : Value) (xs : List Value) (ep : Nat) (u : Tok) (hz : xs.length < 1000000) : Ctr E bel (.builtin "list.pop" ⟨[.ref l, .int 0 u], []⟩) [(l, listO (v :: xs) ep)] (QPop v xs ep) := by
  have hsz : (v :: xs).toArray.size ≤ sizeLine := by
    rw [List.size_toArray, List.length_cons]
    have : sizeLine = 16777216 := rfl
    omega
  have hk : seqIndex? 0 (v :: xs).toArray.size = some 0 := by
    rw [List.size_toArray, List.length_cons]
    simp [seqIndex?]
  refine ctr_meets F.entry_list_pop (MeetsSeq.list_pop_at l (v :: xs).toArray ep 0 u 0 v rfl hk (by simp) hsz) ?_
  intro A R s rest hr _ hp _ hR
  have hl : s.heap.get? l = some (listO (v :: xs) ep) := hp _ (.head _)
  refine ⟨hl, ?_⟩
  refine hR ⟨.ok (.ret v), [listO xs (ep + 1)], [], s.heap.objs.size, s.toks⟩ _ ⟨_, _, rfl⟩ (post_update hr hl ?_ rfl)
  show Obj.mapSeq _ (⟨.type "list", none, .seq (v :: xs).toArray ep, #[]⟩ : Obj) = listO xs (ep + 1)
  have e : ((v :: xs).toArray.eraseIdxIfInBounds 0) = xs.toArray := by
    apply Array.ext'
    simp [Array.eraseIdxIfInBounds]
  simp [Obj.mapSeq, e, listO]

/-- nothing turned, nothing made -/
theorem post_same {kt : KT} {rest : Array GenState × Drawn × OsState} {s : Shared} {pre : List (Addr × Obj)} {r : Result} {n : Nat} (hr : (s.gens, s.drawn, s.os) = rest) (hp : ∀ x ∈ pre, s.heap.get? x.1 = some x.2) :
    Post kt rest pre s ⟨r, pre.map (·.2), [], s.heap.objs.size, n⟩ { s with toks := n } :=
  ⟨upd_of rfl hp, fun _ hx => (nomatch hx), List.nodup_nil, fun _ _ hb _ => hb, rfl, Nat.le_refl _, rfl, hr⟩

/-- a contract of a built-in by a rule for its body -/
theorem ctr_any {E : En} {bel : List (Code × Pos)} {id : String} {args : Args} {B : Builtin} {pre : List (Addr × Obj)} {Q : Outc → Prop} (entry : entryFor table id = some B)
    (h : ∀ (A : Around) (R : Value → Shared → Prop) (s : Shared) (rest : Array GenState × Drawn × OsState), (s.gens, s.drawn, s.os) = rest → (∀ x ∈ pre, s.heap.get? x.1 = some x.2) → (∀ v o s', o.r = .ok (.ret v) → Q o → Post E.kt rest pre s o s' → R v s') →
      wpAny (model E.prog E.w) A (B args) (fun fin s' => ∃ r, fin = .done (.ret r) ∧ R r s') (fun _ _ => False) s) : Ctr E bel (.builtin id args) pre Q := by
  intro rest p s hk hp hn hkn hr
  rw [wpCode_iff_wp]
  show wp E.M (Γof (.builtin id args) bel) (denote table (.builtin id args)) _ _ p s
  rw [den_builtin entry]
  let c' : Code := .builtin id args
  let A : Around := { handled := none, depth := frameCount bel + c'.weight, frames := none, guards := none, units := (Γof c' bel).units }
  have hin : (Γof c' bel).In A := ⟨rfl, Nat.le_refl _, fun _ hl => (nomatch hl), fun _ hg => (nomatch hg), Nat.le_refl _⟩
  have key := h A (fun v s' => ∃ o : Outc, o.r = .ok (.ret v) ∧ Q o ∧ Post E.kt rest pre s o s') s rest hr hp (fun v o s' e hQ P => ⟨o, e, hQ, P⟩) (Γof c' bel) p hin
  refine Sem.wp_mono E.M (Γof c' bel) _ (fun fin p' s' h' => ?_) (fun _ _ _ h' => h'.elim) p s key
  obtain ⟨r, rfl, o, e, hQ, P⟩ := h'
  exact ⟨o, e, hQ, P⟩

noncomputable def QLen (n : Nat) (ob : Obj) (o : Outc) : Prop := ∃ t top tok, o = ⟨.ok (.ret (.int n t)), [ob], [], top, tok⟩
theorem ctr_len (E : En) (bel : List (Code × Pos)) (l : Addr) (xs : List Value) (ep : Nat) (hz : xs.length < 1000000) : Ctr E bel (.builtin "len" ⟨[.ref l], []⟩) [(l, listO xs ep)] (QLen xs.length (listO xs ep)) := by
  refine ctr_any entry_len ?_
  intro A R s rest hr hp hR
  have hl : s.heap.get? l = some (listO xs ep) := hp _ (.head _)
  refine wpAny_len_body_list (items := xs.toArray) ⟨_, hl, rfl, ep, rfl⟩ (by rw [List.size_toArray]; omega) ?_
  refine hR _ ⟨.ok (.ret (.int xs.length (s.toks + 1))), [listO xs ep], [], s.heap.objs.size, s.toks + 1 + 1⟩ _ ?_ ⟨_, _, _, rfl⟩ (post_same (pre := [(l, listO xs ep)]) hr hp)
  rfl
theorem wpCode_entry {E : En} {bel : List (Code × Pos)} {id : String} {args : Args} {B : Builtin} {R : Result → Shared → Prop} {p : Pos} {s : Shared} (entry : entryFor table id = some B)
    (h : wp E.M (Γof (.builtin id args) bel) (B args) (finPost E.M (Γof (.builtin id args) bel) R) (fun e _ s' => R (.error e) s') p s) : wpCode E.M (Γof (.builtin id args) bel) R p s := by
  rw [wpCode_iff_wp]
  show wp E.M (Γof (.builtin id args) bel) (denote table (.builtin id args)) _ _ p s
  rw [den_builtin entry]
  exact h
theorem wp_body {M : Model} {Γ : Ctx} {t t' : Sem Fin} {Q : Fin → Pos → Shared → Prop} {Er : Value → Pos → Shared → Prop} {p : Pos} {s : Shared} (e : t = t') (h : wp M Γ t' Q Er p s) : wp M Γ t Q Er p s := e ▸ h
theorem wp_any1 {E : En} {Γ : Ctx} {α : Type} {m : Sem α} {v : α} {Q : α → Pos → Shared → Prop} {Er : Value → Pos → Shared → Prop} {p : Pos} {s : Shared}
    (g : ∀ A, wpAny (model E.prog E.w) A m (fun x s' => x = v ∧ s' = s) (fun _ _ => False) s) (h : ∀ p', Q v p' s) : wp E.M Γ m Q Er p s := by
  let A : Around := { handled := Γ.handled, depth := frameCount Γ.below + Γ.code.weight, frames := none, guards := none, units := Γ.units }
  have hin : Γ.In A := ⟨rfl, Nat.le_refl _, fun _ hl => (nomatch hl), fun _ hg => (nomatch hg), Nat.le_refl _⟩
  refine Sem.wp_mono _ _ _ (fun x p' s' h' => ?_) (fun _ _ _ h' => h'.elim) p s (g A Γ p hin)
  obtain ⟨rfl, rfl⟩ := h'
  exact h p'
end Mine
end
noncomputable section
namespace Mine
open PySem PySem.W PySem.W.X PySem.Builtin PySem.Builtin.Re
open PySem.Sem (wp finPost)
variable {M : Model} {A : Around} {E : Value → Shared → Prop} {s : Shared}

theorem wpAny_reDrive {Q : Sre.M → Shared → Prop} : ∀ (turns n : Nat) (m m' : Sre.M), Ends n m m' → n < 4 * turns → Q m' s → wpAny M A (reDrive turns m) Q E s
  | 0, n, _, _, _, h, _ => absurd h (by omega)
  | turns + 1, n, m, m', he, hn, hq => by
    unfold reDrive
    show wpAny M A (if (m.runFor 4).outcome.isSome then pure (m.runFor 4) else do rule "sre.turn"; reDrive turns (m.runFor 4)) Q E s
    by_cases h : (m.runFor 4).outcome.isSome = true
    · rw [if_pos h]
      have e1 : (m.runFor 4) = m' := by
        by_cases hn4 : n ≤ 4
        · exact (Ends.mono he hn4).1
        · have := he.1
          rw [show n = 4 + (n - 4) by omega, runFor_add, runFor_done h] at this
          exact this
      rw [e1]
      exact wpAny_pure hq
    · rw [if_neg h]
      refine wpAny_bind (wpAny_rule ?_)
      have hn4 : 4 < n := by
        rcases Nat.lt_or_ge 4 n with q | q
        · exact q
        · exfalso
          have := Ends.mono he q
          rw [this.1] at h
          exact h this.2
      refine wpAny_reDrive turns (n - 4) (m.runFor 4) m' ⟨?_, he.2⟩ (by omega) hq
      rw [← runFor_add, show 4 + (n - 4) = n by omega]
      exact he.1

theorem wpAny_reRunToEnd {Q : Option Sre.M → Shared → Prop} {n : Nat} {m m' : Sre.M} (he : Ends n m m') (hn : n < 1000000000)
    (hq : match m'.outcome with | some .matched => Q (some m') s | some .failed => Q none s | _ => False) : wpAny M A (reRunToEnd m) Q E s := by
  unfold reRunToEnd
  refine wpAny_bind (wpAny_reDrive (2 ^ 64) n m m' he (by omega) ?_)
  refine wpAny_bind ?_
  have key : ∀ (l : List Nat) (u : PUnit) (P : PUnit → Shared → Prop), P u s → wpAny M A (forIn l u fun i r => (if m'.seen.has i = true then do rule (Sre.names.getD i ""); pure (ForInStep.yield PUnit.unit) else pure (ForInStep.yield PUnit.unit) : Sem (ForInStep PUnit))) P E s := by
    intro l
    induction l with
    | nil => intro u P h; exact wpAny_pure h
    | cons i l ih =>
      intro u P h
      rw [List.forIn_cons]
      by_cases hh : m'.seen.has i = true
      · rw [if_pos hh]
        refine wpAny_bind (wpAny_bind (wpAny_rule (wpAny_pure ?_)))
        exact ih _ _ h
      · rw [if_neg hh]
        refine wpAny_bind (wpAny_pure ?_)
        exact ih _ _ h
  refine key _ _ _ ?_
  revert hq
  cases m'.outcome with
  | none => exact fun h => h.elim
  | some o =>
    cases o with
    | matched => exact fun h => wpAny_pure h
    | failed => exact fun h => wpAny_pure h
    | stuck w => exact fun h => h.elim
end Mine
end
noncomputable section
namespace Mine
open PySem PySem.W PySem.W.X PySem.Builtin PySem.Builtin.Re
open PySem.Sem (wp finPost)

theorem entry_subloop : entryFor table "re.Pattern.sub.loop" = some Builtin.«re.Pattern.sub.loop» := entryFor_of_tree (by kernel_rfl)

noncomputable def subCode (P : Addr) (T : Str) (tt : Tok) (R : Str) (rt : Tok) (n : Int) (p : Nat) (l : Addr) : Code :=
  .builtin "re.Pattern.sub.loop" ⟨[.ref P, .str T tt, .str R rt, rawInt 0, rawInt 0, rawInt n, rawInt p, rawInt p, .bool false, .ref l, .bool false], []⟩

/-- the pattern's objects -/
structure PatAt (kt : KT) (P : Addr) (code : Array Nat) : Prop where
  ex : ∃ p0 p1 c ws, kt.get P = some ⟨.type "re.Pattern", none, .fields #[p0, p1, .int 0 0, .none, .none, .ref c, .int 0 0], #[]⟩ ∧ kt.get c = some ⟨.type "tuple", none, .seq ws 0, #[]⟩ ∧ (ws.map reRawOf).map (·.toNat) = code

/-- one list has turned -/
structure Upd1 (l : Addr) (o : Obj) (s s' : Shared) : Prop where
  at' : s'.heap.get? l = some o
  same : Heap.SameBut l s.heap s'.heap
  rest : (s'.gens, s'.drawn, s'.os) = (s.gens, s.drawn, s.os)
theorem Upd1.trans {l : Addr} {o o' : Obj} {s s₁ s₂ : Shared} (h : Upd1 l o s s₁) (g : Upd1 l o' s₁ s₂) : Upd1 l o' s s₂ :=
  ⟨g.at', ⟨g.same.1.trans h.same.1, fun b hb => (g.same.2 b hb).trans (h.same.2 b hb)⟩, g.rest.trans h.rest⟩

section
variable {M : Model} {A : Around} {Er : Value → Shared → Prop} {s : Shared}
theorem wpAny_push {l : Addr} {xs : List Value} {ep : Nat} {v : Value} {Q : Unit → Shared → Prop} (hl : s.heap.get? l = some (listO xs ep)) (hz : xs.length < 1000000)
    (h : ∀ s', Upd1 l (listO (xs ++ [v]) (ep + 1)) s s' → s'.toks = s.toks → Q () s') : wpAny M A (updateSeq l (·.push v)) Q Er s := by
  refine wpAny_updateSeq hl rfl (h _ ?_ rfl) (by rw [List.size_toArray]; have : sizeLine = 16777216 := rfl; omega) (by rw [Array.size_push, List.size_toArray]; have : sizeLine = 16777216 := rfl; omega)
  refine ⟨?_, Heap.SameBut.update .., rfl⟩
  have e : Obj.mapSeq (·.push v) (listO xs ep) = listO (xs ++ [v]) (ep + 1) := by
    simp [Obj.mapSeq, listO]
  rw [← e]
  exact Heap.get?_update_self _ hl rfl

theorem wpAny_wholeTarget {kt : KT} {P : Addr} {code : Array Nat} {T : Str} {tt : Tok} {Q : ReTarget → Shared → Prop} (hP : PatAt kt P code) (hk : ∀ a o, kt.get a = some o → s.heap.get? a = some o)
    (h : Q { pattern := .ref P, string := .str T tt, code := code, text := T.cps, kind := 0, groups := 0, pos := 0, lim := T.cps.size } s) : wpAny M A (reWholeTarget (.ref P) (.str T tt)) Q Er s := by
  obtain ⟨p0, p1, c, ws, h1, h2, h3⟩ := hP.ex
  unfold reWholeTarget
  refine wpAny_bind (wpAny_fieldsOf (hk _ _ h1) rfl ?_)
  refine wpAny_bind ?_
  unfold reTextOf
  refine wpAny_bind (wpAny_pure ?_)
  refine wpAny_pure ?_
  dsimp only
  rw [if_neg (by simp)]
  refine wpAny_bind (wpAny_pure ?_)
  refine wpAny_bind ?_
  unfold reRawItems
  refine wpAny_bind (wpAny_seqItems (hk _ _ h2) rfl ?_)
  refine wpAny_pure ?_
  refine wpAny_pure ?_
  subst h3
  exact h
end

noncomputable def pieceL (T : Str) (a b : Nat) : List Str := if a < b then [⟨T.cps.extract a b⟩] else []
section
variable {M : Model} {A : Around} {Er : Value → Shared → Prop} {s : Shared}
theorem wpAny_piece {α : Type} {k : Unit → Sem α} {l : Addr} {xs : List (Str × Tok)} {ep : Nat} {T : Str} {a b : Nat} {Q : α → Shared → Prop} (hl : s.heap.get? l = some (listO (strValues xs) ep)) (hz : xs.length < 1000000) (hT : T.cps.size < 1000000)
    (h : ∀ s' xs' ep', xs'.map (·.1) = xs.map (·.1) ++ pieceL T a b → Upd1 l (listO (strValues xs') ep') s s' → wpAny M A (k ()) Q Er s') :
    wpAny M A (if a < b then (do let x ← reSlice T.cps 0 a b; let r ← updateSeq l fun xs => xs.push x; k r) else k ()) Q Er s := by
  unfold pieceL at h
  by_cases hab : a < b
  · rw [if_pos hab] at h ⊢
    unfold reSlice
    refine wpAny_bind ?_
    rw [if_pos (by decide)]
    refine wpAny_mkStr ?_ ?_
    · refine wpAny_bind (wpAny_push (s := { s with toks := s.toks + 1 }) hl (by unfold strValues; rw [List.length_map]; exact hz) fun s' hu ht => ?_)
      refine h s' (xs ++ [(⟨T.cps.extract a b⟩, s.toks)]) (ep + 1) (by rw [List.map_append]; rfl) ?_
      refine ⟨?_, hu.same, hu.rest⟩
      have := hu.at'
      unfold strValues at this ⊢
      rw [List.map_append]
      exact this
    · show (T.cps.extract a b).size ≤ sizeLine
      rw [Array.size_extract]
      have : sizeLine = 16777216 := rfl
      omega
  · rw [if_neg hab] at h ⊢
    exact h s xs ep (by rw [List.append_nil]) ⟨hl, ⟨rfl, fun _ _ => rfl⟩, rfl⟩
end
section
variable {prog : Program} {w : World} {A : Around} {s : Shared}
theorem sub_turn {kt : KT} {P : Addr} {code : Array Nat} {T : Str} {tt : Tok} {R : Str} {rt : Tok} {n : Int} {p a b : Nat} {l : Addr} {xs : List (Str × Tok)} {ep : Nat} {Q : Fin → Shared → Prop} {Er : Value → Shared → Prop}
    (hP : PatAt kt P code) (hk : ∀ a o, kt.get a = some o → s.heap.get? a = some o) (hf : Fnd code T.cps p a b) (hne : a < b)
    (hl : s.heap.get? l = some (listO (strValues xs) ep)) (hz : xs.length < 999998) (hT : T.cps.size < 1000000)
    (h : ∀ s' xs' ep', xs'.map (·.1) = xs.map (·.1) ++ pieceL T p a ++ [R] → Upd1 l (listO (strValues xs') ep') s s' → Q (.again (subCode P T tt R rt (n + 1) b l)) s') :
    wpAny (model prog w) A (Builtin.«re.Pattern.sub.loop» ⟨[.ref P, .str T tt, .str R rt, rawInt 0, rawInt 0, rawInt n, rawInt p, rawInt p, .bool false, .ref l, .bool false], []⟩) Q Er s := by
  unfold Builtin.«re.Pattern.sub.loop»
  show wpAny _ _ (reWholeTarget (.ref P) (.str T tt) >>= _) _ _ _
  refine wpAny_bind (wpAny_wholeTarget hP hk ?_)
  obtain ⟨k, hk1, m', he, hm1, hm2, hm3⟩ := hf
  refine wpAny_bind ?_
  unfold reLiteralCannotBeTurned
  refine wpAny_bind (wpAny_pure ?_)
  refine wpAny_pure ?_
  dsimp only
  refine wpAny_bind ?_
  rw [if_neg (by simp)]
  unfold reNextFound
  refine wpAny_reRunToEnd (m' := m') he hk1 ?_
  rw [hm1]
  dsimp only
  subst hm2 hm3
  refine wpAny_piece (T := T) hl (by omega) hT fun s₁ xs₁ ep₁ h1 hu => ?_
  rw [if_pos (by decide)]
  refine wpAny_bind (wpAny_pure ?_)
  rw [if_pos (show (Value.str R rt != Value.none) = true from rfl)]
  have h1 : xs₁.map (·.1) = xs.map (·.1) ++ pieceL T p m'.start := h1
  have hlen : xs₁.length < 1000000 := by
    have := congrArg List.length h1
    rw [List.length_map, List.length_append, List.length_map] at this
    have : (pieceL T p m'.start).length ≤ 1 := by unfold pieceL; split <;> simp
    omega
  refine wpAny_bind (wpAny_push hu.at' (by unfold strValues; rw [List.length_map]; exact hlen) fun s₂ hu2 _ => ?_)
  have hb : (m'.handed == m'.start) = false := beq_eq_false_iff_ne.mpr (by omega)
  rw [hb]
  refine wpAny_pure (h s₂ (xs₁ ++ [(R, rt)]) (ep₁ + 1) ?_ ?_)
  · rw [List.map_append, h1]; rfl
  · refine hu.trans ⟨?_, hu2.same, hu2.rest⟩
    have := hu2.at'
    unfold strValues at this ⊢
    rw [List.map_append]
    exact this
end

section
variable {prog : Program} {w : World} {A : Around} {s : Shared}
theorem wpAny_subJoin {l : Addr} {xs : List (Str × Tok)} {ep : Nat} {n : Int} {Q : Fin → Shared → Prop} {Er : Value → Shared → Prop} {jt : Tok}
    (hl : s.heap.get? l = some (listO (strValues xs) ep)) (hok : JoinOk ⟨#[]⟩ (xs.map (·.1)) = true)
    (h : ∀ t' k, Q (.done (.ret (.str (Txt.join ⟨#[]⟩ (xs.map (·.1))) t'))) { s with toks := k }) :
    wpAny (model prog w) A (do
      let o ← seqItems? (Value.ref l)
      if (o.getD #[]).isEmpty = true then ret (.str ⟨#[]⟩ jt) else do
        let text ← call (.builtin "str.join") [.str ⟨#[]⟩ jt, .ref l]
        ret text) Q Er s := by
  refine wpAny_bind (wpAny_seqItems hl rfl ?_)
  cases xs with
  | nil =>
    rw [if_pos (by rfl)]
    exact wpAny_pure (h jt s.toks)
  | cons x xs =>
    rw [if_neg (by simp [strValues])]
    refine wpAny_bind (SC.join (l := x :: xs) ⟨_, hl, rfl, ep, rfl⟩ rfl hok fun t' k => ?_)
    exact wpAny_pure (h t' k)

theorem sub_last {kt : KT} {P : Addr} {code : Array Nat} {T : Str} {tt : Tok} {R : Str} {rt : Tok} {n : Int} {p : Nat} {l : Addr} {xs : List (Str × Tok)} {ep : Nat} {Q : Fin → Shared → Prop} {Er : Value → Shared → Prop}
    (hP : PatAt kt P code) (hk : ∀ a o, kt.get a = some o → s.heap.get? a = some o) (hf : Fld code T.cps p)
    (hl : s.heap.get? l = some (listO (strValues xs) ep)) (hz : xs.length < 999998) (hT : T.cps.size < 1000000) (hok : JoinOk ⟨#[]⟩ (xs.map (·.1) ++ pieceL T p T.cps.size) = true)
    (h : ∀ s' xs' ep' t' k, Upd1 l (listO (strValues xs') ep') s s' → Q (.done (.ret (.str (Txt.join ⟨#[]⟩ (xs.map (·.1) ++ pieceL T p T.cps.size)) t'))) { s' with toks := k }) :
    wpAny (model prog w) A (Builtin.«re.Pattern.sub.loop» ⟨[.ref P, .str T tt, .str R rt, rawInt 0, rawInt 0, rawInt n, rawInt p, rawInt p, .bool false, .ref l, .bool false], []⟩) Q Er s := by
  unfold Builtin.«re.Pattern.sub.loop»
  show wpAny _ _ (reWholeTarget (.ref P) (.str T tt) >>= _) _ _ _
  refine wpAny_bind (wpAny_wholeTarget hP hk ?_)
  obtain ⟨k, hk1, m', he, hm1⟩ := hf
  refine wpAny_bind ?_
  unfold reLiteralCannotBeTurned
  refine wpAny_bind (wpAny_pure ?_)
  refine wpAny_pure ?_
  dsimp only
  refine wpAny_bind ?_
  rw [if_neg (by simp)]
  unfold reNextFound
  refine wpAny_reRunToEnd (m' := m') he hk1 ?_
  rw [hm1]
  dsimp only
  refine wpAny_piece (T := T) hl (by omega) hT fun s₁ xs₁ ep₁ h1 hu => ?_
  have h1 : xs₁.map (·.1) = xs.map (·.1) ++ pieceL T p T.cps.size := h1
  unfold reSlice
  refine wpAny_bind ?_
  rw [if_pos (by decide)]
  refine wpAny_mkStr ?_ ?_
  · have e : T.cps.extract 0 0 = #[] := by simp
    rw [e]
    refine wpAny_subJoin (s := { s₁ with toks := s₁.toks + 1 }) (n := n) hu.at' (by rw [h1]; exact hok) fun t' k => ?_
    rw [h1]
    exact h s₁ xs₁ ep₁ t' k hu
  · show (T.cps.extract 0 0).size ≤ sizeLine
    simp
end
end Mine
end
noncomputable section
namespace Mine
open PySem PySem.W PySem.W.X PySem.Builtin PySem.Builtin.Re
open PySem.Sem (wp finPost)

theorem ctr_body {E : En} {bel : List (Code × Pos)} {id : String} {args : Args} {B : Builtin} {pre : List (Addr × Obj)} {Q : Outc → Prop} (entry : entryFor table id = some B)
    (h : ∀ (A : Around) (s : Shared) (rest : Array GenState × Drawn × OsState), A.handled = none → (∀ a o, E.kt.get a = some o → s.heap.get? a = some o) → (∀ x ∈ pre, s.heap.get? x.1 = some x.2) → (pre.map (·.1)).Nodup → (∀ x ∈ pre, E.kt.get x.1 = none) → (s.gens, s.drawn, s.os) = rest →
      wpAny (model E.prog E.w) A (B args) (fun fin s' => match fin with
        | .done f => ∃ o : Outc, o.r = .ok f ∧ Q o ∧ Post E.kt rest pre s o s'
        | .again c' => c'.quiet = true ∧ ∀ p, wpCode E.M (Γof c' bel) (fun r s'' => ∃ o : Outc, o.r = r ∧ Q o ∧ Post E.kt rest pre s o s'') p s') (fun _ _ => False) s) : Ctr E bel (.builtin id args) pre Q := by
  intro rest p s hk hp hn hkn hr
  rw [wpCode_iff_wp]
  show wp E.M (Γof (.builtin id args) bel) (denote table (.builtin id args)) _ _ p s
  rw [den_builtin entry]
  let c' : Code := .builtin id args
  let A : Around := { handled := none, depth := frameCount bel + c'.weight, frames := none, guards := none, units := (Γof c' bel).units }
  have hin : (Γof c' bel).In A := ⟨rfl, Nat.le_refl _, fun _ hl => (nomatch hl), fun _ hg => (nomatch hg), Nat.le_refl _⟩
  have key := h A s rest rfl hk hp hn hkn hr (Γof c' bel) p hin
  refine Sem.wp_mono E.M (Γof c' bel) _ (fun fin p' s' h' => ?_) (fun _ _ _ h' => h'.elim) p s key
  cases fin with
  | done f => exact h'
  | again c'' => rw [finPost_again]; exact ⟨h'.1, h'.2 p'⟩

theorem Upd1.frame {l : Addr} {o : Obj} {s s' : Shared} (h : Upd1 l o s s') {kt : KT} {o₀ : Obj} (hk : ∀ a o, kt.get a = some o → s.heap.get? a = some o) (hl : kt.get l = none) : ∀ a ob, kt.get a = some ob → s'.heap.get? a = some ob := by
  intro a ob ha
  have : a ≠ l := fun q => by rw [q, hl] at ha; cases ha
  exact (h.same.2 a this).trans (hk a ob ha)
/-- behind one list's turn -/
theorem Post.behind {kt : KT} {rest : Array GenState × Drawn × OsState} {l : Addr} {o₀ o₁ : Obj} {s s₁ s₂ : Shared} {o : Outc} (h : Upd1 l o₁ s s₁) (P : Post kt rest [(l, o₁)] s₁ o s₂) : Post kt rest [(l, o₀)] s o s₂ := by
  refine ⟨?_, fun x hx => ⟨(P.new x hx).1, ?_⟩, P.nodup, fun b ob hb hn => ?_, P.top, ?_, P.tok, P.rest⟩
  · have := P.upd
    match o.upd, this with
    | [u], this => exact this
    | [], this => exact this.elim
    | _ :: _ :: _, this => exact this.2.elim
  · rw [← h.same.1]; exact (P.new x hx).2
  · refine P.frame b ob ?_ hn
    exact (h.same.2 b fun q => hn (by rw [q]; exact .head _)).trans hb
  · rw [← h.same.1]; exact P.le

theorem post_upd1 {kt : KT} {rest : Array GenState × Drawn × OsState} {l : Addr} {o₀ o₁ : Obj} {s s₁ : Shared} {r : Result} (h : Upd1 l o₁ s s₁) (hr : (s.gens, s.drawn, s.os) = rest) (k : Nat) :
    Post kt rest [(l, o₀)] s ⟨r, [o₁], [], s₁.heap.objs.size, k⟩ { s₁ with toks := k } :=
  ⟨⟨h.at', trivial⟩, fun _ hx => (nomatch hx), List.nodup_nil, fun b ob hb hn => (h.same.2 b fun q => hn (by rw [q]; exact .head _)).trans hb, rfl, Nat.le_of_eq h.same.1.symm, rfl, h.rest.trans hr⟩

inductive Spans (code t : Array Nat) : Nat → List (Nat × Nat) → Prop
  | nil {p} (h : Fld code t p) : Spans code t p []
  | cons {p a b l} (h : Fnd code t p a b) (hab : a < b) (g : Spans code t b l) : Spans code t p ((a, b) :: l)
noncomputable def piecesOf (R T : Str) : Nat → List (Nat × Nat) → List Str
  | p, [] => pieceL T p T.cps.size
  | p, (a, b) :: l => pieceL T p a ++ [R] ++ piecesOf R T b l
noncomputable def QSub (X : Str) (o : Outc) : Prop := ∃ tt ob top tok, o = ⟨.ok (.ret (.str X tt)), [ob], [], top, tok⟩

theorem sub_loop (E : En) (bel : List (Code × Pos)) (P : Addr) (code : Array Nat) (T : Str) (tt : Tok) (R : Str) (rt : Tok) (l : Addr) (hP : PatAt E.kt P code) (hT : T.cps.size < 1000000) :
    ∀ (sp : List (Nat × Nat)) (p : Nat) (n : Int) (xs : List (Str × Tok)) (ep : Nat), Spans code T.cps p sp → xs.length + 2 * sp.length < 999998 → JoinOk ⟨#[]⟩ (xs.map (·.1) ++ piecesOf R T p sp) = true →
      Ctr E bel (subCode P T tt R rt n p l) [(l, listO (strValues xs) ep)] (QSub (Txt.join ⟨#[]⟩ (xs.map (·.1) ++ piecesOf R T p sp)))
  | [], p, n, xs, ep, .nil h, hz, hok => by
    refine ctr_body entry_subloop fun A s rest hh hk hp hn hkn hr => ?_
    refine sub_last hP hk h (hp _ (.head _)) (by omega) hT hok fun s' xs' ep' t' k hu => ?_
    exact ⟨⟨_, _, _, _, _⟩, rfl, ⟨t', _, _, _, rfl⟩, post_upd1 hu hr k⟩
  | (a, b) :: sp, p, n, xs, ep, .cons h hab g, hz, hok => by
    refine ctr_body entry_subloop fun A s rest hh hk hp hn hkn hr => ?_
    rw [List.length_cons] at hz
    refine sub_turn hP hk h hab (hp _ (.head _)) (by omega) hT fun s' xs' ep' h1 hu => ?_
    have h2 : xs'.map (·.1) ++ piecesOf R T b sp = xs.map (·.1) ++ piecesOf R T p ((a, b) :: sp) := by
      rw [h1]; simp [piecesOf]
    have hlen : xs'.length ≤ xs.length + 2 := by
      have := congrArg List.length h1
      rw [List.length_map, List.length_append, List.length_append, List.length_map] at this
      have h3 : (pieceL T p a).length ≤ 1 := by unfold pieceL; split <;> simp
      simp at this
      omega
    refine ⟨by kernel_rfl, fun q => ?_⟩
    have hl : E.kt.get l = none := hkn _ (.head _)
    have ih := sub_loop E bel P code T tt R rt l hP hT sp b (n + 1) xs' ep' g (by omega) (by rw [h2]; exact hok) rest q s' (hu.frame (o₀ := default) hk hl)
      (fun x hx => by cases hx with | head => exact hu.at' | tail _ hx => cases hx) (by simp) (fun x hx => by cases hx with | head => exact hl | tail _ hx => cases hx) (hu.rest.trans hr)
    rw [h2] at ih
    refine wpCode_mono (fun r s₂ hr₂ => ?_) ih
    obtain ⟨o, e, hQ, P⟩ := hr₂
    exact ⟨o, e, hQ, P.behind hu⟩
end Mine
end
noncomputable section
namespace Mine
open PySem PySem.W PySem.W.X
open PySem.Sem (wp finPost)

noncomputable def strItO (T : Str) (t : Tok) (i : Nat) : Obj := ⟨.type "str_ascii_iterator", none, .fields #[.str T t, .int i 0], #[]⟩
noncomputable def strItX : Obj := ⟨.type "str_ascii_iterator", none, .fields #[.none, .none], #[]⟩
theorem entry_striter : entryFor table "str.__iter__" = some Builtin.«str.__iter__» := entryFor_of_tree (by kernel_rfl)
noncomputable def QNew (ob : Obj) (pre : List Obj) (o : Outc) : Prop := ∃ a top tok, o = ⟨.ok (.ret (.ref a)), pre, [(a, ob)], top, tok⟩

theorem post_new {kt : KT} {rest : Array GenState × Drawn × OsState} {s : Shared} {pre : List (Addr × Obj)} {r : Result} {ob : Obj} (hp : ∀ x ∈ pre, s.heap.get? x.1 = some x.2) (hr : (s.gens, s.drawn, s.os) = rest) (hf : ob.isFreed = false) (k : Nat) :
    Post kt rest pre s ⟨r, pre.map (·.2), [(s.heap.objs.size, ob)], s.heap.objs.size + 1, k⟩ { s with heap := s.heap.push ob, toks := k } := by
  refine ⟨upd_of (upd := pre) rfl fun x hx => Heap.get?_push_of_some _ (hp x hx), fun x hx => ?_, by simp, fun b o hb _ => Heap.get?_push_of_some _ hb, Heap.size_push .., ?_, rfl, hr⟩
  · rcases List.mem_cons.mp hx with rfl | hx
    · exact ⟨Heap.get?_push_size _ hf, Nat.le_refl _⟩
    · cases hx
  · show s.heap.objs.size ≤ (s.heap.push ob).objs.size
    rw [Heap.size_push]; omega

theorem ctr_strIter (E : En) (bel : List (Code × Pos)) (T : Str) (t : Tok) (ha : T.cps.all (· < 128) = true) : Ctr E bel (.builtin "str.__iter__" ⟨[.str T t], []⟩) [] (QNew (strItO T t 0) []) := by
  refine ctr_body entry_striter fun A s rest hh hk hp hn hkn hr => ?_
  show wpAny _ A (Builtin.«str.__iter__» ⟨[.str T t], []⟩) _ _ s
  show wpAny _ A (newFields (if (true && T.cps.all (· < 128)) = true then "str_ascii_iterator" else "str_iterator") [.str T t, rawInt 0] >>= _) _ _ s
  rw [ha, if_pos (by rfl)]
  refine wpAny_bind (wpAny_newObj_type ?_)
  exact wpAny_pure ⟨⟨_, _, _, _, _⟩, rfl, ⟨_, _, _, rfl⟩, post_new hp hr rfl s.toks⟩

/-- a state moved: what lies outside `wr` stands -/
structure Mv (wr : List Addr) (s s' : Shared) : Prop where
  frame : ∀ b o, s.heap.get? b = some o → b ∉ wr → s'.heap.get? b = some o
  le : s.heap.objs.size ≤ s'.heap.objs.size
  rest : (s'.gens, s'.drawn, s'.os) = (s.gens, s.drawn, s.os)
theorem Mv.refl (wr : List Addr) (s : Shared) : Mv wr s s := ⟨fun _ _ h _ => h, Nat.le_refl _, rfl⟩
theorem Mv.trans {wr : List Addr} {s s₁ s₂ : Shared} (h : Mv wr s s₁) (g : Mv wr s₁ s₂) : Mv wr s s₂ :=
  ⟨fun b o e hb => g.frame b o (h.frame b o e hb) hb, Nat.le_trans h.le g.le, g.rest.trans h.rest⟩
theorem Mv.of_same {wr : List Addr} {a : Addr} {s s' : Shared} (h : Heap.SameBut a s.heap s'.heap) (ha : a ∈ wr) (hr : (s'.gens, s'.drawn, s'.os) = (s.gens, s.drawn, s.os)) : Mv wr s s' :=
  ⟨fun b o e hb => (h.2 b fun q => hb (q ▸ ha)).trans e, Nat.le_of_eq h.1.symm, hr⟩
theorem Mv.kt {wr : List Addr} {s s' : Shared} (h : Mv wr s s') {kt : KT} (hk : ∀ a o, kt.get a = some o → s.heap.get? a = some o) (hn : ∀ a ∈ wr, kt.get a = none) : ∀ a o, kt.get a = some o → s'.heap.get? a = some o :=
  fun a o e => h.frame a o (hk a o e) fun q => by rw [hn a q] at e; cases e
theorem Upd.addrs {h : Heap} : ∀ {pre pre' : List (Addr × Obj)} {os : List Obj}, pre.map (·.1) = pre'.map (·.1) → Upd h pre os → Upd h pre' os
  | [], [], [], _, h => h
  | x :: pre, y :: pre', o :: os, e, h => by
    simp only [List.map_cons, List.cons.injEq] at e
    exact ⟨e.1 ▸ h.1, Upd.addrs e.2 h.2⟩
  | [], [], _ :: _, _, h => h.elim
  | _ :: _, _ :: _, [], _, h => h.elim
  | [], _ :: _, _, e, _ => by cases e
  | _ :: _, [], _, e, _ => by cases e
theorem Post.behindM {kt : KT} {rest : Array GenState × Drawn × OsState} {pre pre' : List (Addr × Obj)} {s s₁ s₂ : Shared} {o : Outc} (h : Mv (pre.map (·.1)) s s₁) (P : Post kt rest pre' s₁ o s₂) (e : pre'.map (·.1) = pre.map (·.1)) : Post kt rest pre s o s₂ :=
  ⟨Upd.addrs e P.upd, fun x hx => ⟨(P.new x hx).1, Nat.le_trans h.le (P.new x hx).2⟩, P.nodup, fun b ob hb hn => P.frame b ob (h.frame b ob hb hn) (by rw [e]; exact hn), P.top, Nat.le_trans h.le P.le, P.tok, P.rest⟩
theorem post_mv {kt : KT} {rest : Array GenState × Drawn × OsState} {pre : List (Addr × Obj)} {s s₁ : Shared} {r : Result} {us : List Obj} (h : Mv (pre.map (·.1)) s s₁) (hr : (s.gens, s.drawn, s.os) = rest) (hu : Upd s₁.heap pre us) (k : Nat) :
    Post kt rest pre s ⟨r, us, [], s₁.heap.objs.size, k⟩ { s₁ with toks := k } :=
  ⟨hu, fun _ hx => (nomatch hx), List.nodup_nil, fun b ob hb hn => h.frame b ob hb hn, rfl, h.le, rfl, h.rest.trans hr⟩

theorem wpAny_strEnd {prog : Program} {w : World} {A : Around} {Er : Value → Shared → Prop} {s : Shared} {it : Addr} {x : Str} {t : Tok} {i : Nat} {Q : Option Value → Shared → Prop} (hh : A.handled = none)
    (hit : s.heap.IsStrIter it "str_ascii_iterator" x t i) (hx : x.cps[i]? = none)
    (hQ : ∀ s' o', Mv [it] s s' → s'.heap.get? it = some o' → Q none s') : wpAny (model prog w) A (pyNext (.ref it)) Q Er s := by
  obtain ⟨o, ho, hc, hd⟩ := id hit
  unfold pyNext
  refine wpAny_bind (wpAny_attempt (wpAny_callSpecial?_slot (name := Str.ofString "__next__") hit.typeIs F.slot_str_ascii_iterator_next
    (wpAny_call_entry F.slot_str_ascii_iterator_next hit.typeIs F.entry_str_ascii_iterator_next ?_ (F.args_str_ascii_iterator_next_1 _))))
  show wpAny _ _ (field (.ref it) 0 >>= _) _ _ s
  refine wpAny_bind (wpAny_field ho hd (x := .str x t) rfl ?_)
  show wpAny _ _ (field (.ref it) 1 >>= _) _ _ s
  refine wpAny_bind (wpAny_field ho hd (x := .int i 0) rfl ?_)
  simp only [Int.toNat_natCast, hx]
  refine wpAny_bind (wpAny_rule (wpAny_bind (wpAny_setField ho hd (by simp) (wpAny_bind (wpAny_letGo ?_)))))
  show wpAny _ _ (newExc (.type "StopIteration") [] >>= _) _ _ _
  refine wpAny_bind ?_
  simp only [newExc, newTuple]
  refine wpAny_bind (wpAny_newObj_type ?_ (by size_fits))
  refine wpAny_bind (m := firstArgMember _ _) (wpAny_of_eq (a := Value.none) (by first | rfl | (simp only [firstArgMember]; rfl)) ?_)
  refine wpAny_newObj_type ?_ (by size_fits)
  simp only [raiseNew]
  refine wpAny_bind (wpAny_handled ?_)
  rw [show A.in1.handled = none from hh]
  refine wpAny_bind (wpAny_pure (wpAny_throw ?_))
  refine wpAny_bind (wpAny_isInstance (T := "StopIteration") (b := true) ⟨_, Heap.get?_push_size _ rfl, rfl⟩ isSubtype_stop ?_)
  refine wpAny_pure (hQ _ _ ⟨fun b ob hb hn => ?_, ?_, rfl⟩ (Heap.get?_push_of_some _ (Heap.get?_push_of_some _ (Heap.get?_update_self _ ho (Obj.isFreed_of_fields (Obj.data_mapFields hd _))))))
  · refine Heap.get?_push_of_some _ (Heap.get?_push_of_some _ ?_)
    exact (Heap.get?_update_other _ _ (fun q => hn (by rw [q]; exact .head _))).trans hb
  · show s.heap.objs.size ≤ (((s.heap.update it _).push _).push _).objs.size
    rw [Heap.size_push, Heap.size_push, Heap.size_update]; omega

noncomputable def chVs (ts : List (Nat × Tok)) : List Value := ts.map fun x => .str ⟨#[x.1]⟩ x.2
noncomputable def QExt (l it : Addr) (xs : List Value) (cs : List Nat) (res : Value) (o : Outc) : Prop :=
  ∃ ts ep io top tok, ts.map (·.1) = cs ∧ o = ⟨.ok (.ret res), [listO (xs ++ chVs ts) ep, io], [], top, tok⟩
theorem upd_two {h : Heap} {a b : Addr} {x y u v : Obj} (h1 : h.get? a = some u) (h2 : h.get? b = some v) : Upd h [(a, x), (b, y)] [u, v] := ⟨h1, h2, trivial⟩

theorem ctr_extend (E : En) (bel : List (Code × Pos)) (l it : Addr) (T : Str) (t : Tok) (res : Value) (hT : T.cps.size < 900000) (hne : l ≠ it) : ∀ (k i : Nat) (io : Obj) (xs : List Value) (ep : Nat), i + k = T.cps.size → io.cls = .type "str_ascii_iterator" → io.data = .fields #[.str T t, .int i 0] → xs.length + k < 999000 →
    Ctr E bel (.builtin "list.extend.loop" ⟨[.ref l, .ref it, res], []⟩) [(l, listO xs ep), (it, io)] (QExt l it xs (T.cps.toList.drop i) res)
  | 0, i, io, xs, ep, hi, hc, hd, hz => by
    refine ctr_body F.entry_extend_loop fun A s rest hh hk hp hn hkn hr => ?_
    have hl : s.heap.get? l = some (listO xs ep) := hp _ (.head _)
    have hit : s.heap.get? it = some io := hp _ (.tail _ (.head _))
    show wpAny _ _ (pyNext (.ref it) >>= _) _ _ _
    refine wpAny_bind (wpAny_strEnd (x := T) (t := t) (i := i) hh ⟨io, hit, hc, hd⟩ (by rw [Array.getElem?_eq_none]; omega) fun s' o' hm ho' => ?_)
    refine wpAny_pure ⟨⟨.ok (.ret res), [listO (xs ++ chVs []) ep, o'], [], s'.heap.objs.size, s'.toks⟩, rfl, ⟨[], ep, o', _, _, ?_, rfl⟩, ?_⟩
    · rw [List.drop_of_length_le (by rw [Array.length_toList]; omega)]; rfl
    · have hl' := hm.frame l _ hl (by simpa using hne)
      refine post_mv (pre := [(l, listO xs ep), (it, io)]) ⟨fun b o e hb => hm.frame b o e fun q => hb (by cases List.mem_singleton.mp q; exact .tail _ (.head _)), hm.le, hm.rest⟩ hr (upd_two ?_ ho') s'.toks
      rw [hl']; simp [chVs]
  | k + 1, i, io, xs, ep, hi, hc, hd, hz => by
    refine ctr_body F.entry_extend_loop fun A s rest hh hk hp hn hkn hr => ?_
    have hl : s.heap.get? l = some (listO xs ep) := hp _ (.head _)
    have hit : s.heap.get? it = some io := hp _ (.tail _ (.head _))
    have hlt : i < T.cps.size := by omega
    show wpAny _ _ (pyNext (.ref it) >>= _) _ _ _
    refine wpAny_bind (wpAny_pyNext_ascii_item (x := T) (t := t) (i := i) (c := T.cps[i]) ⟨io, hit, hc, hd⟩ (by simp [hlt]) fun h' hit' hs' => ?_)
    have hl' : h'.get? l = some (listO xs ep) := (hs'.2 l hne).trans hl
    show wpAny _ _ (updateSeq l (·.push _) >>= _) _ _ _
    refine wpAny_bind (wpAny_push (s := { s with heap := h', toks := s.toks + 1 }) hl' (by omega) fun s₂ hu _ => ?_)
    obtain ⟨io', e1, e2, e3⟩ := hit'
    have hit2 : s₂.heap.get? it = some io' := (hu.same.2 it (Ne.symm hne)).trans e1
    have hm : Mv ([(l, listO xs ep), (it, io)].map (·.1)) s s₂ :=
      (Mv.of_same (s' := { s with heap := h', toks := s.toks + 1 }) (a := it) hs' (.tail _ (.head _)) rfl).trans (Mv.of_same hu.same (.head _) hu.rest)
    have hwr : ∀ a ∈ [(l, listO xs ep), (it, io)].map (·.1), E.kt.get a = none := fun a ha => by
      obtain ⟨x, hx, rfl⟩ := List.mem_map.mp ha
      exact hkn x hx
    refine wpAny_pure ⟨by kernel_rfl, fun q => ?_⟩
    have ih := ctr_extend E bel l it T t res hT hne k (i + 1) io' (xs ++ [.str ⟨#[T.cps[i]]⟩ s.toks]) (ep + 1) (by omega) e2 (by rw [e3]) (by rw [List.length_append]; simp; omega) rest q s₂ (hm.kt hk hwr)
      (fun x hx => by
        rcases List.mem_cons.mp hx with rfl | hx
        · exact hu.at'
        · rcases List.mem_cons.mp hx with rfl | hx
          · exact hit2
          · cases hx) (by simpa using hne) (fun x hx => hwr x.1 (by
        rcases List.mem_cons.mp hx with rfl | hx
        · exact .head _
        · rcases List.mem_cons.mp hx with rfl | hx
          · exact .tail _ (.head _)
          · cases hx)) (hm.rest.trans hr)
    refine wpCode_mono (fun r s₃ hr₃ => ?_) ih
    obtain ⟨o, e, ⟨ts, ep', io'', top, tok, ht, rfl⟩, P⟩ := hr₃
    refine ⟨_, e, ⟨(T.cps[i], s.toks) :: ts, ep', io'', top, tok, ?_, ?_⟩, P.behindM hm rfl⟩
    · rw [List.map_cons, ht]
      conv => rhs; rw [List.drop_eq_getElem_cons (by rw [Array.length_toList]; exact hlt)]
      simp
    · simp [chVs]
end Mine
end
noncomputable section
namespace Mine
open PySem PySem.W PySem.W.X PySem.Builtin PySem.Builtin.Re

noncomputable def flat (L : List Str) : List Nat := L.flatMap fun x => x.cps.toList
theorem join_flat : ∀ L : List Str, Txt.join ⟨#[]⟩ L = ⟨(flat L).toArray⟩ := by
  intro L
  unfold Txt.join
  rw [StrLaws.glued_eq_join]
  induction L with
  | nil => rfl
  | cons x L ih =>
    cases L with
    | nil => simp [flat, Str.join]
    | cons y r =>
      show x ++ ⟨#[]⟩ ++ Str.join ⟨#[]⟩ (y :: r) = _
      rw [ih]
      show Str.mk ((x.cps ++ #[]) ++ (flat (y :: r)).toArray) = Str.mk _
      congr 1
      apply Array.ext'
      simp [flat]
theorem joinOk_flat (L : List Str) (h : (flat L).length < 10000000) : JoinOk ⟨#[]⟩ L = true := by
  have key : ∀ (L : List Str) (k : Nat), L.foldl (fun a x => a + x.length + (⟨#[]⟩ : Str).length) k = k + (flat L).length := by
    intro L
    induction L with
    | nil => intro k; rfl
    | cons x L ih =>
      intro k
      rw [List.foldl_cons, ih]
      have h1 : (flat (x :: L)).length = x.cps.size + (flat L).length := by simp [flat]
      have h2 : x.length = x.cps.size := rfl
      have h3 : (⟨#[]⟩ : Str).length = 0 := rfl
      omega
  unfold JoinOk
  rw [List.foldl_toArray, key]
  unfold Builtin.Str.tooLong
  have : sizeLine = 16777216 := rfl
  simp; omega

/-- the text with every line's begin quoted -/
noncomputable def qd : Bool → List Nat → List Nat
  | _, [] => []
  | b, c :: l => (if b && c == 46 then [46, 46] else [c]) ++ qd (c == 10) l
/-- the text with its ends made whole -/
noncomputable def nl : List Nat → List Nat
  | [] => []
  | 13 :: 10 :: l => 13 :: 10 :: nl l
  | c :: l => (if isEnd c then [13, 10] else [c]) ++ nl l

theorem gd (t : Array Nat) (p j : Nat) (h : p ≤ j) : t.getD j 0 = (t.toList.drop p).getD (j - p) 0 := by
  rw [Array.getD_eq_getD_getElem?, List.getD_eq_getElem?_getD, List.getElem?_drop, show p + (j - p) = j by omega, Array.getElem?_toList]
theorem first_of (P : Nat → Bool) : ∀ l : List Nat, (∀ x ∈ l, P x = false) ∨ ∃ u c v, l = u ++ c :: v ∧ (∀ x ∈ u, P x = false) ∧ P c = true
  | [] => .inl fun _ h => nomatch h
  | c :: l => by
    by_cases h : P c = true
    · exact .inr ⟨[], c, l, rfl, fun _ q => (nomatch q), h⟩
    · have h : P c = false := by simpa using h
      rcases first_of P l with g | ⟨u, d, v, rfl, g1, g2⟩
      · exact .inl fun x hx => by
          rcases List.mem_cons.mp hx with rfl | hx
          · exact h
          · exact g x hx
      · exact .inr ⟨c :: u, d, v, rfl, fun x hx => by
          rcases List.mem_cons.mp hx with rfl | hx
          · exact h
          · exact g1 x hx, g2⟩
theorem nl_plain : ∀ (u : List Nat), (∀ x ∈ u, isEnd x = false) → ∀ v, nl (u ++ v) = u ++ nl v
  | [], _, v => rfl
  | c :: u, h, v => by
    have hc := h c (.head _)
    have ih := nl_plain u (fun x hx => h x (.tail _ hx)) v
    have h13 : c ≠ 13 := fun q => by subst q; cases hc
    have : nl (c :: (u ++ v)) = (if isEnd c then [13, 10] else [c]) ++ nl (u ++ v) := by
      conv => lhs; unfold nl
      split
      · rename_i e; cases e
      · rename_i e; exact absurd (List.cons.inj e).1 h13
      · rename_i e; cases e; rfl
    show nl (c :: (u ++ v)) = c :: (u ++ nl v)
    rw [this, hc, ih]; rfl
theorem flat_pieceL (T : Str) (a b : Nat) (h : b ≤ T.cps.size) : flat (pieceL T a b) = (T.cps.toList.drop a).take (b - a) := by
  unfold pieceL
  by_cases hab : a < b
  · rw [if_pos hab]
    simp [flat]
  · rw [if_neg hab, show b - a = 0 by omega]
    rfl
theorem flat_append (a b : List Str) : flat (a ++ b) = flat a ++ flat b := by simp [flat]

/-- what a decomposition tells of the signs -/
theorem part_at {t : Array Nat} {p : Nat} {u v : List Nat} {c : Nat} (h : t.toList.drop p = u ++ c :: v) (hp : p ≤ t.size) : p + u.length < t.size ∧ t.getD (p + u.length) 0 = c ∧ (∀ j, p ≤ j → j < p + u.length → t.getD j 0 ∈ u) ∧ t.toList.drop (p + u.length + 1) = v := by
  have hl := congrArg List.length h
  rw [List.length_drop, List.length_append, List.length_cons, Array.length_toList] at hl
  refine ⟨by omega, ?_, fun j h1 h2 => ?_, ?_⟩
  · rw [gd t p _ (by omega), h, show p + u.length - p = u.length by omega]
    simp
  · rw [gd t p _ h1, h, List.getD_eq_getElem?_getD, List.getElem?_append_left (by omega), List.getElem?_eq_getElem (by omega)]
    exact List.getElem_mem _
  · rw [show p + u.length + 1 = p + (u.length + 1) by omega, ← List.drop_drop, h]
    simp

theorem spans2 (T : Str) : ∀ (k p : Nat), p + k = T.cps.size → ∃ sp, Spans code2 T.cps p sp ∧ sp.length ≤ k ∧ flat (piecesOf ⟨#[13, 10]⟩ T p sp) = nl (T.cps.toList.drop p) := by
  intro k
  induction k using Nat.strongRecOn with
  | ind k ih =>
    intro p hp
    rcases first_of isEnd (T.cps.toList.drop p) with g | ⟨u, c, v, h, g1, g2⟩
    · refine ⟨[], .nil (search2_none T.cps p (by omega) fun j h1 h2 => ?_), Nat.zero_le _, ?_⟩
      · rw [gd T.cps p j h1]
        refine g _ ?_
        rw [List.getD_eq_getElem?_getD, List.getElem?_eq_getElem (by rw [List.length_drop, Array.length_toList]; omega)]
        exact List.getElem_mem _
      · show flat (pieceL T p T.cps.size) = _
        rw [flat_pieceL T p _ (Nat.le_refl _), List.take_of_length_le (by rw [List.length_drop, Array.length_toList]; omega)]
        have := nl_plain _ g []
        rw [List.append_nil] at this
        rw [this]; simp [nl]
    · obtain ⟨h1, h2, h3, h4⟩ := part_at h (by omega)
      have hb : ∀ j, p ≤ j → j < p + u.length → isEnd (T.cps.getD j 0) = false := fun j q1 q2 => g1 _ (h3 j q1 q2)
      have hu : flat (pieceL T p (p + u.length)) = u := by
        rw [flat_pieceL T p _ (by omega), h, show p + u.length - p = u.length by omega]; simp
      have hc : c = 10 ∨ c = 13 := by simpa [isEnd] using g2
      by_cases hw : c = 13 ∧ ∃ v', v = 10 :: v'
      · obtain ⟨rfl, v', rfl⟩ := hw
        have hl := congrArg List.length h
        rw [List.length_drop, List.length_append, List.length_cons, List.length_cons, Array.length_toList] at hl
        obtain ⟨sp, s1, s2, s3⟩ := ih (k - u.length - 2) (by omega) (p + u.length + 2) (by omega)
        have h5 : T.cps.getD (p + u.length + 1) 0 = 10 := by
          rw [gd T.cps (p + u.length + 1) _ (Nat.le_refl _), h4]; simp
        refine ⟨(p + u.length, p + u.length + 2) :: sp, .cons (found2_crlf T.cps p _ (by omega) (by omega) h2 h5 hb) (by omega) s1, by rw [List.length_cons]; omega, ?_⟩
        show flat (pieceL T p (p + u.length) ++ [⟨#[13, 10]⟩] ++ piecesOf ⟨#[13, 10]⟩ T (p + u.length + 2) sp) = _
        rw [flat_append, flat_append, hu, s3, h, nl_plain u g1, show p + u.length + 2 = (p + u.length + 1) + 1 by omega, ← List.drop_drop, h4]
        simp [flat, nl]
      · have hl := congrArg List.length h
        rw [List.length_drop, List.length_append, List.length_cons, Array.length_toList] at hl
        obtain ⟨sp, s1, s2, s3⟩ := ih (k - u.length - 1) (by omega) (p + u.length + 1) (by omega)
        have hf : Fnd code2 T.cps p (p + u.length) (p + u.length + 1) := by
          rcases hc with rfl | rfl
          · exact found2_lf T.cps p _ (by omega) h1 h2 hb
          · refine found2_cr T.cps p _ (by omega) h1 h2 (fun hlt q => hw ⟨rfl, ?_⟩) hb
            rw [gd T.cps (p + u.length + 1) _ (Nat.le_refl _), h4] at q
            cases v with
            | nil => simp at q
            | cons d v' => exact ⟨v', by simp at q; rw [q]⟩
        refine ⟨(p + u.length, p + u.length + 1) :: sp, .cons hf (by omega) s1, by rw [List.length_cons]; omega, ?_⟩
        show flat (pieceL T p (p + u.length) ++ [⟨#[13, 10]⟩] ++ piecesOf ⟨#[13, 10]⟩ T (p + u.length + 1) sp) = _
        have hn : nl (c :: v) = [13, 10] ++ nl v := by
          conv => lhs; unfold nl
          split
          · rename_i e; cases e
          · rename_i e; cases e; exact absurd ⟨rfl, _, rfl⟩ hw
          · rename_i e; cases e; rw [g2]; rfl
        rw [flat_append, flat_append, hu, s3, h, nl_plain u g1, h4, hn]
        simp [flat]

theorem drop_at (t : Array Nat) (p : Nat) (h : p < t.size) : t.toList.drop p = t.getD p 0 :: t.toList.drop (p + 1) := by
  rw [List.drop_eq_getElem_cons (by rw [Array.length_toList]; exact h)]
  congr 1
  rw [Array.getD_eq_getD_getElem?, Array.getElem?_eq_getElem h]
  simp
theorem qd_at (t : Array Nat) (p : Nat) (h : p < t.size) : qd (lineAt t p) (t.toList.drop p) = (if dotAt t p then [46, 46] else [t.getD p 0]) ++ qd (lineAt t (p + 1)) (t.toList.drop (p + 1)) := by
  rw [drop_at t p h]
  show (if lineAt t p && t.getD p 0 == 46 then [46, 46] else [t.getD p 0]) ++ qd (t.getD p 0 == 10) (t.toList.drop (p + 1)) = _
  have : lineAt t (p + 1) = (t.getD p 0 == 10) := by
    unfold lineAt
    rw [show p + 1 - 1 = p by omega, show (p + 1 == 0) = false by simp, Bool.false_or]
  rw [this]; rfl
theorem qd_plain (t : Array Nat) (a : Nat) (ha : a ≤ t.size) : ∀ (k p : Nat), p + k = a → (∀ j, p ≤ j → j < a → dotAt t j = false) → qd (lineAt t p) (t.toList.drop p) = (t.toList.drop p).take k ++ qd (lineAt t a) (t.toList.drop a)
  | 0, p, hp, _ => by
    obtain rfl : p = a := by omega
    rfl
  | k + 1, p, hp, hb => by
    rw [qd_at t p (by omega), hb p (Nat.le_refl _) (by omega), qd_plain t a ha k (p + 1) (by omega) (fun j h1 h2 => hb j (by omega) h2)]
    conv => rhs; rw [drop_at t p (by omega)]
    rfl
theorem first_dot (t : Array Nat) : ∀ (k p : Nat), p + k = t.size → (∀ j, p ≤ j → j < t.size → dotAt t j = false) ∨ ∃ a, p ≤ a ∧ a < t.size ∧ dotAt t a = true ∧ ∀ j, p ≤ j → j < a → dotAt t j = false
  | 0, p, hp => .inl fun j h1 h2 => absurd h2 (by omega)
  | k + 1, p, hp => by
    cases hd : dotAt t p with
    | true => exact .inr ⟨p, Nat.le_refl _, by omega, hd, fun j h1 h2 => absurd h2 (by omega)⟩
    | false =>
      rcases first_dot t k (p + 1) (by omega) with g | ⟨a, g1, g2, g3, g4⟩
      · exact .inl fun j h1 h2 => by
          by_cases q : j = p
          · rw [q]; exact hd
          · exact g j (by omega) h2
      · exact .inr ⟨a, by omega, g2, g3, fun j h1 h2 => by
          by_cases q : j = p
          · rw [q]; exact hd
          · exact g4 j (by omega) h2⟩
theorem spans1 (T : Str) (ht : T.cps.size < 100000000) : ∀ (k p : Nat), p + k = T.cps.size → ∃ sp, Spans code1 T.cps p sp ∧ sp.length ≤ k ∧ flat (piecesOf ⟨#[46, 46]⟩ T p sp) = qd (lineAt T.cps p) (T.cps.toList.drop p) := by
  intro k
  induction k using Nat.strongRecOn with
  | ind k ih =>
    intro p hp
    rcases first_dot T.cps k p hp with g | ⟨a, h1, h2, h3, h4⟩
    · refine ⟨[], .nil (found1_none T.cps ht p (by omega) g), Nat.zero_le _, ?_⟩
      show flat (pieceL T p T.cps.size) = _
      rw [flat_pieceL T p _ (Nat.le_refl _), qd_plain T.cps T.cps.size (Nat.le_refl _) k p hp g, show T.cps.size - p = k by omega, List.drop_of_length_le (i := T.cps.size) (by rw [Array.length_toList]; exact Nat.le_refl _)]
      simp [qd]
    · obtain ⟨sp, s1, s2, s3⟩ := ih (T.cps.size - a - 1) (by omega) (a + 1) (by omega)
      refine ⟨(a, a + 1) :: sp, .cons (found1 T.cps ht p a h1 h2 h3 h4) (by omega) s1, by rw [List.length_cons]; omega, ?_⟩
      show flat (pieceL T p a ++ [⟨#[46, 46]⟩] ++ piecesOf ⟨#[46, 46]⟩ T (a + 1) sp) = _
      rw [flat_append, flat_append, flat_pieceL T p _ (by omega), s3, qd_plain T.cps a (by omega) (a - p) p (by omega) h4, qd_at T.cps a h2, h3]
      simp [flat]
theorem qd_len : ∀ (l : List Nat) (b : Bool), (qd b l).length ≤ 2 * l.length
  | [], _ => Nat.zero_le _
  | c :: l, b => by
    have := qd_len l (c == 10)
    show ((if b && c == 46 then [46, 46] else [c]) ++ qd (c == 10) l).length ≤ _
    rw [List.length_append, List.length_cons]
    split
    · simp only [List.length_cons, List.length_nil]; omega
    · simp only [List.length_cons, List.length_nil]; omega
theorem nl_len : ∀ (l : List Nat), (nl l).length ≤ 2 * l.length
  | [] => Nat.zero_le _
  | c :: l => by
    unfold nl
    split
    · rename_i e; cases e
    · rename_i l' e
      cases e
      have := nl_len l'
      simp only [List.length_cons]; omega
    · rename_i e
      cases e
      have := nl_len l
      rw [List.length_append, List.length_cons]
      split
      · simp only [List.length_cons, List.length_nil]; omega
      · simp only [List.length_cons, List.length_nil]; omega
/-- the two contracts -/
theorem sub2 (E : En) (bel : List (Code × Pos)) (P : Addr) (T : Str) (tt rt : Tok) (l : Addr) (hP : PatAt E.kt P code2) (hT : T.cps.size < 100000) :
    Ctr E bel (subCode P T tt ⟨#[13, 10]⟩ rt 0 0 l) [(l, listO [] 0)] (QSub ⟨(nl T.cps.toList).toArray⟩) := by
  obtain ⟨sp, s1, s2, s3⟩ := spans2 T T.cps.size 0 (by omega)
  rw [List.drop_zero] at s3
  have h := sub_loop E bel P code2 T tt ⟨#[13, 10]⟩ rt l hP (by omega) sp 0 0 [] 0 s1 (by simp; omega) (joinOk_flat _ ?_)
  · rw [join_flat] at h
    show Ctr E bel _ [(l, listO (strValues []) 0)] _
    rw [← s3]; exact h
  · show (flat (piecesOf _ T 0 sp)).length < _
    rw [s3]
    have := nl_len T.cps.toList
    have h2 : T.cps.toList.length = T.cps.size := Array.length_toList
    omega
theorem sub1 (E : En) (bel : List (Code × Pos)) (P : Addr) (T : Str) (tt rt : Tok) (l : Addr) (hP : PatAt E.kt P code1) (hT : T.cps.size < 400000) :
    Ctr E bel (subCode P T tt ⟨#[46, 46]⟩ rt 0 0 l) [(l, listO [] 0)] (QSub ⟨(qd true T.cps.toList).toArray⟩) := by
  obtain ⟨sp, s1, s2, s3⟩ := spans1 T (by omega) T.cps.size 0 (by omega)
  rw [List.drop_zero] at s3
  have h := sub_loop E bel P code1 T tt ⟨#[46, 46]⟩ rt l hP (by omega) sp 0 0 [] 0 s1 (by simp; omega) (joinOk_flat _ ?_)
  · rw [join_flat] at h
    show Ctr E bel _ [(l, listO (strValues []) 0)] _
    have e : lineAt T.cps 0 = true := rfl
    rw [← e, ← s3]; exact h
  · show (flat (piecesOf _ T 0 sp)).length < _
    rw [s3]
    have := qd_len T.cps.toList (lineAt T.cps 0)
    have h2 : T.cps.toList.length = T.cps.size := Array.length_toList
    omega
end Mine
end
noncomputable section
namespace Mine
open PySem PySem.W PySem.W.X PySem.Builtin PySem.Builtin.Str PySem.StrLaws

/-! ## counts -/
noncomputable def crlfs : List Nat → Nat
  | 13 :: 10 :: l => crlfs l + 1
  | _ :: l => crlfs l
  | [] => 0
theorem crlfs_cons {c : Nat} {l : List Nat} (h : ¬ (c = 13 ∧ ∃ v, l = 10 :: v)) : crlfs (c :: l) = crlfs l := by
  conv => lhs; unfold crlfs
  split
  · rename_i e; cases e; exact absurd ⟨rfl, _, rfl⟩ h
  · rename_i e; cases e; rfl
  · rename_i e; cases e
theorem at_crlf_iff (x : Str) (k : Nat) (v : List Nat) (h : x.cps.toList.drop k = 13 :: 10 :: v) : At x ⟨#[13, 10]⟩ x.length k := by
  have hl := congrArg List.length h
  rw [List.length_drop, List.length_cons, List.length_cons, Array.length_toList] at hl
  refine ⟨?_, ?_⟩
  · show k + 2 ≤ x.cps.size
    omega
  · rw [subAt_eq, h]; rfl
theorem crlfs_free (x : Str) : ∀ (n a : Nat), (∀ k, a ≤ k → k < a + n → ¬ At x ⟨#[13, 10]⟩ x.length k) → crlfs (x.cps.toList.drop a) = crlfs (x.cps.toList.drop (a + n))
  | 0, a, _ => rfl
  | n + 1, a, h => by
    have ih := crlfs_free x n (a + 1) (fun k h1 h2 => h k (by omega) (by omega))
    rw [show a + (n + 1) = a + 1 + n by omega, ← ih]
    by_cases hl : a < x.cps.toList.length
    · rw [List.drop_eq_getElem_cons hl]
      refine crlfs_cons ?_
      rintro ⟨h1, v, h2⟩
      refine h a (Nat.le_refl _) (by omega) (at_crlf_iff x a v ?_)
      rw [List.drop_eq_getElem_cons hl, h1, h2]
    · rw [List.drop_of_length_le (by omega), List.drop_of_length_le (by omega)]
theorem crlfs_chain (x : Str) : ∀ (cuts : List Nat) (a f : Nat), ChainG x ⟨#[13, 10]⟩ x.length a cuts f → (∀ k, f ≤ k → ¬ At x ⟨#[13, 10]⟩ x.length k) → cuts.length = crlfs (x.cps.toList.drop a)
  | [], a, f, h, hn => by
    have e : f = a := h
    subst e
    rw [crlfs_free x (x.cps.size) f (fun k h1 _ => hn k h1), List.drop_of_length_le (by rw [Array.length_toList]; omega)]; rfl
  | c :: r, a, f, h, hn => by
    obtain ⟨h1, h2, h3, h4⟩ := h
    have ih := crlfs_chain x r (c + 2) f h4 hn
    rw [List.length_cons, ih]
    obtain ⟨d, rfl⟩ := Nat.exists_eq_add_of_le h1
    rw [crlfs_free x d a (fun k q1 q2 => h3 k q1 q2)]
    obtain ⟨g1, g2⟩ := h2
    rw [subAt_eq] at g2
    have g1 : a + d + 2 ≤ x.cps.size := g1
    have g2 : (x.cps.toList.drop (a + d)).take 2 = [13, 10] := beq_iff_eq.mp g2
    have e1 : x.cps.toList.drop (a + d) = 13 :: 10 :: x.cps.toList.drop (a + d + 2) := by
      have := List.take_append_drop 2 (x.cps.toList.drop (a + d))
      rw [g2, List.drop_drop] at this
      exact this.symm
    rw [e1]; rfl
theorem occ_crlf (x : Str) : (occurrences x ⟨#[13, 10]⟩ 0 x.length (x.length + 1)).length = crlfs x.cps.toList := by
  obtain ⟨f, h1, h2⟩ := occ_tight x ⟨#[13, 10]⟩ (by decide)
  have := crlfs_chain x _ 0 f h1 h2
  rw [List.drop_zero] at this
  exact this

/-! ## words and rows -/
noncomputable def joinL (e : List Nat) : List (List Nat) → List Nat
  | [] => []
  | [w] => w
  | w :: v :: r => w ++ e ++ joinL e (v :: r)
noncomputable def strOf (w : List Nat) : Str := ⟨w.toArray⟩
theorem join_words (e : List Nat) : ∀ ws : List (List Nat), Txt.join (strOf e) (ws.map strOf) = strOf (joinL e ws) := by
  intro ws
  unfold Txt.join
  rw [StrLaws.glued_eq_join]
  induction ws with
  | nil => rfl
  | cons w ws ih =>
    cases ws with
    | nil => rfl
    | cons v r =>
      show strOf w ++ strOf e ++ Str.join (strOf e) ((v :: r).map strOf) = _
      rw [ih]
      show Str.mk ((w.toArray ++ e.toArray) ++ (joinL e (v :: r)).toArray) = Str.mk _
      congr 1
      apply Array.ext'
      simp [joinL]
noncomputable def Plain (w : List Nat) : Prop := w ≠ [] ∧ ∀ x ∈ w, isEnd x = false
theorem nl_join (e : List Nat) (he : e = [13] ∨ e = [10] ∨ e = [13, 10]) : ∀ ws : List (List Nat), (∀ w ∈ ws, Plain w) → nl (joinL e ws) = joinL [13, 10] ws
  | [], _ => rfl
  | [w], h => by
    have := nl_plain w (h w (.head _)).2 []
    rw [List.append_nil] at this
    show nl w = w
    rw [this]; simp [nl]
  | w :: v :: r, h => by
    have ih := nl_join e he (v :: r) (fun u hu => h u (.tail _ hu))
    show nl (w ++ e ++ joinL e (v :: r)) = w ++ [13, 10] ++ joinL [13, 10] (v :: r)
    rw [List.append_assoc, nl_plain w (h w (.head _)).2, ← ih, List.append_assoc]
    congr 1
    have hv := h v (.tail _ (.head _))
    obtain ⟨c, v', rfl⟩ : ∃ c v', v = c :: v' := by
      cases v with
      | nil => exact absurd rfl hv.1
      | cons c v' => exact ⟨c, v', rfl⟩
    have hc : c ≠ 10 := fun q => by have := hv.2 c (.head _); rw [q] at this; cases this
    have hj : ∃ t, joinL e ((c :: v') :: r) = c :: t := by
      cases r with
      | nil => exact ⟨_, rfl⟩
      | cons u r => exact ⟨_, rfl⟩
    obtain ⟨t, ht⟩ := hj
    rcases he with rfl | rfl | rfl
    · rw [ht]
      show nl (13 :: c :: t) = 13 :: 10 :: nl (c :: t)
      conv => lhs; unfold nl
      split
      · rename_i e; cases e
      · rename_i e; cases e; exact absurd rfl hc
      · rename_i e; cases e; rfl
    · rfl
    · rfl
/-- a row as quotedata sends it -/
noncomputable def sent (w : List Nat) : List Nat := match w with
  | 46 :: r => 46 :: 46 :: r
  | w => w
theorem qd_word : ∀ (w : List Nat), (∀ x ∈ w, isEnd x = false) → ∀ v, qd false (w ++ v) = w ++ qd false v
  | [], _, v => rfl
  | c :: w, h, v => by
    have hc := h c (.head _)
    have h10 : (c == 10) = false := by
      cases q : (c == 10) with
      | false => rfl
      | true => rw [beq_iff_eq.mp q] at hc; cases hc
    show [c] ++ qd (c == 10) (w ++ v) = _
    rw [h10, qd_word w (fun x hx => h x (.tail _ hx)) v]; rfl
theorem qd_row (w v : List Nat) (h : Plain w) : qd true (w ++ v) = sent w ++ qd false v := by
  obtain ⟨h1, h2⟩ := h
  cases w with
  | nil => exact absurd rfl h1
  | cons c w =>
    have hc := h2 c (.head _)
    have h10 : (c == 10) = false := by
      cases q : (c == 10) with
      | false => rfl
      | true => rw [beq_iff_eq.mp q] at hc; cases hc
    show (if c == 46 then [46, 46] else [c]) ++ qd (c == 10) (w ++ v) = _
    rw [h10, qd_word w (fun x hx => h2 x (.tail _ hx)) v]
    by_cases h46 : c = 46
    · subst h46; rfl
    · rw [if_neg (by simpa using h46)]
      have : sent (c :: w) = c :: w := by
        unfold sent
        split
        · rename_i e; cases e; exact absurd rfl h46
        · rfl
      rw [this]; rfl
theorem qd_join : ∀ ws : List (List Nat), (∀ w ∈ ws, Plain w) → qd true (joinL [13, 10] ws) = joinL [13, 10] (ws.map sent)
  | [], _ => rfl
  | [w], h => by
    have := qd_row w [] (h w (.head _))
    rw [List.append_nil] at this
    show qd true w = sent w
    rw [this]; simp [qd]
  | w :: v :: r, h => by
    have ih := qd_join (v :: r) (fun u hu => h u (.tail _ hu))
    show qd true (w ++ [13, 10] ++ joinL [13, 10] (v :: r)) = sent w ++ [13, 10] ++ joinL [13, 10] ((v :: r).map sent)
    rw [List.append_assoc, qd_row w _ (h w (.head _)), ← ih]
    simp [qd]
theorem crlfs_word : ∀ (w : List Nat), (∀ x ∈ w, isEnd x = false) → ∀ v, crlfs (w ++ v) = crlfs v
  | [], _, v => rfl
  | c :: w, h, v => by
    rw [List.cons_append, crlfs_cons, crlfs_word w (fun x hx => h x (.tail _ hx)) v]
    rintro ⟨h1, _⟩
    have := h c (.head _)
    rw [h1] at this; cases this
theorem sent_plain {w : List Nat} (h : Plain w) : Plain (sent w) := by
  obtain ⟨h1, h2⟩ := h
  unfold sent
  split
  · exact ⟨by simp, fun x hx => by
      rcases List.mem_cons.mp hx with rfl | hx
      · rfl
      · exact h2 x hx⟩
  · exact ⟨h1, h2⟩
theorem crlfs_join : ∀ ws : List (List Nat), (∀ w ∈ ws, Plain w) → crlfs (joinL [13, 10] ws) = ws.length - 1
  | [], _ => rfl
  | [w], h => by
    have := crlfs_word w (h w (.head _)).2 []
    rw [List.append_nil] at this
    show crlfs w = 0
    rw [this]; rfl
  | w :: v :: r, h => by
    have ih := crlfs_join (v :: r) (fun u hu => h u (.tail _ hu))
    show crlfs (w ++ [13, 10] ++ joinL [13, 10] (v :: r)) = _
    rw [List.append_assoc, crlfs_word w (h w (.head _)).2]
    show crlfs (joinL [13, 10] (v :: r)) + 1 = _
    rw [ih]
    simp
/-- quotedata on words -/
theorem quoted_words (e : List Nat) (he : e = [13] ∨ e = [10] ∨ e = [13, 10]) (ws : List (List Nat)) (h : ∀ w ∈ ws, Plain w) : (qd true (nl (joinL e ws))) = joinL [13, 10] (ws.map sent) := by
  rw [nl_join e he ws h, qd_join ws h]
theorem sent_words {ws : List (List Nat)} (h : ∀ w ∈ ws, Plain w) : ∀ w ∈ ws.map sent, Plain w := by
  intro w hw
  obtain ⟨v, hv, rfl⟩ := List.mem_map.mp hw
  exact sent_plain (h v hv)
theorem count_words (ws : List (List Nat)) (h : ∀ w ∈ ws, Plain w) : (occurrences (strOf (joinL [13, 10] ws)) ⟨#[13, 10]⟩ 0 (strOf (joinL [13, 10] ws)).length ((strOf (joinL [13, 10] ws)).length + 1)).length = ws.length - 1 := by
  rw [occ_crlf]
  exact crlfs_join ws h
end Mine
end
noncomputable section
namespace Mine
open PySem PySem.W PySem.W.X
open PySem.Sem (wp finPost)

theorem post_id {kt : KT} {rest : Array GenState × Drawn × OsState} {s : Shared} {pre : List (Addr × Obj)} {r : Result} (hr : (s.gens, s.drawn, s.os) = rest) (hp : ∀ x ∈ pre, s.heap.get? x.1 = some x.2) :
    Post kt rest pre s ⟨r, pre.map (·.2), [], s.heap.objs.size, s.toks⟩ s := post_same hr hp

/-! ## str.join -/
noncomputable def QJoin (X : Str) (ob : Obj) (o : Outc) : Prop := ∃ tt top tok, o = ⟨.ok (.ret (.str X tt)), [ob], [], top, tok⟩
theorem ctr_join (E : En) (bel : List (Code × Pos)) (e : Str) (t : Tok) (l : Addr) (xs : List (Str × Tok)) (ep : Nat) (hok : JoinOk e (xs.map (·.1)) = true) :
    Ctr E bel (.builtin "str.join" ⟨[.str e t, .ref l], []⟩) [(l, listO (strValues xs) ep)] (QJoin (Txt.join e (xs.map (·.1))) (listO (strValues xs) ep)) := by
  have hok' : Builtin.Str.tooLong (((xs.map (·.1)).toArray).foldl (· + ·.length + e.length) 0) = false := by
    unfold JoinOk at hok
    rw [Bool.not_eq_true'] at hok
    exact hok
  refine ctr_meets F.entry_str_join (meets_str_join_list e t l xs hok') ?_
  intro A R s rest hr _ hp _ hR
  have hl : s.heap.get? l = some (listO (strValues xs) ep) := hp _ (.head _)
  refine ⟨⟨_, hl, rfl, ep, rfl⟩, post_join xs ⟨joinFit_length hok', fun t' k => ?_⟩⟩
  exact hR ⟨_, _, _, _, _⟩ _ ⟨t', _, _, rfl⟩ (post_same (pre := [(l, listO (strValues xs) ep)]) hr hp)

/-! ## list == list, of plain items -/
noncomputable def EqG (x y : Value) (b : Bool) : Prop := ∀ (A : Around) (s : Shared), SeqAt.EqAt A s x y b
theorem EqG.str (a b : Str) (t u : Tok) : EqG (.str a t) (.str b u) (decide (a = b)) := fun A s prog w E Q h => wpAny_eqBool_str h
theorem EqG.int (a b : Int) (t u : Tok) : EqG (.int a t) (.int b u) (a == b) := fun A s prog w E Q h => wpAny_eqBool_int h
noncomputable def EqL : List Value → List Value → Prop
  | [], [] => True
  | x :: xs, y :: ys => EqG x y true ∧ EqL xs ys
  | _, _ => False
theorem EqL.length : ∀ {xs ys : List Value}, EqL xs ys → xs.length = ys.length
  | [], [], _ => rfl
  | _ :: _, _ :: _, h => by rw [List.length_cons, List.length_cons, h.2.length]
  | [], _ :: _, h => h.elim
  | _ :: _, [], h => h.elim
theorem EqL.at : ∀ {xs ys : List Value}, EqL xs ys → ∀ (j : Nat) (h1 : j < xs.length) (h2 : j < ys.length), EqG xs[j] ys[j] true
  | x :: xs, y :: ys, h, 0, _, _ => h.1
  | x :: xs, y :: ys, h, j + 1, h1, h2 => h.2.at j (by simpa using h1) (by simpa using h2)
noncomputable def QEq (v : Bool) (us : List Obj) (o : Outc) : Prop := ∃ top tok, o = ⟨.ok (.ret (.bool v)), us, [], top, tok⟩
theorem ctr_listEq (E : En) (bel : List (Code × Pos)) (l b : Addr) (xs ys : List Value) (ep ep' : Nat) (h : EqL xs ys) :
    Ctr E bel (.builtin "list.__eq__" ⟨[.ref l, .ref b], []⟩) [(l, listO xs ep), (b, listO ys ep')] (QEq true [listO xs ep, listO ys ep']) := by
  refine ctr_meets F.entry_list_eq (SeqAt.list_eqAt l b xs.toArray ys.toArray ep ep' none none #[] #[] (by simpa using h.length) (fun _ => true)) ?_
  intro A R s rest hr _ hp _ hR
  refine ⟨hp _ (.head _), hp _ (.tail _ (.head _)), fun j h1 h2 => ?_, ?_⟩
  · have := h.at j (by simpa using h1) (by simpa using h2) A.in1 s
    simpa using this
  · have e : (List.range xs.toArray.size).all (fun _ => true) = true := by simp
    rw [e]
    exact hR ⟨_, _, _, _, _⟩ _ ⟨_, _, rfl⟩ (post_id (pre := [(l, listO xs ep), (b, listO ys ep')]) hr hp)

/-! ## str.count -/
theorem gives_count (ws : List (List Nat)) (t u : Tok) (h : ∀ w ∈ ws, Plain w) :
    Gives (denote table (.builtin "str.count" ⟨[.str (strOf (joinL [13, 10] ws)) t, .str ⟨#[13, 10]⟩ u], []⟩)) (.int ((ws.length - 1 : Nat) : Int)) ∧ MadeOk (.int ((ws.length - 1 : Nat) : Int)) := by
  refine ⟨?_, trivial⟩
  rw [den_builtin F.entry_str_count]
  have := gives_str_count (strOf (joinL [13, 10] ws)) ⟨#[13, 10]⟩ t u
  rw [count_words ws h] at this
  exact this

/-! ## list += list -/
theorem wpAny_listItems {M : Model} {A : Around} {Er : Value → Shared → Prop} {s : Shared} {l : Addr} {xs : List Value} {ep : Nat} {Q : Array Value → Shared → Prop} (hl : s.heap.get? l = some (listO xs ep)) (h : Q xs.toArray s) :
    wpAny M A (Builtin.List.listItems (.ref l)) Q Er s := by
  unfold Builtin.List.listItems
  exact wpAny_bind (wpAny_seqItems hl rfl (wpAny_pure h))
noncomputable def QIadd (l : Addr) (xs ys : List Value) (ob : Obj) (o : Outc) : Prop := ∃ ep top tok, o = ⟨.ok (.ret (.ref l)), [listO (xs ++ ys) ep, ob], [], top, tok⟩
theorem ctr_iadd (E : En) (bel : List (Code × Pos)) (l b : Addr) (xs ys : List Value) (ep ep' : Nat) (hx : xs.length < 100000) (hy : ys.length < 100000) :
    Ctr E bel (.builtin "list.__iadd__" ⟨[.ref l, .ref b], []⟩) [(l, listO xs ep), (b, listO ys ep')] (QIadd l xs ys (listO ys ep')) := by
  refine ctr_body F.entry_list_iadd fun A s rest hh hk hp hn hkn hr => ?_
  have hl : s.heap.get? l = some (listO xs ep) := hp _ (.head _)
  have hb : s.heap.get? b = some (listO ys ep') := hp _ (.tail _ (.head _))
  have hne : l ≠ b := by simpa using hn
  show wpAny _ A (Builtin.List.listExtendWith (.ref l) (.ref b) (.ref l)) _ _ s
  unfold Builtin.List.listExtendWith
  refine wpAny_bind (wpAny_typeOf (T := "list") ⟨_, hb, rfl⟩ ?_)
  rw [if_pos (by simp)]
  refine wpAny_bind (wpAny_listItems hb ?_)
  refine wpAny_bind (wpAny_listItems hl ?_)
  have htl : Builtin.List.listTooLong (xs.toArray.size + ys.toArray.size) = false := by
    unfold Builtin.List.listTooLong
    have : sizeLine = 16777216 := rfl
    simp; omega
  rw [htl, Bool.and_false, if_neg (by decide)]
  show wpAny _ A (updateSeq l (· ++ ys.toArray) >>= _) _ _ s
  refine wpAny_bind (wpAny_updateSeq hl rfl ?_ (by rw [List.size_toArray]; have : sizeLine = 16777216 := rfl; omega) (by rw [Array.size_append, List.size_toArray, List.size_toArray]; have : sizeLine = 16777216 := rfl; omega))
  have hs := Heap.SameBut.update s.heap l (Obj.mapSeq (· ++ ys.toArray))
  obtain ⟨k, e⟩ : ∃ k, Obj.mapSeq (· ++ ys.toArray) (listO xs ep) = listO (xs ++ ys) k := by
    simp only [Obj.mapSeq, listO, List.append_toArray]
    exact ⟨_, rfl⟩
  have hl' : (s.heap.update l (Obj.mapSeq (· ++ ys.toArray))).get? l = some (listO (xs ++ ys) k) := by
    rw [← e]; exact Heap.get?_update_self _ hl rfl
  refine wpAny_pure ⟨⟨.ok (.ret (.ref l)), [listO (xs ++ ys) k, listO ys ep'], [], s.heap.objs.size, s.toks⟩, rfl, ⟨_, _, _, rfl⟩, ?_⟩
  have := post_mv (r := .ok (.ret (.ref l))) (s₁ := { s with heap := s.heap.update l (Obj.mapSeq (· ++ ys.toArray)) }) (pre := [(l, listO xs ep), (b, listO ys ep')]) (Mv.of_same hs (.head _) rfl) hr (kt := E.kt) (upd_two hl' ((hs.2 b (Ne.symm hne)).trans hb)) s.toks
  rw [Heap.size_update] at this
  exact this
end Mine
end
noncomputable section
namespace Mine
open PySem PySem.W PySem.W.X
open PySem.Sem (wp finPost)

/-- behind a call the heap is no smaller than the known objects -/
noncomputable def Top (Q : Outc → Prop) (o : Outc) : Prop := Q o ∧ 226 ≤ o.top
noncomputable def Far (kt : KT) : Prop := (kt.get 225).isSome = true
theorem Far.size {kt : KT} (h : Far kt) {s : Shared} (hk : ∀ a o, kt.get a = some o → s.heap.get? a = some o) : 226 ≤ s.heap.objs.size := by
  obtain ⟨o, ho⟩ := Option.isSome_iff_exists.mp h
  exact Heap.lt_size (hk _ _ ho)
theorem Ctr.far {E : En} {bel : List (Code × Pos)} {c : Code} {pre : List (Addr × Obj)} {Q : Outc → Prop} (h : Ctr E bel c pre Q) (hf : Far E.kt) : Ctr E bel c pre (Top Q) := by
  intro rest p s hk hp hn hkn hr
  refine wpCode_mono (fun r s' ⟨o, e, q, P⟩ => ⟨o, e, ⟨q, ?_⟩, P⟩) (h rest p s hk hp hn hkn hr)
  rw [← P.top]
  exact Nat.le_trans (hf.size hk) P.le
theorem ctr_introN (E : En) (hdn : denote table = E.dn) (hf : Far E.kt) (F : Nat) (bel : List (Code × Pos)) (c : Code) (pre : List (Addr × Obj)) (Q : Outc → Prop) (T : Nat → Nat → Pos → Tele)
    (h : ∀ N K p, (T N K p).All fun is Qs n hs => ∃ gs qs ans upd new top tok nl, Told (E.on bel) F (x0 E c p pre (N + 226) K) pre Q is Qs n hs gs qs ans upd new top tok nl) : Ctr E bel c pre Q := by
  intro rest p s hk hp hn hkn hr
  have hs := hf.size hk
  obtain ⟨N, hN⟩ : ∃ N, s.heap.objs.size = N + 226 := ⟨_, (Nat.sub_add_cancel hs).symm⟩
  have D := rp_start hk hp hn hkn hr
  rw [hN] at D
  exact (code_means (E.on bel) hdn _ (κ := [])).mpr (tell E hdn F bel pre Q rest s s (T N s.toks p) (x0 E c p pre (N + 226) s.toks) D (h N s.toks p))
theorem of226 {t : Nat} (h : 226 ≤ t) : ∃ k, t = k + 226 := ⟨_, (Nat.sub_add_cancel h).symm⟩
end Mine
end
noncomputable section
namespace Mine
open PySem PySem.W PySem.W.X PyProof.Rows
noncomputable abbrev pw : Program := PySem.Challenge.pw_rl0027_01
noncomputable def fTop (i : Nat) : Stmt := (pw.main.body[i]?).getD (.Pass ⟨0, 0, 0, 0⟩)
noncomputable def fCls (i j : Nat) : Stmt := match fTop i with
  | .ClassDef _ _ _ b _ _ _ _ _ _ _ => (b[j]?).getD (.Pass ⟨0, 0, 0, 0⟩)
  | _ => .Pass ⟨0, 0, 0, 0⟩
noncomputable def fParams : Stmt → Arguments
  | .FunctionDef _ a _ _ _ _ _ _ _ _ => a
  | _ => ⟨[], [], none, [], [], none, []⟩
noncomputable def fBody : Stmt → List Stmt
  | .FunctionDef _ _ b _ _ _ _ _ _ _ => b
  | _ => []
noncomputable def fScope : Stmt → Scope
  | .FunctionDef _ _ _ _ _ _ s _ _ _ => s
  | _ => default
noncomputable def eD (P : Params) (k : Str) (t : Tok) (v : Value) : DictEntry := ⟨PyData.keyHash P k, .str k t, v⟩
noncomputable def fnD (f : Stmt) (name qual : Str) (g : Addr) (cl : List (Str × Addr)) (d kd doc pm : Value) (an : Option Addr) (cd ct : Value) (b : Addr) : FuncData :=
  { name, qualname := qual, params := fParams f, body := .stmts (fBody f), scope := fScope f, globals := g, closure := cl, defaults := d, kwdefaults := kd, doc, pyModule := pm, annotations := an, code := cd, closureTuple := ct, builtins := b }
noncomputable def ko0 (P : Params) : Obj := ⟨(.type "dict"), none, (.dict #[eD P ⟨#[95,95,110,97,109,101,95,95]⟩ 1 (.str ⟨#[98,117,105,108,116,105,110,115]⟩ 160), eD P ⟨#[95,95,100,111,99,95,95]⟩ 2 (.builtin "builtins.__doc__:str#opaque"), eD P ⟨#[95,95,112,97,99,107,97,103,101,95,95]⟩ 3 (.builtin "builtins.__package__:str#opaque"), eD P ⟨#[95,95,108,111,97,100,101,114,95,95]⟩ 4 (.builtin "builtins.__loader__:shared#opaque"), eD P ⟨#[95,95,115,112,101,99,95,95]⟩ 5 (.builtin "builtins.__spec__#opaque"), eD P ⟨#[95,95,98,117,105,108,100,95,99,108,97,115,115,95,95]⟩ 6 (.builtin "__build_class__"), eD P ⟨#[95,95,105,109,112,111,114,116,95,95]⟩ 7 (.builtin "__import__"), eD P ⟨#[97,98,115]⟩ 8 (.builtin "abs"), eD P ⟨#[97,108,108]⟩ 9 (.builtin "all"), eD P ⟨#[97,110,121]⟩ 10 (.builtin "any"), eD P ⟨#[97,115,99,105,105]⟩ 11 (.builtin "ascii"), eD P ⟨#[98,105,110]⟩ 12 (.builtin "bin"), eD P ⟨#[98,114,101,97,107,112,111,105,110,116]⟩ 13 (.builtin "breakpoint"), eD P ⟨#[99,97,108,108,97,98,108,101]⟩ 14 (.builtin "callable"), eD P ⟨#[99,104,114]⟩ 15 (.builtin "chr"), eD P ⟨#[99,111,109,112,105,108,101]⟩ 16 (.builtin "compile"), eD P ⟨#[100,101,108,97,116,116,114]⟩ 17 (.builtin "delattr"), eD P ⟨#[100,105,114]⟩ 18 (.builtin "dir"), eD P ⟨#[100,105,118,109,111,100]⟩ 19 (.builtin "divmod"), eD P ⟨#[101,118,97,108]⟩ 20 (.builtin "eval"), eD P ⟨#[101,120,101,99]⟩ 21 (.builtin "exec"), eD P ⟨#[102,111,114,109,97,116]⟩ 22 (.builtin "format"), eD P ⟨#[103,101,116,97,116,116,114]⟩ 23 (.builtin "getattr"), eD P ⟨#[103,108,111,98,97,108,115]⟩ 24 (.builtin "globals"), eD P ⟨#[104,97,115,97,116,116,114]⟩ 25 (.builtin "hasattr"), eD P ⟨#[104,97,115,104]⟩ 26 (.builtin "hash"), eD P ⟨#[104,101,120]⟩ 27 (.builtin "hex"), eD P ⟨#[105,100]⟩ 28 (.builtin "id"), eD P ⟨#[105,110,112,117,116]⟩ 29 (.builtin "input"), eD P ⟨#[105,115,105,110,115,116,97,110,99,101]⟩ 30 (.builtin "isinstance"), eD P ⟨#[105,115,115,117,98,99,108,97,115,115]⟩ 31 (.builtin "issubclass"), eD P ⟨#[105,116,101,114]⟩ 32 (.builtin "iter"), eD P ⟨#[97,105,116,101,114]⟩ 33 (.builtin "aiter"), eD P ⟨#[108,101,110]⟩ 34 (.builtin "len"), eD P ⟨#[108,111,99,97,108,115]⟩ 35 (.builtin "locals"), eD P ⟨#[109,97,120]⟩ 36 (.builtin "max"), eD P ⟨#[109,105,110]⟩ 37 (.builtin "min"), eD P ⟨#[110,101,120,116]⟩ 38 (.builtin "next"), eD P ⟨#[97,110,101,120,116]⟩ 39 (.builtin "anext"), eD P ⟨#[111,99,116]⟩ 40 (.builtin "oct"), eD P ⟨#[111,114,100]⟩ 41 (.builtin "ord"), eD P ⟨#[112,111,119]⟩ 42 (.builtin "pow"), eD P ⟨#[112,114,105,110,116]⟩ 43 (.builtin "print"), eD P ⟨#[114,101,112,114]⟩ 44 (.builtin "repr"), eD P ⟨#[114,111,117,110,100]⟩ 45 (.builtin "round"), eD P ⟨#[115,101,116,97,116,116,114]⟩ 46 (.builtin "setattr"), eD P ⟨#[115,111,114,116,101,100]⟩ 47 (.builtin "sorted"), eD P ⟨#[115,117,109]⟩ 48 (.builtin "sum"), eD P ⟨#[118,97,114,115]⟩ 49 (.builtin "vars"), eD P ⟨#[78,111,110,101]⟩ 50 .none, eD P ⟨#[69,108,108,105,112,115,105,115]⟩ 51 .ellipsis, eD P ⟨#[78,111,116,73,109,112,108,101,109,101,110,116,101,100]⟩ 52 .notImplemented, eD P ⟨#[70,97,108,115,101]⟩ 53 (.bool false), eD P ⟨#[84,114,117,101]⟩ 54 (.bool true), eD P ⟨#[98,111,111,108]⟩ 55 (.type "bool"), eD P ⟨#[109,101,109,111,114,121,118,105,101,119]⟩ 56 (.type "memoryview"), eD P ⟨#[98,121,116,101,97,114,114,97,121]⟩ 57 (.type "bytearray"), eD P ⟨#[98,121,116,101,115]⟩ 58 (.type "bytes"), eD P ⟨#[99,108,97,115,115,109,101,116,104,111,100]⟩ 59 (.type "classmethod"), eD P ⟨#[99,111,109,112,108,101,120]⟩ 60 (.type "complex"), eD P ⟨#[100,105,99,116]⟩ 61 (.type "dict"), eD P ⟨#[101,110,117,109,101,114,97,116,101]⟩ 62 (.type "enumerate"), eD P ⟨#[102,105,108,116,101,114]⟩ 63 (.type "filter"), eD P ⟨#[102,108,111,97,116]⟩ 64 (.type "float"), eD P ⟨#[102,114,111,122,101,110,115,101,116]⟩ 65 (.type "frozenset"), eD P ⟨#[112,114,111,112,101,114,116,121]⟩ 66 (.type "property"), eD P ⟨#[105,110,116]⟩ 67 (.type "int"), eD P ⟨#[108,105,115,116]⟩ 68 (.type "list"), eD P ⟨#[109,97,112]⟩ 69 (.type "map"), eD P ⟨#[111,98,106,101,99,116]⟩ 70 (.type "object"), eD P ⟨#[114,97,110,103,101]⟩ 71 (.type "range"), eD P ⟨#[114,101,118,101,114,115,101,100]⟩ 72 (.type "reversed"), eD P ⟨#[115,101,116]⟩ 73 (.type "set"), eD P ⟨#[115,108,105,99,101]⟩ 74 (.type "slice"), eD P ⟨#[115,116,97,116,105,99,109,101,116,104,111,100]⟩ 75 (.type "staticmethod"), eD P ⟨#[115,116,114]⟩ 76 (.type "str"), eD P ⟨#[115,117,112,101,114]⟩ 77 (.type "super"), eD P ⟨#[116,117,112,108,101]⟩ 78 (.type "tuple"), eD P ⟨#[116,121,112,101]⟩ 79 (.type "type"), eD P ⟨#[122,105,112]⟩ 80 (.type "zip"), eD P ⟨#[95,95,100,101,98,117,103,95,95]⟩ 81 (.bool true), eD P ⟨#[66,97,115,101,69,120,99,101,112,116,105,111,110]⟩ 82 (.type "BaseException"), eD P ⟨#[66,97,115,101,69,120,99,101,112,116,105,111,110,71,114,111,117,112]⟩ 83 (.type "BaseExceptionGroup"), eD P ⟨#[69,120,99,101,112,116,105,111,110]⟩ 84 (.type "Exception"), eD P ⟨#[71,101,110,101,114,97,116,111,114,69,120,105,116]⟩ 85 (.type "GeneratorExit"), eD P ⟨#[75,101,121,98,111,97,114,100,73,110,116,101,114,114,117,112,116]⟩ 86 (.type "KeyboardInterrupt"), eD P ⟨#[83,121,115,116,101,109,69,120,105,116]⟩ 87 (.type "SystemExit"), eD P ⟨#[65,114,105,116,104,109,101,116,105,99,69,114,114,111,114]⟩ 88 (.type "ArithmeticError"), eD P ⟨#[65,115,115,101,114,116,105,111,110,69,114,114,111,114]⟩ 89 (.type "AssertionError"), eD P ⟨#[65,116,116,114,105,98,117,116,101,69,114,114,111,114]⟩ 90 (.type "AttributeError"), eD P ⟨#[66,117,102,102,101,114,69,114,114,111,114]⟩ 91 (.type "BufferError"), eD P ⟨#[69,79,70,69,114,114,111,114]⟩ 92 (.type "EOFError"), eD P ⟨#[73,109,112,111,114,116,69,114,114,111,114]⟩ 93 (.type "ImportError"), eD P ⟨#[76,111,111,107,117,112,69,114,114,111,114]⟩ 94 (.type "LookupError"), eD P ⟨#[77,101,109,111,114,121,69,114,114,111,114]⟩ 95 (.type "MemoryError"), eD P ⟨#[78,97,109,101,69,114,114,111,114]⟩ 96 (.type "NameError"), eD P ⟨#[79,83,69,114,114,111,114]⟩ 97 (.type "OSError"), eD P ⟨#[82,101,102,101,114,101,110,99,101,69,114,114,111,114]⟩ 98 (.type "ReferenceError"), eD P ⟨#[82,117,110,116,105,109,101,69,114,114,111,114]⟩ 99 (.type "RuntimeError"), eD P ⟨#[83,116,111,112,65,115,121,110,99,73,116,101,114,97,116,105,111,110]⟩ 100 (.type "StopAsyncIteration"), eD P ⟨#[83,116,111,112,73,116,101,114,97,116,105,111,110]⟩ 101 (.type "StopIteration"), eD P ⟨#[83,121,110,116,97,120,69,114,114,111,114]⟩ 102 (.type "SyntaxError"), eD P ⟨#[83,121,115,116,101,109,69,114,114,111,114]⟩ 103 (.type "SystemError"), eD P ⟨#[84,121,112,101,69,114,114,111,114]⟩ 104 (.type "TypeError"), eD P ⟨#[86,97,108,117,101,69,114,114,111,114]⟩ 105 (.type "ValueError"), eD P ⟨#[87,97,114,110,105,110,103]⟩ 106 (.type "Warning"), eD P ⟨#[70,108,111,97,116,105,110,103,80,111,105,110,116,69,114,114,111,114]⟩ 107 (.type "FloatingPointError"), eD P ⟨#[79,118,101,114,102,108,111,119,69,114,114,111,114]⟩ 108 (.type "OverflowError"), eD P ⟨#[90,101,114,111,68,105,118,105,115,105,111,110,69,114,114,111,114]⟩ 109 (.type "ZeroDivisionError"), eD P ⟨#[66,121,116,101,115,87,97,114,110,105,110,103]⟩ 110 (.type "BytesWarning"), eD P ⟨#[68,101,112,114,101,99,97,116,105,111,110,87,97,114,110,105,110,103]⟩ 111 (.type "DeprecationWarning"), eD P ⟨#[69,110,99,111,100,105,110,103,87,97,114,110,105,110,103]⟩ 112 (.type "EncodingWarning"), eD P ⟨#[70,117,116,117,114,101,87,97,114,110,105,110,103]⟩ 113 (.type "FutureWarning"), eD P ⟨#[73,109,112,111,114,116,87,97,114,110,105,110,103]⟩ 114 (.type "ImportWarning"), eD P ⟨#[80,101,110,100,105,110,103,68,101,112,114,101,99,97,116,105,111,110,87,97,114,110,105,110,103]⟩ 115 (.type "PendingDeprecationWarning"), eD P ⟨#[82,101,115,111,117,114,99,101,87,97,114,110,105,110,103]⟩ 116 (.type "ResourceWarning"), eD P ⟨#[82,117,110,116,105,109,101,87,97,114,110,105,110,103]⟩ 117 (.type "RuntimeWarning"), eD P ⟨#[83,121,110,116,97,120,87,97,114,110,105,110,103]⟩ 118 (.type "SyntaxWarning"), eD P ⟨#[85,110,105,99,111,100,101,87,97,114,110,105,110,103]⟩ 119 (.type "UnicodeWarning"), eD P ⟨#[85,115,101,114,87,97,114,110,105,110,103]⟩ 120 (.type "UserWarning"), eD P ⟨#[66,108,111,99,107,105,110,103,73,79,69,114,114,111,114]⟩ 121 (.type "BlockingIOError"), eD P ⟨#[67,104,105,108,100,80,114,111,99,101,115,115,69,114,114,111,114]⟩ 122 (.type "ChildProcessError"), eD P ⟨#[67,111,110,110,101,99,116,105,111,110,69,114,114,111,114]⟩ 123 (.type "ConnectionError"), eD P ⟨#[70,105,108,101,69,120,105,115,116,115,69,114,114,111,114]⟩ 124 (.type "FileExistsError"), eD P ⟨#[70,105,108,101,78,111,116,70,111,117,110,100,69,114,114,111,114]⟩ 125 (.type "FileNotFoundError"), eD P ⟨#[73,110,116,101,114,114,117,112,116,101,100,69,114,114,111,114]⟩ 126 (.type "InterruptedError"), eD P ⟨#[73,115,65,68,105,114,101,99,116,111,114,121,69,114,114,111,114]⟩ 127 (.type "IsADirectoryError"), eD P ⟨#[78,111,116,65,68,105,114,101,99,116,111,114,121,69,114,114,111,114]⟩ 128 (.type "NotADirectoryError"), eD P ⟨#[80,101,114,109,105,115,115,105,111,110,69,114,114,111,114]⟩ 129 (.type "PermissionError"), eD P ⟨#[80,114,111,99,101,115,115,76,111,111,107,117,112,69,114,114,111,114]⟩ 130 (.type "ProcessLookupError"), eD P ⟨#[84,105,109,101,111,117,116,69,114,114,111,114]⟩ 131 (.type "TimeoutError"), eD P ⟨#[73,110,100,101,110,116,97,116,105,111,110,69,114,114,111,114]⟩ 132 (.type "IndentationError"), eD P ⟨#[95,73,110,99,111,109,112,108,101,116,101,73,110,112,117,116,69,114,114,111,114]⟩ 133 (.type "_IncompleteInputError"), eD P ⟨#[73,110,100,101,120,69,114,114,111,114]⟩ 134 (.type "IndexError"), eD P ⟨#[75,101,121,69,114,114,111,114]⟩ 135 (.type "KeyError"), eD P ⟨#[77,111,100,117,108,101,78,111,116,70,111,117,110,100,69,114,114,111,114]⟩ 136 (.type "ModuleNotFoundError"), eD P ⟨#[78,111,116,73,109,112,108,101,109,101,110,116,101,100,69,114,114,111,114]⟩ 137 (.type "NotImplementedError"), eD P ⟨#[80,121,116,104,111,110,70,105,110,97,108,105,122,97,116,105,111,110,69,114,114,111,114]⟩ 138 (.type "PythonFinalizationError"), eD P ⟨#[82,101,99,117,114,115,105,111,110,69,114,114,111,114]⟩ 139 (.type "RecursionError"), eD P ⟨#[85,110,98,111,117,110,100,76,111,99,97,108,69,114,114,111,114]⟩ 140 (.type "UnboundLocalError"), eD P ⟨#[85,110,105,99,111,100,101,69,114,114,111,114]⟩ 141 (.type "UnicodeError"), eD P ⟨#[66,114,111,107,101,110,80,105,112,101,69,114,114,111,114]⟩ 142 (.type "BrokenPipeError"), eD P ⟨#[67,111,110,110,101,99,116,105,111,110,65,98,111,114,116,101,100,69,114,114,111,114]⟩ 143 (.type "ConnectionAbortedError"), eD P ⟨#[67,111,110,110,101,99,116,105,111,110,82,101,102,117,115,101,100,69,114,114,111,114]⟩ 144 (.type "ConnectionRefusedError"), eD P ⟨#[67,111,110,110,101,99,116,105,111,110,82,101,115,101,116,69,114,114,111,114]⟩ 145 (.type "ConnectionResetError"), eD P ⟨#[84,97,98,69,114,114,111,114]⟩ 146 (.type "TabError"), eD P ⟨#[85,110,105,99,111,100,101,68,101,99,111,100,101,69,114,114,111,114]⟩ 147 (.type "UnicodeDecodeError"), eD P ⟨#[85,110,105,99,111,100,101,69,110,99,111,100,101,69,114,114,111,114]⟩ 148 (.type "UnicodeEncodeError"), eD P ⟨#[85,110,105,99,111,100,101,84,114,97,110,115,108,97,116,101,69,114,114,111,114]⟩ 149 (.type "UnicodeTranslateError"), eD P ⟨#[69,120,99,101,112,116,105,111,110,71,114,111,117,112]⟩ 150 (.type "ExceptionGroup"), eD P ⟨#[69,110,118,105,114,111,110,109,101,110,116,69,114,114,111,114]⟩ 151 (.type "OSError"), eD P ⟨#[73,79,69,114,114,111,114]⟩ 152 (.type "OSError"), eD P ⟨#[111,112,101,110]⟩ 153 (.builtin "open"), eD P ⟨#[113,117,105,116]⟩ 154 (.builtin "builtins.quit#opaque"), eD P ⟨#[101,120,105,116]⟩ 155 (.builtin "builtins.exit#opaque"), eD P ⟨#[99,111,112,121,114,105,103,104,116]⟩ 156 (.builtin "builtins.copyright#opaque"), eD P ⟨#[99,114,101,100,105,116,115]⟩ 157 (.builtin "builtins.credits#opaque"), eD P ⟨#[108,105,99,101,110,115,101]⟩ 158 (.builtin "builtins.license#opaque"), eD P ⟨#[104,101,108,112]⟩ 159 (.builtin "builtins.help#opaque")] 159), #[]⟩
noncomputable def ko2 (P : Params) : Obj := ⟨.none, none, (.dict #[eD P ⟨#[105,109,112,111,114,116,46,108,111,97,100,101,100,46,95,115,114,101]⟩ 183 (.bool true), eD P ⟨#[99,108,97,115,115,46,95,102,114,111,122,101,110,95,105,109,112,111,114,116,108,105,98,46,66,117,105,108,116,105,110,73,109,112,111,114,116,101,114]⟩ 185 (.ref 14), eD P ⟨#[119,97,116,99,104,101,100,46,105,109,112,111,114,116]⟩ 206 (.ref 18), eD P ⟨#[99,108,97,115,115,46,95,102,114,111,122,101,110,95,105,109,112,111,114,116,108,105,98,46,77,111,100,117,108,101,83,112,101,99]⟩ 216 (.ref 22), eD P ⟨#[115,121,115,46,109,111,100,117,108,101,115,46,98,111,111,107,101,100,45,101,112,111,99,104]⟩ 245 (.int (3) 0), eD P ⟨#[105,109,112,111,114,116,46,108,97,116,101,114,45,108,97,105,100,46,95,115,114,101]⟩ 270 (.bool true), eD P ⟨#[119,97,116,99,104,101,100,46,108,105,98,114,97,114,121]⟩ 272 (.ref 27), eD P ⟨#[119,97,116,99,104,101,100,46,108,105,98,114,97,114,121,45,111,98,106,101,99,116,115]⟩ 0 (.str ⟨#[12]⟩ 0), eD P ⟨#[119,97,116,99,104,101,100,46,108,105,98,114,97,114,121,45,100,101,101,112,46,95,115,114,101]⟩ 273 (.str ⟨#[4,0,0,11,4,0,0,11,4,0,0,3,4,0,0,11,8,4,100,105,99,116,2]⟩ 0)] 9), #[]⟩
noncomputable def ko3 (P : Params) : Obj := ⟨(.type "dict"), none, (.dict #[eD P ⟨#[95,95,110,97,109,101,95,95]⟩ 165 (.str ⟨#[108,97,119,95,114,108,48,48,50,55,95,48,49]⟩ 518), eD P ⟨#[95,95,100,111,99,95,95]⟩ 166 .none, eD P ⟨#[95,95,112,97,99,107,97,103,101,95,95]⟩ 167 .none, eD P ⟨#[95,95,108,111,97,100,101,114,95,95]⟩ 168 (.builtin "__main__.__loader__#opaque"), eD P ⟨#[95,95,115,112,101,99,95,95]⟩ 169 .none, eD P ⟨#[95,95,97,110,110,111,116,97,116,105,111,110,115,95,95]⟩ 170 (.ref 6), eD P ⟨#[95,95,98,117,105,108,116,105,110,115,95,95]⟩ 171 (.ref 4), eD P ⟨#[95,95,102,105,108,101,95,95]⟩ 173 (.str ⟨#[47,99,108,97,105,109,47,99,117,116,46,112,121]⟩ 172), eD P ⟨#[95,95,99,97,99,104,101,100,95,95]⟩ 174 .none, eD P ⟨#[95,115,114,101]⟩ 275 (.ref 12), eD P ⟨#[95,119,97,108,108]⟩ 288 (.ref 38), eD P ⟨#[95,116,119,105,110,95,114,101,95,49]⟩ 306 (.ref 43), eD P ⟨#[95,116,119,105,110,95,114,101,95,50]⟩ 348 (.ref 48), eD P ⟨#[67,82,76,70]⟩ 350 (.str ⟨#[13,10]⟩ 349), eD P ⟨#[113,117,111,116,101,100,97,116,97]⟩ 357 (.ref 55), eD P ⟨#[69,77,80,84,89,83,84,82,73,78,71]⟩ 361 (.str ⟨#[]⟩ 360), eD P ⟨#[95,65,99,99,117,109,117,108,97,116,111,114]⟩ 457 (.ref 135), eD P ⟨#[95,110,101,116,114,99,108,101,120]⟩ 517 (.ref 177), eD P ⟨#[95,108,97,119,95,115,116,114,101,97,109]⟩ 528 (.ref 188), eD P ⟨#[95,108,97,119,95,116,105,99,107]⟩ 534 (.ref 193), eD P ⟨#[95,108,97,119,95,119,97,121,115]⟩ 540 (.ref 198), eD P ⟨#[95,108,97,119,95,115,117,109,115]⟩ 546 (.ref 203), eD P ⟨#[108,97,119]⟩ 552 (.ref 208)] 23), #[]⟩
noncomputable def ko4 (P : Params) : Obj := ⟨(.type "module"), (some 0), .plain, #[]⟩
noncomputable def ko42 (P : Params) : Obj := ⟨(.type "tuple"), none, (.seq #[(.int (14) 0), (.int (4) 0), (.int (0) 0), (.int (1) 0), (.int (1) 0), (.int (6) 0), (.int (1) 0), (.int (16) 0), (.int (46) 0), (.int (1) 0)] 0), #[]⟩
noncomputable def ko43 (P : Params) : Obj := ⟨(.type "re.Pattern"), none, (.fields #[(.str ⟨#[40,63,109,41,94,92,46]⟩ 292), (.int (40) 305), (.int (0) 0), .none, .none, (.ref 42), (.int (0) 0)]), #[]⟩
noncomputable def ko47 (P : Params) : Obj := ⟨(.type "tuple"), none, (.seq #[(.int (14) 0), (.int (9) 0), (.int (4) 0), (.int (1) 0), (.int (2) 0), (.int (16) 0), (.int (10) 0), (.int (16) 0), (.int (13) 0), (.int (0) 0), (.int (7) 0), (.int (7) 0), (.int (16) 0), (.int (13) 0), (.int (16) 0), (.int (10) 0), (.int (15) 0), (.int (18) 0), (.int (5) 0), (.int (16) 0), (.int (10) 0), (.int (15) 0), (.int (13) 0), (.int (11) 0), (.int (16) 0), (.int (13) 0), (.int (5) 0), (.int (5) 0), (.int (0) 0), (.int (16) 0), (.int (10) 0), (.int (1) 0), (.int (15) 0), (.int (2) 0), (.int (0) 0), (.int (1) 0)] 0), #[]⟩
noncomputable def ko48 (P : Params) : Obj := ⟨(.type "re.Pattern"), none, (.fields #[(.str ⟨#[40,63,58,92,114,92,110,124,92,110,124,92,114,40,63,33,92,110,41,41]⟩ 308), (.int (32) 347), (.int (0) 0), .none, .none, (.ref 47), (.int (0) 0)]), #[]⟩
noncomputable def ko54 (P : Params) : Obj := ⟨(.type "code"), none, (.fields #[(.str ⟨#[113,117,111,116,101,100,97,116,97]⟩ 351), (.str ⟨#[113,117,111,116,101,100,97,116,97]⟩ 352), (.str ⟨#[47,99,108,97,105,109,47,99,117,116,46,112,121]⟩ 353), (.int (9) 0), (.int (1) 0), (.int (0) 0), (.int (0) 0), (.int (3) 0), (.ref 49), (.bool true), (.int (276) 0), (.ref 50), .none, (.ref 51), (.ref 52), (.ref 53), (.int (355) 0), (.int (9) 0), (.str ⟨#[47,99,108,97,105,109,47,99,117,116,46,112,121]⟩ 356)]), #[]⟩
noncomputable def ko55 (P : Params) : Obj := ⟨(.type "function"), none, (.func (fnD (fTop 6) ⟨#[113,117,111,116,101,100,97,116,97]⟩ ⟨#[113,117,111,116,101,100,97,116,97]⟩ 3 [] .none .none .none (.str ⟨#[99,112,121,51,49,51,46,115,109,116,112,108,105,98]⟩ 289) none (.ref 54) .none 0)), #[]⟩
noncomputable def ko59 (P : Params) : Obj := ⟨(.type "cell"), none, (.cell (some (.ref 135))), #[]⟩
noncomputable def ko64 (P : Params) : Obj := ⟨(.type "tuple"), none, (.seq #[(.int (0) 374)] 0), #[]⟩
noncomputable def ko71 (P : Params) : Obj := ⟨(.type "code"), none, (.fields #[(.str ⟨#[95,95,105,110,105,116,95,95]⟩ 375), (.str ⟨#[95,65,99,99,117,109,117,108,97,116,111,114,46,95,95,105,110,105,116,95,95]⟩ 376), (.str ⟨#[47,99,108,97,105,109,47,99,117,116,46,112,121]⟩ 377), (.int (15) 0), (.int (2) 0), (.int (0) 0), (.int (0) 0), (.int (3) 0), (.ref 66), (.bool true), (.int (276) 0), (.ref 67), .none, (.ref 68), (.ref 69), (.ref 70), (.int (381) 0), (.int (15) 0), (.str ⟨#[47,99,108,97,105,109,47,99,117,116,46,112,121]⟩ 382)]), #[]⟩
noncomputable def ko72 (P : Params) : Obj := ⟨(.type "function"), none, (.func (fnD (fCls 9 0) ⟨#[95,95,105,110,105,116,95,95]⟩ ⟨#[95,65,99,99,117,109,117,108,97,116,111,114,46,95,95,105,110,105,116,95,95]⟩ 3 [(⟨#[95,95,99,108,97,115,115,95,95]⟩, 59)] (.ref 64) .none .none (.str ⟨#[99,112,121,51,49,51,46,101,109,97,105,108,46,104,101,97,100,101,114]⟩ 358) none (.ref 71) (.ref 65) 0)), #[]⟩
noncomputable def ko78 (P : Params) : Obj := ⟨(.type "code"), none, (.fields #[(.str ⟨#[112,117,115,104]⟩ 384), (.str ⟨#[95,65,99,99,117,109,117,108,97,116,111,114,46,112,117,115,104]⟩ 385), (.str ⟨#[47,99,108,97,105,109,47,99,117,116,46,112,121]⟩ 386), (.int (19) 0), (.int (3) 0), (.int (0) 0), (.int (0) 0), (.int (3) 0), (.ref 73), (.bool true), (.int (276) 0), (.ref 74), .none, (.ref 75), (.ref 76), (.ref 77), (.int (390) 0), (.int (19) 0), (.str ⟨#[47,99,108,97,105,109,47,99,117,116,46,112,121]⟩ 391)]), #[]⟩
noncomputable def ko79 (P : Params) : Obj := ⟨(.type "function"), none, (.func (fnD (fCls 9 1) ⟨#[112,117,115,104]⟩ ⟨#[95,65,99,99,117,109,117,108,97,116,111,114,46,112,117,115,104]⟩ 3 [] .none .none .none (.str ⟨#[99,112,121,51,49,51,46,101,109,97,105,108,46,104,101,97,100,101,114]⟩ 358) none (.ref 78) .none 0)), #[]⟩
noncomputable def ko80 (P : Params) : Obj := ⟨(.type "tuple"), none, (.seq #[(.int (0) 393)] 0), #[]⟩
noncomputable def ko86 (P : Params) : Obj := ⟨(.type "code"), none, (.fields #[(.str ⟨#[112,111,112,95,102,114,111,109]⟩ 394), (.str ⟨#[95,65,99,99,117,109,117,108,97,116,111,114,46,112,111,112,95,102,114,111,109]⟩ 395), (.str ⟨#[47,99,108,97,105,109,47,99,117,116,46,112,121]⟩ 396), (.int (22) 0), (.int (2) 0), (.int (0) 0), (.int (0) 0), (.int (3) 0), (.ref 81), (.bool true), (.int (276) 0), (.ref 82), .none, (.ref 83), (.ref 84), (.ref 85), (.int (400) 0), (.int (22) 0), (.str ⟨#[47,99,108,97,105,109,47,99,117,116,46,112,121]⟩ 401)]), #[]⟩
noncomputable def ko87 (P : Params) : Obj := ⟨(.type "function"), none, (.func (fnD (fCls 9 2) ⟨#[112,111,112,95,102,114,111,109]⟩ ⟨#[95,65,99,99,117,109,117,108,97,116,111,114,46,112,111,112,95,102,114,111,109]⟩ 3 [] (.ref 80) .none .none (.str ⟨#[99,112,121,51,49,51,46,101,109,97,105,108,46,104,101,97,100,101,114]⟩ 358) none (.ref 86) .none 0)), #[]⟩
noncomputable def ko94 (P : Params) : Obj := ⟨(.type "code"), none, (.fields #[(.str ⟨#[112,111,112]⟩ 403), (.str ⟨#[95,65,99,99,117,109,117,108,97,116,111,114,46,112,111,112]⟩ 404), (.str ⟨#[47,99,108,97,105,109,47,99,117,116,46,112,121]⟩ 405), (.int (27) 0), (.int (1) 0), (.int (0) 0), (.int (0) 0), (.int (3) 0), (.ref 89), (.bool true), (.int (276) 0), (.ref 90), .none, (.ref 91), (.ref 92), (.ref 93), (.int (408) 0), (.int (27) 0), (.str ⟨#[47,99,108,97,105,109,47,99,117,116,46,112,121]⟩ 409)]), #[]⟩
noncomputable def ko95 (P : Params) : Obj := ⟨(.type "function"), none, (.func (fnD (fCls 9 3) ⟨#[112,111,112]⟩ ⟨#[95,65,99,99,117,109,117,108,97,116,111,114,46,112,111,112]⟩ 3 [(⟨#[95,95,99,108,97,115,115,95,95]⟩, 59)] .none .none .none (.str ⟨#[99,112,121,51,49,51,46,101,109,97,105,108,46,104,101,97,100,101,114]⟩ 358) none (.ref 94) (.ref 88) 0)), #[]⟩
noncomputable def ko131 (P : Params) : Obj := ⟨(.type "code"), none, (.fields #[(.str ⟨#[112,97,114,116,95,99,111,117,110,116]⟩ 440), (.str ⟨#[95,65,99,99,117,109,117,108,97,116,111,114,46,112,97,114,116,95,99,111,117,110,116]⟩ 441), (.str ⟨#[47,99,108,97,105,109,47,99,117,116,46,112,121]⟩ 442), (.int (44) 0), (.int (1) 0), (.int (0) 0), (.int (0) 0), (.int (3) 0), (.ref 126), (.bool true), (.int (276) 0), (.ref 127), .none, (.ref 128), (.ref 129), (.ref 130), (.int (445) 0), (.int (44) 0), (.str ⟨#[47,99,108,97,105,109,47,99,117,116,46,112,121]⟩ 446)]), #[]⟩
noncomputable def ko132 (P : Params) : Obj := ⟨(.type "function"), none, (.func (fnD (fCls 9 8) ⟨#[112,97,114,116,95,99,111,117,110,116]⟩ ⟨#[95,65,99,99,117,109,117,108,97,116,111,114,46,112,97,114,116,95,99,111,117,110,116]⟩ 3 [(⟨#[95,95,99,108,97,115,115,95,95]⟩, 59)] .none .none .none (.str ⟨#[99,112,121,51,49,51,46,101,109,97,105,108,46,104,101,97,100,101,114]⟩ 358) none (.ref 131) (.ref 125) 0)), #[]⟩
noncomputable def ko134 (P : Params) : Obj := ⟨(.type "dict"), none, (.dict #[eD P ⟨#[95,95,109,111,100,117,108,101,95,95]⟩ 369 (.str ⟨#[99,112,121,51,49,51,46,101,109,97,105,108,46,104,101,97,100,101,114]⟩ 358), eD P ⟨#[95,95,102,105,114,115,116,108,105,110,101,110,111,95,95]⟩ 373 (.int (13) 372), eD P ⟨#[95,95,105,110,105,116,95,95]⟩ 383 (.ref 72), eD P ⟨#[112,117,115,104]⟩ 392 (.ref 79), eD P ⟨#[112,111,112,95,102,114,111,109]⟩ 402 (.ref 87), eD P ⟨#[112,111,112]⟩ 410 (.ref 95), eD P ⟨#[95,95,108,101,110,95,95]⟩ 417 (.ref 102), eD P ⟨#[95,95,115,116,114,95,95]⟩ 424 (.ref 109), eD P ⟨#[114,101,115,101,116]⟩ 432 (.ref 117), eD P ⟨#[105,115,95,111,110,108,121,119,115]⟩ 439 (.ref 124), eD P ⟨#[112,97,114,116,95,99,111,117,110,116]⟩ 447 (.ref 132), eD P ⟨#[95,95,115,116,97,116,105,99,95,97,116,116,114,105,98,117,116,101,115,95,95]⟩ 449 (.ref 133), eD P ⟨#[95,95,100,105,99,116,95,95]⟩ 452 (.ref 136), eD P ⟨#[95,95,119,101,97,107,114,101,102,95,95]⟩ 454 (.ref 137), eD P ⟨#[95,95,100,111,99,95,95]⟩ 455 .none] 5), #[]⟩
noncomputable def ko135 (P : Params) : Obj := ⟨(.type "type"), none, (.cls { name := ⟨#[95,65,99,99,117,109,117,108,97,116,111,114]⟩, bases := [(.type "list")], mro := [(.ref 135), (.type "list"), (.type "object")], ns := 134, qualname := ⟨#[95,65,99,99,117,109,117,108,97,116,111,114]⟩, hasDict := true, slotNames := [], subclasses := [], abstract := false, collection := none, hasDel := false }), #[(some (.ref 56)), none, (some (.str ⟨#[95,65,99,99,117,109,117,108,97,116,111,114]⟩ 362)), (some (.str ⟨#[95,65,99,99,117,109,117,108,97,116,111,114]⟩ 370)), (some (.builtin "list.__new__")), (some (.bool true))]⟩
noncomputable def ko152 (P : Params) : Obj := ⟨(.type "code"), none, (.fields #[(.str ⟨#[95,95,105,110,105,116,95,95]⟩ 472), (.str ⟨#[95,110,101,116,114,99,108,101,120,46,95,95,105,110,105,116,95,95]⟩ 473), (.str ⟨#[47,99,108,97,105,109,47,99,117,116,46,112,121]⟩ 474), (.int (49) 0), (.int (2) 0), (.int (0) 0), (.int (0) 0), (.int (3) 0), (.ref 147), (.bool true), (.int (276) 0), (.ref 148), .none, (.ref 149), (.ref 150), (.ref 151), (.int (477) 0), (.int (49) 0), (.str ⟨#[47,99,108,97,105,109,47,99,117,116,46,112,121]⟩ 478)]), #[]⟩
noncomputable def ko153 (P : Params) : Obj := ⟨(.type "function"), none, (.func (fnD (fCls 11 0) ⟨#[95,95,105,110,105,116,95,95]⟩ ⟨#[95,110,101,116,114,99,108,101,120,46,95,95,105,110,105,116,95,95]⟩ 3 [] .none .none .none (.str ⟨#[99,112,121,51,49,51,46,110,101,116,114,99]⟩ 458) none (.ref 152) .none 0)), #[]⟩
noncomputable def ko159 (P : Params) : Obj := ⟨(.type "code"), none, (.fields #[(.str ⟨#[95,114,101,97,100,95,99,104,97,114]⟩ 480), (.str ⟨#[95,110,101,116,114,99,108,101,120,46,95,114,101,97,100,95,99,104,97,114]⟩ 481), (.str ⟨#[47,99,108,97,105,109,47,99,117,116,46,112,121]⟩ 482), (.int (55) 0), (.int (1) 0), (.int (0) 0), (.int (0) 0), (.int (3) 0), (.ref 154), (.bool true), (.int (276) 0), (.ref 155), .none, (.ref 156), (.ref 157), (.ref 158), (.int (485) 0), (.int (55) 0), (.str ⟨#[47,99,108,97,105,109,47,99,117,116,46,112,121]⟩ 486)]), #[]⟩
noncomputable def ko160 (P : Params) : Obj := ⟨(.type "function"), none, (.func (fnD (fCls 11 1) ⟨#[95,114,101,97,100,95,99,104,97,114]⟩ ⟨#[95,110,101,116,114,99,108,101,120,46,95,114,101,97,100,95,99,104,97,114]⟩ 3 [] .none .none .none (.str ⟨#[99,112,121,51,49,51,46,110,101,116,114,99]⟩ 458) none (.ref 159) .none 0)), #[]⟩
noncomputable def ko166 (P : Params) : Obj := ⟨(.type "code"), none, (.fields #[(.str ⟨#[103,101,116,95,116,111,107,101,110]⟩ 488), (.str ⟨#[95,110,101,116,114,99,108,101,120,46,103,101,116,95,116,111,107,101,110]⟩ 489), (.str ⟨#[47,99,108,97,105,109,47,99,117,116,46,112,121]⟩ 490), (.int (61) 0), (.int (1) 0), (.int (0) 0), (.int (0) 0), (.int (3) 0), (.ref 161), (.bool true), (.int (276) 0), (.ref 162), .none, (.ref 163), (.ref 164), (.ref 165), (.int (495) 0), (.int (61) 0), (.str ⟨#[47,99,108,97,105,109,47,99,117,116,46,112,121]⟩ 496)]), #[]⟩
noncomputable def ko167 (P : Params) : Obj := ⟨(.type "function"), none, (.func (fnD (fCls 11 2) ⟨#[103,101,116,95,116,111,107,101,110]⟩ ⟨#[95,110,101,116,114,99,108,101,120,46,103,101,116,95,116,111,107,101,110]⟩ 3 [] .none .none .none (.str ⟨#[99,112,121,51,49,51,46,110,101,116,114,99]⟩ 458) none (.ref 166) .none 0)), #[]⟩
noncomputable def ko173 (P : Params) : Obj := ⟨(.type "code"), none, (.fields #[(.str ⟨#[112,117,115,104,95,116,111,107,101,110]⟩ 498), (.str ⟨#[95,110,101,116,114,99,108,101,120,46,112,117,115,104,95,116,111,107,101,110]⟩ 499), (.str ⟨#[47,99,108,97,105,109,47,99,117,116,46,112,121]⟩ 500), (.int (88) 0), (.int (2) 0), (.int (0) 0), (.int (0) 0), (.int (3) 0), (.ref 168), (.bool true), (.int (276) 0), (.ref 169), .none, (.ref 170), (.ref 171), (.ref 172), (.int (503) 0), (.int (88) 0), (.str ⟨#[47,99,108,97,105,109,47,99,117,116,46,112,121]⟩ 504)]), #[]⟩
noncomputable def ko174 (P : Params) : Obj := ⟨(.type "function"), none, (.func (fnD (fCls 11 3) ⟨#[112,117,115,104,95,116,111,107,101,110]⟩ ⟨#[95,110,101,116,114,99,108,101,120,46,112,117,115,104,95,116,111,107,101,110]⟩ 3 [] .none .none .none (.str ⟨#[99,112,121,51,49,51,46,110,101,116,114,99]⟩ 458) none (.ref 173) .none 0)), #[]⟩
noncomputable def ko176 (P : Params) : Obj := ⟨(.type "dict"), none, (.dict #[eD P ⟨#[95,95,109,111,100,117,108,101,95,95]⟩ 467 (.str ⟨#[99,112,121,51,49,51,46,110,101,116,114,99]⟩ 458), eD P ⟨#[95,95,102,105,114,115,116,108,105,110,101,110,111,95,95]⟩ 471 (.int (47) 470), eD P ⟨#[95,95,105,110,105,116,95,95]⟩ 479 (.ref 153), eD P ⟨#[95,114,101,97,100,95,99,104,97,114]⟩ 487 (.ref 160), eD P ⟨#[103,101,116,95,116,111,107,101,110]⟩ 497 (.ref 167), eD P ⟨#[112,117,115,104,95,116,111,107,101,110]⟩ 505 (.ref 174), eD P ⟨#[95,95,115,116,97,116,105,99,95,97,116,116,114,105,98,117,116,101,115,95,95]⟩ 510 (.ref 175), eD P ⟨#[95,95,100,105,99,116,95,95]⟩ 512 (.ref 178), eD P ⟨#[95,95,119,101,97,107,114,101,102,95,95]⟩ 514 (.ref 179), eD P ⟨#[95,95,100,111,99,95,95]⟩ 515 .none] 4), #[]⟩
noncomputable def ko177 (P : Params) : Obj := ⟨(.type "type"), none, (.cls { name := ⟨#[95,110,101,116,114,99,108,101,120]⟩, bases := [(.type "object")], mro := [(.ref 177), (.type "object")], ns := 176, qualname := ⟨#[95,110,101,116,114,99,108,101,120]⟩, hasDict := true, slotNames := [], subclasses := [], abstract := false, collection := none, hasDel := false }), #[none, none, (some (.str ⟨#[95,110,101,116,114,99,108,101,120]⟩ 460)), (some (.str ⟨#[95,110,101,116,114,99,108,101,120]⟩ 468)), (some (.builtin "object.__new__")), (some (.bool true))]⟩
noncomputable def ko183 (P : Params) : Obj := ⟨.none, none, (.fields #[]), #[]⟩
noncomputable def ko187 (P : Params) : Obj := ⟨(.type "code"), none, (.fields #[(.str ⟨#[95,108,97,119,95,115,116,114,101,97,109]⟩ 520), (.str ⟨#[95,108,97,119,95,115,116,114,101,97,109]⟩ 521), (.str ⟨#[47,99,108,97,105,109,47,99,117,116,46,112,121]⟩ 522), (.int (91) 0), (.int (1) 0), (.int (0) 0), (.int (0) 0), (.int (3) 0), (.ref 182), (.bool true), (.int (276) 0), (.ref 183), .none, (.ref 184), (.ref 185), (.ref 186), (.int (526) 0), (.int (91) 0), (.str ⟨#[47,99,108,97,105,109,47,99,117,116,46,112,121]⟩ 527)]), #[]⟩
noncomputable def ko188 (P : Params) : Obj := ⟨(.type "function"), none, (.func (fnD (fTop 13) ⟨#[95,108,97,119,95,115,116,114,101,97,109]⟩ ⟨#[95,108,97,119,95,115,116,114,101,97,109]⟩ 3 [] .none .none .none (.str ⟨#[108,97,119,95,114,108,48,48,50,55,95,48,49]⟩ 518) none (.ref 187) .none 0)), #[]⟩
noncomputable def ko192 (P : Params) : Obj := ⟨(.type "code"), none, (.fields #[(.str ⟨#[95,108,97,119,95,116,105,99,107]⟩ 529), (.str ⟨#[95,108,97,119,95,116,105,99,107]⟩ 530), (.str ⟨#[47,99,108,97,105,109,47,99,117,116,46,112,121]⟩ 531), (.int (95) 0), (.int (4) 0), (.int (0) 0), (.int (0) 0), (.int (3) 0), (.ref 189), (.bool true), (.int (276) 0), (.ref 190), .none, .none, .none, (.ref 191), (.int (532) 0), (.int (95) 0), (.str ⟨#[47,99,108,97,105,109,47,99,117,116,46,112,121]⟩ 533)]), #[]⟩
noncomputable def ko193 (P : Params) : Obj := ⟨(.type "function"), none, (.func (fnD (fTop 14) ⟨#[95,108,97,119,95,116,105,99,107]⟩ ⟨#[95,108,97,119,95,116,105,99,107]⟩ 3 [] .none .none .none (.str ⟨#[108,97,119,95,114,108,48,48,50,55,95,48,49]⟩ 518) none (.ref 192) .none 0)), #[]⟩
noncomputable def ko197 (P : Params) : Obj := ⟨(.type "code"), none, (.fields #[(.str ⟨#[95,108,97,119,95,119,97,121,115]⟩ 535), (.str ⟨#[95,108,97,119,95,119,97,121,115]⟩ 536), (.str ⟨#[47,99,108,97,105,109,47,99,117,116,46,112,121]⟩ 537), (.int (108) 0), (.int (1) 0), (.int (0) 0), (.int (0) 0), (.int (3) 0), (.ref 194), (.bool true), (.int (276) 0), (.ref 195), .none, .none, .none, (.ref 196), (.int (538) 0), (.int (108) 0), (.str ⟨#[47,99,108,97,105,109,47,99,117,116,46,112,121]⟩ 539)]), #[]⟩
noncomputable def ko198 (P : Params) : Obj := ⟨(.type "function"), none, (.func (fnD (fTop 15) ⟨#[95,108,97,119,95,119,97,121,115]⟩ ⟨#[95,108,97,119,95,119,97,121,115]⟩ 3 [] .none .none .none (.str ⟨#[108,97,119,95,114,108,48,48,50,55,95,48,49]⟩ 518) none (.ref 197) .none 0)), #[]⟩
noncomputable def ko202 (P : Params) : Obj := ⟨(.type "code"), none, (.fields #[(.str ⟨#[95,108,97,119,95,115,117,109,115]⟩ 541), (.str ⟨#[95,108,97,119,95,115,117,109,115]⟩ 542), (.str ⟨#[47,99,108,97,105,109,47,99,117,116,46,112,121]⟩ 543), (.int (116) 0), (.int (1) 0), (.int (0) 0), (.int (0) 0), (.int (3) 0), (.ref 199), (.bool true), (.int (276) 0), (.ref 200), .none, .none, .none, (.ref 201), (.int (544) 0), (.int (116) 0), (.str ⟨#[47,99,108,97,105,109,47,99,117,116,46,112,121]⟩ 545)]), #[]⟩
noncomputable def ko203 (P : Params) : Obj := ⟨(.type "function"), none, (.func (fnD (fTop 16) ⟨#[95,108,97,119,95,115,117,109,115]⟩ ⟨#[95,108,97,119,95,115,117,109,115]⟩ 3 [] .none .none .none (.str ⟨#[108,97,119,95,114,108,48,48,50,55,95,48,49]⟩ 518) none (.ref 202) .none 0)), #[]⟩
noncomputable def ko207 (P : Params) : Obj := ⟨(.type "code"), none, (.fields #[(.str ⟨#[108,97,119]⟩ 547), (.str ⟨#[108,97,119]⟩ 548), (.str ⟨#[47,99,108,97,105,109,47,99,117,116,46,112,121]⟩ 549), (.int (118) 0), (.int (1) 0), (.int (0) 0), (.int (0) 0), (.int (3) 0), (.ref 204), (.bool true), (.int (276) 0), (.ref 205), .none, .none, .none, (.ref 206), (.int (550) 0), (.int (118) 0), (.str ⟨#[47,99,108,97,105,109,47,99,117,116,46,112,121]⟩ 551)]), #[]⟩
noncomputable def ko208 (P : Params) : Obj := ⟨(.type "function"), none, (.func (fnD (fTop 17) ⟨#[108,97,119]⟩ ⟨#[108,97,119]⟩ 3 [] .none .none .none (.str ⟨#[108,97,119,95,114,108,48,48,50,55,95,48,49]⟩ 518) none (.ref 207) .none 0)), #[]⟩
noncomputable def ktop (P : Params) : KT := (.node (some (ko0 P)) (.node none (.node (some (ko3 P)) (.node none (.node none (.node none .nil (.node (some (ko95 P)) (.node (some (ko159 P)) .nil .nil) .nil)) (.node (some (ko47 P)) (.node (some (ko79 P)) .nil (.node (some (ko207 P)) .nil .nil)) .nil)) (.node none (.node none (.node (some (ko71 P)) (.node (some (ko135 P)) .nil .nil) .nil) (.node none (.node (some (ko167 P)) .nil .nil) .nil)) (.node (some (ko55 P)) (.node (some (ko87 P)) .nil .nil) .nil))) (.node none (.node none (.node none (.node none (.node (some (ko131 P)) .nil .nil) .nil) .nil) .nil) (.node none (.node (some (ko43 P)) (.node none .nil (.node (some (ko203 P)) .nil .nil)) .nil) (.node (some (ko59 P)) .nil (.node none (.node (some (ko187 P)) .nil .nil) .nil))))) (.node none (.node none (.node none (.node none (.node none .nil (.node (some (ko193 P)) .nil .nil)) .nil) (.node none .nil (.node none (.node (some (ko177 P)) .nil .nil) .nil))) (.node none .nil (.node none (.node none (.node (some (ko153 P)) .nil .nil) .nil) .nil))) (.node none (.node none (.node none (.node none .nil (.node (some (ko197 P)) .nil .nil)) .nil) .nil) (.node none (.node none .nil (.node none (.node (some (ko173 P)) .nil .nil) .nil)) .nil)))) (.node (some (ko2 P)) (.node (some (ko4 P)) (.node none (.node none (.node none (.node (some (ko64 P)) .nil (.node (some (ko192 P)) .nil .nil)) (.node none (.node (some (ko160 P)) .nil .nil) .nil)) (.node (some (ko48 P)) (.node none .nil (.node (some (ko208 P)) .nil .nil)) (.node none (.node (some (ko176 P)) .nil .nil) .nil))) (.node none (.node none (.node (some (ko72 P)) .nil .nil) .nil) (.node none (.node none (.node (some (ko152 P)) .nil .nil) .nil) .nil))) (.node none (.node none (.node none (.node none (.node (some (ko132 P)) .nil .nil) .nil) .nil) .nil) (.node none .nil (.node none .nil (.node none (.node (some (ko188 P)) .nil .nil) .nil))))) (.node none (.node none .nil (.node none (.node (some (ko42 P)) (.node none .nil (.node (some (ko202 P)) .nil .nil)) .nil) .nil)) (.node none (.node none (.node none (.node none (.node (some (ko134 P)) .nil .nil) (.node (some (ko198 P)) .nil .nil)) (.node none (.node (some (ko166 P)) .nil .nil) .nil)) (.node (some (ko54 P)) (.node (some (ko86 P)) .nil .nil) .nil)) (.node none (.node none (.node (some (ko78 P)) .nil .nil) (.node none (.node (some (ko174 P)) .nil .nil) .nil)) (.node none (.node (some (ko94 P)) .nil .nil) .nil))))))

noncomputable def kAddrs : List Addr := [0, 2, 3, 4, 42, 43, 47, 48, 54, 55, 59, 64, 71, 72, 78, 79, 80, 86, 87, 94, 95, 131, 132, 134, 135, 152, 153, 159, 160, 166, 167, 173, 174, 176, 177, 183, 187, 188, 192, 193, 197, 198, 202, 203, 207, 208]
noncomputable def kObjs (P : Params) : List Obj := [ko0 P, ko2 P, ko3 P, ko4 P, ko42 P, ko43 P, ko47 P, ko48 P, ko54 P, ko55 P, ko59 P, ko64 P, ko71 P, ko72 P, ko78 P, ko79 P, ko80 P, ko86 P, ko87 P, ko94 P, ko95 P, ko131 P, ko132 P, ko134 P, ko135 P, ko152 P, ko153 P, ko159 P, ko160 P, ko166 P, ko167 P, ko173 P, ko174 P, ko176 P, ko177 P, ko183 P, ko187 P, ko188 P, ko192 P, ko193 P, ko197 P, ko198 P, ko202 P, ko203 P, ko207 P, ko208 P]
end Mine
end
noncomputable section
namespace Mine
open PySem PySem.W PySem.W.X

noncomputable def den : Code → Sem Fin := PySem.W.Fast.tw11892475500146522536 PySem.W.Fast.tw14364793385576792824
theorem den_eq : denote table = den := by
  rw [table_eq_tree, PySem.W.Fast.te11892475500146522536, PySem.W.Fast.te14364793385576792824]; rfl

noncomputable def sLineno : Str := ⟨#[108,105,110,101,110,111]⟩
noncomputable def sInstream : Str := ⟨#[105,110,115,116,114,101,97,109]⟩
noncomputable def sWhitespace : Str := ⟨#[119,104,105,116,101,115,112,97,99,101]⟩
noncomputable def sPushback : Str := ⟨#[112,117,115,104,98,97,99,107]⟩
noncomputable def sRead : Str := ⟨#[114,101,97,100]⟩
noncomputable def sSelf : Str := ⟨#[115,101,108,102]⟩
noncomputable def sToken : Str := ⟨#[116,111,107,101,110]⟩
noncomputable def sFiter : Str := ⟨#[102,105,116,101,114]⟩
noncomputable def sCh : Str := ⟨#[99,104]⟩
noncomputable def sLeft : Str := ⟨#[108,101,102,116]⟩
noncomputable def sWs : Str := ⟨#[10,9,13,32]⟩
noncomputable def qLam : Str := Str.ofString "_law_stream.<locals>.<lambda>"

/-- the code object of the lambda in _law_stream, as the law's first line lays it -/
noncomputable def lamCode (k : Nat) : Obj := ⟨.type "code", none, .fields #[.str (Str.ofString "<lambda>") (k + 14), .str qLam (k + 15), .str (Str.ofString "/claim/cut.py") (k + 16), .int 93 0, .int 1 0, .int 0 0, .int 0 0, .int 19 0, .ref 220, .bool true, .int 276 0, .ref 221, .none, .ref 222, .ref 223, .ref 224, .int ((k : Int) + 19) 0, .int 93 0, .str (Str.ofString "/claim/cut.py") (k + 20)], #[]⟩
/-- a world and the number of tokens at the law's call -/
structure WK where
  w : World
  k : Nat
noncomputable abbrev WK.params (w : WK) : Params := w.w.params
noncomputable def kt1 (P : Params) : KT := (ktop P).put 40 80 (ko80 P)
noncomputable def kt2 (P : Params) (k : Nat) : KT := (kt1 P).put 40 225 (lamCode k)
noncomputable def E1 (w : World) : En := ⟨den, pw, w, kt1 w.params, []⟩
noncomputable def E2 (w : WK) : En := ⟨den, pw, w.w, kt2 w.params w.k, []⟩

noncomputable def lamOf (f : Stmt) : Expr := match ((fBody f)[1]? : Option Stmt) with
  | some (.Assign _ v _) => v
  | _ => .Constant .none 0 ⟨0, 0, 0, 0⟩
noncomputable def lamA : Expr → Arguments
  | .Lambda a _ _ _ => a
  | _ => ⟨[], [], none, [], [], none, []⟩
noncomputable def lamB : Expr → Expr
  | .Lambda _ b _ _ => b
  | e => e
noncomputable def lamS : Expr → Scope
  | .Lambda _ _ s _ => s
  | _ => default

noncomputable def instO (cls d : Addr) : Obj := ⟨.ref cls, some d, .plain, #[]⟩
noncomputable def cellO (v : Value) : Obj := ⟨.type "cell", none, .cell (some v), #[]⟩
noncomputable def lexD (P : Params) (k0 k1 k2 k3 : Tok) (ln : Int) (lt : Tok) (ins : Addr) (wt : Tok) (pb : Addr) : Obj :=
  ⟨.type "dict", none, .dict #[eD P sLineno k0 (.int ln lt), eD P sInstream k1 (.ref ins), eD P sWhitespace k2 (.str sWs wt), eD P sPushback k3 (.ref pb)] 4, #[]⟩
noncomputable def strD (P : Params) (k0 k1 k2 k3 k4 : Tok) (lt wt : Tok) (pb fn : Addr) : Obj :=
  ⟨.type "dict", none, .dict #[eD P sLineno k0 (.int 1 lt), eD P sInstream k1 .none, eD P sWhitespace k2 (.str sWs wt), eD P sPushback k3 (.ref pb), eD P sRead k4 (.ref fn)] 5, #[]⟩
noncomputable def lamFn (cell ct : Addr) : Obj := ⟨.type "function", none, .func { name := Str.ofString "<lambda>", qualname := qLam, params := lamA (lamOf (fTop 13)), body := .expr (lamB (lamOf (fTop 13))), scope := lamS (lamOf (fTop 13)), globals := 3, closure := [(sLeft, cell)], defaults := .none, kwdefaults := .none, doc := .none, pyModule := .str (Str.ofString "law_rl0027_01") 518, annotations := none, code := .ref 225, closureTuple := .ref ct, builtins := 0 }, #[]⟩
noncomputable def frmD (P : Params) (k0 k1 k2 k3 : Tok) (self : Addr) (tok : Value) (fit : Addr) (ch : Value) : Obj :=
  ⟨.type "frame", none, .dict #[eD P sSelf k0 (.ref self), eD P sToken k1 tok, eD P sFiter k2 (.ref fit), eD P sCh k3 ch] 4, #[]⟩
noncomputable def methO (f self : Addr) : Obj := ⟨.type "method", none, .fields #[.ref f, .ref self], #[]⟩
noncomputable def citO (m : Value) (st : Tok) (b : Bool) : Obj := ⟨.type "callable_iterator", none, .fields #[m, .str ⟨#[]⟩ st, .bool b], #[]⟩

noncomputable def gtEnv (L : Addr) : Env := { scope := fScope (fCls 11 2), locals := L, globals := 3, cells := [], qual := Str.ofString "_netrclex.get_token.<locals>.", func := some 167, code := .ref 166, frame := some L, builtins := 0 }
noncomputable def outerFor : Stmt := ((fBody (fCls 11 2))[3]?).getD (.Pass ⟨0, 0, 0, 0⟩)
noncomputable def forT : Stmt → Expr
  | .For t _ _ _ _ => t
  | _ => .Constant .none 0 ⟨0, 0, 0, 0⟩
noncomputable def forB : Stmt → List Stmt
  | .For _ _ b _ _ => b
  | _ => []
noncomputable def forE : Stmt → List Stmt
  | .For _ _ _ e _ => e
  | _ => []
noncomputable def ifElse : Stmt → List Stmt
  | .If _ _ e _ => e
  | _ => []
noncomputable def innerFor : Stmt := ((ifElse (((forB outerFor)[1]?).getD (.Pass ⟨0, 0, 0, 0⟩)))[2]?).getD (.Pass ⟨0, 0, 0, 0⟩)
noncomputable def inCode (L it : Addr) : Code := .forLoop (forT innerFor) (.ref it) (forB innerFor) (forE innerFor) (gtEnv L)

structure G where
  (L it mth r d st sd fn cell left ct pb pb2 : Addr)
  (a0 a1 a2 a3 b0 b1 b2 b3 c0 c1 c2 c3 c4 sl swt lwt sen : Tok)
noncomputable def G.pre (g : G) (P : Params) (tok ch : Value) (ln : Int) (lt : Tok) (xs : List Value) (ep : Nat) : List (Addr × Obj) :=
  [(g.L, frmD P g.a0 g.a1 g.a2 g.a3 g.r tok g.it ch), (g.it, citO (.ref g.mth) g.sen false), (g.mth, methO 160 g.r), (g.r, instO 177 g.d), (g.d, lexD P g.b0 g.b1 g.b2 g.b3 ln lt g.st g.lwt g.pb),
   (g.st, instO 177 g.sd), (g.sd, strD P g.c0 g.c1 g.c2 g.c3 g.c4 g.sl g.swt g.pb2 g.fn), (g.fn, lamFn g.cell g.ct), (g.cell, cellO (.ref g.left)), (g.left, listO xs ep)]

noncomputable def chV (x : Nat × Tok) : Value := .str ⟨#[x.1]⟩ x.2
end Mine
end
noncomputable section
namespace Mine
open PySem PySem.W PySem.W.X

/-! ## objects at hand -/
structure Loc (kt : KT) (s : Shared) (l : List (Addr × Obj)) : Prop where
  own : ∀ x ∈ l, s.heap.get? x.1 = some x.2
  nodup : (l.map (·.1)).Nodup
  kn : ∀ x ∈ l, kt.get x.1 = none
theorem nodup_count {l l' : List Nat} (h : l.Nodup) (hc : ∀ a, l'.count a ≤ l.count a) : l'.Nodup :=
  List.nodup_iff_count.mpr fun a => Nat.le_trans (hc a) (List.nodup_iff_count.mp h a)
theorem Loc.sub {kt : KT} {s : Shared} {l l' : List (Addr × Obj)} (h : Loc kt s l) (hm : ∀ x ∈ l', x ∈ l) (hc : ∀ a, (l'.map (·.1)).count a ≤ (l.map (·.1)).count a) : Loc kt s l' :=
  ⟨fun x hx => h.own x (hm x hx), nodup_count h.nodup hc, fun x hx => h.kn x (hm x hx)⟩
/-- new contents over old addresses -/
noncomputable def upds (pre : List (Addr × Obj)) (us : List Obj) : List (Addr × Obj) := (pre.map (·.1)).zip us
theorem Upd.zip {h : Heap} : ∀ {pre : List (Addr × Obj)} {us : List Obj}, Upd h pre us → (∀ x ∈ upds pre us, h.get? x.1 = some x.2) ∧ (upds pre us).map (·.1) = pre.map (·.1)
  | [], [], _ => ⟨fun _ hx => (nomatch hx), rfl⟩
  | x :: xs, o :: os, hu => by
    obtain ⟨h1, h2⟩ := hu
    obtain ⟨i1, i2⟩ := Upd.zip h2
    refine ⟨fun y hy => ?_, ?_⟩
    · cases hy with
      | head => exact h1
      | tail _ hy => exact i1 y hy
    · show x.1 :: (upds xs os).map (·.1) = x.1 :: xs.map (·.1)
      rw [i2]
  | [], _ :: _, hu => hu.elim
  | _ :: _, [], hu => hu.elim
theorem size_of_get {s : Shared} {a : Addr} {o : Obj} (h : s.heap.get? a = some o) : a < s.heap.objs.size := by
  cases hlt : decide (a < s.heap.objs.size) with
  | true => exact of_decide_eq_true hlt
  | false =>
    exfalso
    have hge := of_decide_eq_false hlt
    unfold Heap.get? at h
    simp_all

/-- what stays true of the state from a point on -/
structure Since (kt : KT) (rest : Array GenState × Drawn × OsState) (wr : List Addr) (s0 s : Shared) : Prop where
  ktk : ∀ a o, kt.get a = some o → s.heap.get? a = some o
  frame : ∀ b ob, s0.heap.get? b = some ob → b ∉ wr → s.heap.get? b = some ob
  le : s0.heap.objs.size ≤ s.heap.objs.size
  rest : (s.gens, s.drawn, s.os) = rest

/-- a contract used where more objects are at hand -/
theorem Ctr.use {E : En} {bel : List (Code × Pos)} {c : Code} {pre extra : List (Addr × Obj)} {Q : Outc → Prop} (h : Ctr E bel c pre Q) {rest : Array GenState × Drawn × OsState} {p : Pos} {s : Shared}
    (hk : ∀ a o, E.kt.get a = some o → s.heap.get? a = some o) (hr : (s.gens, s.drawn, s.os) = rest) (L : Loc E.kt s (pre ++ extra)) :
    wpCode E.M (Γof c bel) (fun r s' => ∃ o : Outc, o.r = r ∧ Q o ∧ Loc E.kt s' (upds pre o.upd ++ extra ++ o.new) ∧ (∀ x ∈ o.new, s.heap.objs.size ≤ x.1) ∧ Since E.kt rest (pre.map (·.1)) s s') p s := by
  have hn := L.nodup
  rw [List.map_append, List.nodup_append] at hn
  refine wpCode_mono (fun r s' ⟨o, e, q, P⟩ => ⟨o, e, q, ?_, fun x hx => (P.new x hx).2, ?_⟩) (h rest p s hk (fun x hx => L.own x (List.mem_append_left _ hx)) hn.1 (fun x hx => L.kn x (List.mem_append_left _ hx)) hr)
  · obtain ⟨z1, z2⟩ := Upd.zip P.upd
    have hlt : ∀ x ∈ pre ++ extra, x.1 < s.heap.objs.size := fun x hx => size_of_get (L.own x hx)
    have hex : ∀ x ∈ extra, x.1 ∉ pre.map (·.1) := fun x hx hm => hn.2.2 x.1 hm x.1 (List.mem_map_of_mem hx) rfl
    have hz : ∀ x ∈ upds pre o.upd, ∃ y ∈ pre, y.1 = x.1 := fun x hx => by
      have : x.1 ∈ (upds pre o.upd).map (·.1) := List.mem_map_of_mem hx
      rw [z2] at this
      obtain ⟨y, hy, e⟩ := List.mem_map.mp this
      exact ⟨y, hy, e⟩
    refine ⟨fun x hx => ?_, ?_, fun x hx => ?_⟩
    · rcases List.mem_append.mp hx with hx | hx
      · rcases List.mem_append.mp hx with hx | hx
        · exact z1 x hx
        · exact P.frame _ _ (L.own x (List.mem_append_right _ hx)) (hex x hx)
      · exact (P.new x hx).1
    · rw [List.map_append, List.map_append, z2, List.nodup_append]
      refine ⟨by rw [← List.map_append]; exact L.nodup, P.nodup, fun a ha b hb e => ?_⟩
      subst e
      obtain ⟨y, hy, e⟩ := List.mem_map.mp hb
      rw [← List.map_append] at ha
      obtain ⟨x, hx, e2⟩ := List.mem_map.mp ha
      have h1 := (P.new y hy).2
      rw [e, ← e2] at h1
      exact Nat.lt_irrefl _ (Nat.lt_of_lt_of_le (hlt x hx) h1)
    · rcases List.mem_append.mp hx with hx | hx
      · rcases List.mem_append.mp hx with hx | hx
        · obtain ⟨y, hy, e⟩ := hz x hx
          rw [← e]
          exact L.kn y (List.mem_append_left _ hy)
        · exact L.kn x (List.mem_append_right _ hx)
      · cases hg : E.kt.get x.1 with
        | none => rfl
        | some ob =>
          exact absurd (Nat.lt_of_lt_of_le (size_of_get (hk _ _ hg)) (P.new x hx).2) (Nat.lt_irrefl _)
  · refine ⟨fun a ob ha => ?_, P.frame, P.le, P.rest⟩
    refine P.frame _ _ (hk _ _ ha) fun hm => ?_
    obtain ⟨y, hy, e⟩ := List.mem_map.mp hm
    have := L.kn y (List.mem_append_left _ hy)
    rw [e, ha] at this
    cases this
end Mine
end
noncomputable section
namespace Mine
open PySem PySem.W PySem.W.X
open PySem.Sem (wp finPost)

/-! ## runs of any kind: to an answer, to the next code, to a call -/
structure AtH (kt : KT) (rest : Array GenState × Drawn × OsState) (h₀ : Heap) (mu : List Addr) (L : List (Addr × Obj)) (top tok : Nat) (s' : Shared) : Prop where
  own : ∀ x ∈ L, s'.heap.get? x.1 = some x.2
  nodup : (L.map (·.1)).Nodup
  kn : ∀ x ∈ L, kt.get x.1 = none
  ktk : ∀ a o, kt.get a = some o → s'.heap.get? a = some o
  fresh : ∀ x ∈ L, x.1 ∈ mu ∨ h₀.objs.size ≤ x.1
  frame : ∀ b ob, h₀.get? b = some ob → b ∉ mu → s'.heap.get? b = some ob
  le : h₀.objs.size ≤ s'.heap.objs.size
  top : s'.heap.objs.size = top
  tok : s'.toks = tok
  rest : (s'.gens, s'.drawn, s'.os) = rest
theorem AtH.loc {kt : KT} {rest : Array GenState × Drawn × OsState} {h₀ : Heap} {mu : List Addr} {L : List (Addr × Obj)} {top tok : Nat} {s' : Shared} (A : AtH kt rest h₀ mu L top tok s') : Loc kt s' L := ⟨A.own, A.nodup, A.kn⟩
theorem AtH.since {kt : KT} {rest : Array GenState × Drawn × OsState} {s : Shared} {mu : List Addr} {L : List (Addr × Obj)} {top tok : Nat} {s' : Shared} (A : AtH kt rest s.heap mu L top tok s') : Since kt rest mu s s' := ⟨A.ktk, A.frame, A.le, A.rest⟩

inductive EndV where
  | ans (r : Result)
  | nxt (c : Code)
  | cal (c : Code) (b : List (Code × Pos))
noncomputable def endOf (E : En) (x : X) : Option EndV := match x.t with
  | .pure fin => match fin with
    | .done f => match x.κ with
      | [] => some (.ans (.ok f))
      | _ :: _ => none
    | .again c => match c.quiet with
      | true => match x.κ with
        | [] => some (.nxt c)
        | _ :: _ => some (.cal c (below E.base x.κ))
      | false => none
  | .raise e => match x.κ with
    | [] => some (.ans (.error e))
    | _ :: _ => none
  | .call c hd _ _ _ => match hd with
    | none => some (.cal c ((x.c, x.p) :: below E.base x.κ))
    | some _ => none
  | _ => none
set_option genInjectivity true in
structure V4 where
  a : List Nat
  r : List (Setting → Sem Fin)
  j : List J
  gs : List (Code × Made)
  qs : List Qv
  e : Option EndV
  L : Option (List (Addr × Obj))
  top : Nat × Nat
  tok : Nat × Nat
noncomputable def lhsE (E : En) (o : Option Res) (fl : List Qv) (ls : List Nat) : Option V4 := match o with
  | some r => some ⟨r.x.acc.a.map (·.1), r.x.acc.r.map (·.1), r.x.acc.j.map (·.1), r.gs, qv fl r.qs, endOf E r.x, getPre r.x.st.T ls, (r.x.st.tb, r.x.st.to), (r.x.st.kb, r.x.st.ko)⟩
  | none => none
noncomputable def rhsE (o : Option Res) (gs : List (Code × Made)) (qs : List Qv) (e : EndV) (L : List (Addr × Obj)) (top tok : Nat × Nat) : Option V4 := some (match o with
  | some r => ⟨r.x.acc.a.map (·.2), r.x.acc.r.map (·.2), r.x.acc.j.map (·.2), gs, qs, some e, some L, top, tok⟩
  | none => ⟨[], [], [], gs, qs, some e, some L, top, tok⟩)
noncomputable def acc0 : Acc := ⟨[], [], []⟩
/-- what goes on behind the call at the end of a run -/
noncomputable def cutX (o : Option Res) (a : Result) (st : St) : X := match o with
  | some R => match R.x.t with
    | .call _ _ _ _ k => ⟨R.x.c, R.x.p, k a, R.x.κ, st, [], acc0⟩
    | .pure fin => match fin with
      | .again c => ⟨c, R.x.p, leaf a, R.x.κ, st, [], acc0⟩
      | .done _ => ⟨R.x.c, R.x.p, leaf a, R.x.κ, st, [], acc0⟩
    | _ => ⟨R.x.c, R.x.p, leaf a, R.x.κ, st, [], acc0⟩
  | none => ⟨.builtin "" ⟨[], []⟩, default, leaf a, [], st, [], acc0⟩
theorem cutX_means (E : En) (R₀ : Result → Shared → Prop) (o : Option Res) (a : Result) (st st' : St) (s : Shared) (h : MeansX E R₀ (cutX o a st) s) : MeansX E R₀ (cutX o a st') s := by
  unfold cutX at h ⊢
  split at h
  · split at h
    · exact h
    · split at h <;> exact h
    · exact h
  · exact h

noncomputable def CtrVH (E : En) (h₀ : Heap) (mu : List Addr) : List Qv → List (Outc → Prop) → Prop
  | [], [] => True
  | (some b, c, pre) :: qs, Q :: Qs => CtrH E h₀ mu b c pre Q ∧ CtrVH E h₀ mu qs Qs
  | (none, c, pre) :: qs, Q :: Qs => (∀ b, CtrH E h₀ mu b c pre Q) ∧ CtrVH E h₀ mu qs Qs
  | _, _ => False
theorem ctrVH_all {E : En} {h₀ : Heap} {mu : List Addr} : ∀ {fs vs : List Qv} {qs : List Qu} {Qs : List (Outc → Prop)}, qv fs qs = vs → CtrVH E h₀ mu vs Qs → CtrAll E h₀ mu qs Qs
  | _, _, [], [], e, h => trivial
  | fs, vs, [], Q :: Qs, e, h => by
    have : vs = [] := by rw [← e]; cases fs <;> first | rfl | (rename_i f fs; obtain ⟨f, _⟩ := f; cases f <;> rfl)
    subst this
    cases h
  | fs, vs, q :: qs, [], e, h => by
    have : ∃ v vs', vs = v :: vs' := by
      rw [← e]
      cases fs with
      | nil => exact ⟨_, _, rfl⟩
      | cons f fs => obtain ⟨f, _⟩ := f; cases f <;> exact ⟨_, _, rfl⟩
    obtain ⟨⟨v, c, pre⟩, vs', rfl⟩ := this
    cases v <;> cases h
  | fs, vs, q :: qs, Q :: Qs, e, h => by
    cases fs with
    | nil =>
      have e : (none, q.c, q.pre) :: qv [] qs = vs := e
      subst e
      exact ⟨h.1 q.bel, ctrVH_all rfl h.2⟩
    | cons f fs =>
      obtain ⟨f, g⟩ := f
      cases f with
      | none =>
        have e : (none, q.c, q.pre) :: qv fs qs = vs := e
        subst e
        exact ⟨h.1 q.bel, ctrVH_all rfl h.2⟩
      | some b =>
        have e : (some q.bel, q.c, q.pre) :: qv fs qs = vs := e
        subst e
        exact ⟨h.1, ctrVH_all rfl h.2⟩

noncomputable def EndGo (E : En) (F : Nat) (h₀ : Heap) (mu : List Addr) (rest : Array GenState × Drawn × OsState) (R₀ : Result → Shared → Prop) (o : Option Res) (e : EndV) (L : List (Addr × Obj)) (top tok : Nat × Nat) : Prop := match e with
  | .ans r => ∀ s', AtH E.kt rest h₀ mu L (top.1 + top.2) (tok.1 + tok.2) s' → R₀ r s'
  | .nxt c => ∀ p' s', AtH E.kt rest h₀ mu L (top.1 + top.2) (tok.1 + tok.2) s' → wpCode E.M (Γof c E.base) R₀ p' s'
  | .cal c b => ∀ p' s', AtH E.kt rest h₀ mu L (top.1 + top.2) (tok.1 + tok.2) s' → wpCode E.M (Γof c b) (fun r s'' => MeansX E R₀ (cutX o r St0) s'') p' s'
structure FinI (E : En) (F : Nat) (h₀ : Heap) (mu : List Addr) (rest : Array GenState × Drawn × OsState) (R₀ : Result → Shared → Prop) (x : X) (is : List Ins) (Qs : List (Outc → Prop)) (n : Nat) (hs : List Nat) : Prop where
  ex : ∃ gs qs e L top tok ls, lhsE E (exec E F is n hs x) qs ls = rhsE (exec E F is n hs x) gs qs e L top tok ∧ (∀ g ∈ gs, Gives (denote table g.1) g.2 ∧ MadeOk g.2) ∧ CtrVH E h₀ mu qs Qs ∧ noDup ls = true ∧ EndGo E F h₀ mu rest R₀ (exec E F is n hs x) e L top tok
theorem FinI.mk' {E : En} {F : Nat} {h₀ : Heap} {mu : List Addr} {rest : Array GenState × Drawn × OsState} {R₀ : Result → Shared → Prop} {x : X} {is : List Ins} {Qs : List (Outc → Prop)} {n : Nat} {hs : List Nat}
    (gs : List (Code × Made)) (qs : List Qv) (e : EndV) (L : List (Addr × Obj)) (top tok : Nat × Nat) (ls : List Nat) (eq : lhsE E (exec E F is n hs x) qs ls = rhsE (exec E F is n hs x) gs qs e L top tok) (hg : ∀ g ∈ gs, Gives (denote table g.1) g.2 ∧ MadeOk g.2) (hq : CtrVH E h₀ mu qs Qs) (hl : noDup ls = true)
    (go : EndGo E F h₀ mu rest R₀ (exec E F is n hs x) e L top tok) : FinI E F h₀ mu rest R₀ x is Qs n hs := ⟨gs, qs, e, L, top, tok, ls, eq, hg, hq, hl, go⟩

theorem means_nil {E : En} {R₀ : Result → Shared → Prop} {c : Code} {p : Pos} {t : Sem Fin} {s : Shared} {r : Result} (ht : t = leaf r) (h : R₀ r s) : Means E.M E.base R₀ c p t [] s := by
  subst ht
  cases r with
  | ok f => exact h
  | error e => exact h
theorem run_sound' (E : En) (hdn : denote table = E.dn) (F : Nat) (h₀ : Heap) (mu : List Addr) (rest : Array GenState × Drawn × OsState) (R₀ : Result → Shared → Prop) (T : Tele) (x : X) (h : T.All (FinI E F h₀ mu rest R₀ x)) (s : Shared) (D : Rp E.kt h₀ mu rest x.st s) : MeansX E R₀ x s := by
  refine tele_sound E hdn F h₀ mu rest R₀ T x ?_ s D
  refine Tele.All.mono _ (fun is Qs n hs ht => ?_) h
  obtain ⟨gs, qs, e, L, top, tok, ls, eq, hgs, hqs, hls, hgo⟩ := ht.ex
  refine ⟨?_⟩
  cases hex : exec E F is n hs x with
  | none => rw [hex] at eq; cases eq
  | some r =>
    rw [hex] at eq hgo
    unfold lhsE rhsE at eq
    simp only [Option.some.injEq, V4.mk.injEq] at eq
    obtain ⟨ea, er, ej, egs, eqs, ee, eL, etop, etok⟩ := eq
    refine ⟨r, rfl, ⟨map_eq_mem ea, map_eq_mem er, map_eq_mem ej⟩, egs ▸ hgs, ctrVH_all eqs hqs, fun s' D' => ?_⟩
    have lget : ∀ x ∈ L, ∃ i ∈ ls, r.x.st.T.get i = some x := fun x hx => getPre_mem eL x hx
    have A : AtH E.kt rest h₀ mu L (top.1 + top.2) (tok.1 + tok.2) s' := ⟨fun x hx => by obtain ⟨i, _, ei⟩ := lget x hx; exact D'.own i x ei, getPre_nodup D'.inj (noDup_sound hls) eL,
      fun x hx => by obtain ⟨i, _, ei⟩ := lget x hx; exact D'.ktn i x ei, D'.ktk, fun x hx => by obtain ⟨i, _, ei⟩ := lget x hx; exact D'.fresh i x ei,
      fun b ob eb hb => D'.keep b ob eb hb, D'.le, by rw [D'.size, ← etop], by rw [D'.toks, ← etok], D'.rest⟩
    show Means _ _ _ r.x.c r.x.p r.x.t r.x.κ s'
    unfold endOf at ee
    split at ee
    · rename_i fin ht
      split at ee
      · rename_i f
        split at ee
        · rename_i hκ
          cases ee
          rw [hκ]
          exact means_nil (r := .ok f) ht (hgo s' A)
        · cases ee
      · rename_i c
        split at ee
        · rename_i hq
          rw [ht]
          show finPost _ _ _ (.again c) r.x.p s'
          rw [finPost_again]
          refine ⟨hq, ?_⟩
          split at ee
          · rename_i hκ
            cases ee
            rw [hκ]
            exact hgo r.x.p s' A
          cases ee
          refine wpCode_mono (fun a s'' ha => ?_) (hgo r.x.p s' A)
          have ha : MeansX E R₀ (cutX (some r) a St0) s'' := ha
          unfold cutX at ha
          simp only [ht] at ha
          exact endW_leaf ha
        · cases ee
    · rename_i e ht
      split at ee
      · rename_i hκ
        cases ee
        rw [hκ]
        exact means_nil (r := .error e) ht (hgo s' A)
      · cases ee
    · rename_i c hd g l k ht
      split at ee
      · cases ee
        rw [ht]
        show wp _ _ (.call c none g l k) _ _ r.x.p s'
        rw [Sem.wp_call]
        refine wpCode_mono (fun a s'' ha => ?_) (hgo r.x.p s' A)
        have ha : MeansX E R₀ (cutX (some r) a St0) s'' := ha
        unfold cutX at ha
        simp only [ht] at ha
        exact ha
      · cases ee
    · cases ee

theorem Loc.start {kt : KT} {s : Shared} {pre : List (Addr × Obj)} {rest : Array GenState × Drawn × OsState} (L : Loc kt s pre) (hk : ∀ a o, kt.get a = some o → s.heap.get? a = some o) (hr : (s.gens, s.drawn, s.os) = rest) :
    Rp kt s.heap (pre.map (·.1)) rest ⟨treeOf pre, pre.length, s.heap.objs.size, 0, s.toks, 0⟩ s := rp_start hk L.own L.nodup L.kn hr

/-- from a code -/
theorem wp_run (E : En) (hdn : denote table = E.dn) (F : Nat) (bel : List (Code × Pos)) (c : Code) (p : Pos) (s : Shared) (pre : List (Addr × Obj)) {rest : Array GenState × Drawn × OsState} (L : Loc E.kt s pre) (hk : ∀ a o, E.kt.get a = some o → s.heap.get? a = some o) (hr : (s.gens, s.drawn, s.os) = rest)
    (R₀ : Result → Shared → Prop) (T : Nat → Nat → Tele) (h : ∀ N K, s.heap.objs.size = N → s.toks = K → (T N K).All fun is Qs n hs => FinI (E.on bel) F s.heap (pre.map (·.1)) rest R₀ (x0 E c p pre N K) is Qs n hs) : wpCode E.M (Γof c bel) R₀ p s :=
  (code_means (E.on bel) hdn R₀ (κ := [])).mpr (run_sound' (E.on bel) hdn F s.heap (pre.map fun x : Addr × Obj => x.1) rest R₀ (T s.heap.objs.size s.toks) (x0 E c p pre s.heap.objs.size s.toks) (h _ _ rfl rfl) s (L.start hk hr))
/-- from behind a call -/
theorem run_on (E : En) (hdn : denote table = E.dn) (F : Nat) (bel : List (Code × Pos)) (o : Option Res) (a : Result) (s : Shared) (pre : List (Addr × Obj)) {rest : Array GenState × Drawn × OsState} (L : Loc E.kt s pre) (hk : ∀ a o, E.kt.get a = some o → s.heap.get? a = some o) (hr : (s.gens, s.drawn, s.os) = rest)
    (R₀ : Result → Shared → Prop) (T : Nat → Nat → Tele) (h : ∀ N K, s.heap.objs.size = N → s.toks = K → (T N K).All fun is Qs n hs => FinI (E.on bel) F s.heap (pre.map (·.1)) rest R₀ (cutX o a ⟨treeOf pre, pre.length, N, 0, K, 0⟩) is Qs n hs) : MeansX (E.on bel) R₀ (cutX o a St0) s := by
  refine cutX_means _ _ _ _ ⟨treeOf pre, pre.length, s.heap.objs.size, 0, s.toks, 0⟩ _ _ ?_
  refine run_sound' (E.on bel) hdn F s.heap (pre.map fun x : Addr × Obj => x.1) rest R₀ (T s.heap.objs.size s.toks) (cutX o a ⟨treeOf pre, pre.length, s.heap.objs.size, 0, s.toks, 0⟩) (h _ _ rfl rfl) s ?_
  have : ∀ st, (cutX o a st).st = st := fun st => by
    unfold cutX
    split
    · split
      · rfl
      · split <;> rfl
      · rfl
    · rfl
  rw [this]
  exact L.start hk hr

theorem QF.all {α : Type} {f : α → Outc} {body : Outc → Prop} (h : ∀ a, body (f a)) : ∀ o, QF f o → body o := fun _ ⟨a, e⟩ => e ▸ h a
theorem QF.ex {α : Type} {f : α → Outc} (a : α) : ∃ o, QF f o := ⟨_, a, rfl⟩
theorem Post.of {kt : KT} {rest : Array GenState × Drawn × OsState} {s : Shared} {pre upd new : List (Addr × Obj)} {top tok : Nat} {s' : Shared} {r : Result} (A : AtH kt rest s.heap (pre.map (·.1)) (upd ++ new) top tok s') (hu : upd.map (·.1) = pre.map (·.1)) :
    Post kt rest pre s ⟨r, upd.map (·.2), new, top, tok⟩ s' := by
  have hn := A.nodup
  rw [List.map_append, List.nodup_append] at hn
  refine ⟨upd_of hu fun x hx => A.own x (List.mem_append_left _ hx), fun x hx => ⟨A.own x (List.mem_append_right _ hx), ?_⟩, hn.2.1, A.frame, A.top, A.le, A.tok, A.rest⟩
  rcases A.fresh x (List.mem_append_right _ hx) with h | h
  · rw [← hu] at h
    exact absurd rfl (hn.2.2 _ h _ (List.mem_map_of_mem hx))
  · exact h
theorem Ctr.run {E : En} (hdn : denote table = E.dn) (F : Nat) {bel : List (Code × Pos)} {c : Code} {pre : List (Addr × Obj)} {Q : Outc → Prop} (T : Nat → Nat → Pos → Tele)
    (h : ∀ rest s N K p, (T N K p).All fun is Qs n hs => FinI (E.on bel) F s.heap (pre.map (·.1)) rest (fun r s' => ∃ o : Outc, o.r = r ∧ Q o ∧ Post E.kt rest pre s o s') (x0 E c p pre N K) is Qs n hs) : Ctr E bel c pre Q :=
  fun rest p s hk hp hn hkn hr => wp_run E hdn F bel c p s pre ⟨hp, hn, hkn⟩ hk hr _ (fun N K => T N K p) fun N K _ _ => h rest s N K p

/-- a contract by a run to its answer; the outcome is given by its data -/
structure FinD (E : En) (F : Nat) {α : Type} (f : α → Outc) (pre : List (Addr × Obj)) (x : X) (is : List Ins) (Qs : List (Outc → Prop)) (n : Nat) (hs : List Nat) : Prop where
  ex : ∃ gs qs a top tok ls, lhsE E (exec E F is n hs x) qs ls = rhsE (exec E F is n hs x) gs qs (.ans (f a).r) ((pre.map (·.1)).zip (f a).upd ++ (f a).new) top tok ∧ (∀ g ∈ gs, Gives (denote table g.1) g.2 ∧ MadeOk g.2) ∧ CtrV E qs Qs ∧ noDup ls = true ∧ (f a).upd.length = pre.length ∧ top.1 + top.2 = (f a).top ∧ tok.1 + tok.2 = (f a).tok
theorem FinD.mk' {E : En} {F : Nat} {α : Type} {f : α → Outc} {pre : List (Addr × Obj)} {x : X} {is : List Ins} {Qs : List (Outc → Prop)} {n : Nat} {hs : List Nat}
    (gs : List (Code × Made)) (qs : List Qv) (a : α) (top tok : Nat × Nat) (ls : List Nat) (eq : lhsE E (exec E F is n hs x) qs ls = rhsE (exec E F is n hs x) gs qs (.ans (f a).r) ((pre.map (·.1)).zip (f a).upd ++ (f a).new) top tok)
    (hg : ∀ g ∈ gs, Gives (denote table g.1) g.2 ∧ MadeOk g.2) (hq : CtrV E qs Qs) (hl : noDup ls = true) (hu : (f a).upd.length = pre.length) (ht : top.1 + top.2 = (f a).top) (hk : tok.1 + tok.2 = (f a).tok) : FinD E F f pre x is Qs n hs := ⟨gs, qs, a, top, tok, ls, eq, hg, hq, hl, hu, ht, hk⟩
theorem noG : ∀ g ∈ ([] : List (Code × Made)), Gives (denote table g.1) g.2 ∧ MadeOk g.2 := fun _ h => (nomatch h)
theorem oneG {c : Code} {m : Made} (h : Gives (denote table c) m ∧ MadeOk m) : ∀ g ∈ [(c, m)], Gives (denote table g.1) g.2 ∧ MadeOk g.2 := fun g hg => by
  obtain rfl : g = (c, m) := by simpa using hg
  exact h
theorem consG {c : Code} {m : Made} {gs : List (Code × Made)} (h : Gives (denote table c) m ∧ MadeOk m) (hs : ∀ g ∈ gs, Gives (denote table g.1) g.2 ∧ MadeOk g.2) : ∀ g ∈ (c, m) :: gs, Gives (denote table g.1) g.2 ∧ MadeOk g.2 := fun g hg => by
  rcases List.mem_cons.mp hg with rfl | hg
  · exact h
  · exact hs g hg
theorem CtrV.toH {E : En} {h₀ : Heap} {mu : List Addr} : ∀ {qs : List Qv} {Qs : List (Outc → Prop)}, CtrV E qs Qs → CtrVH E h₀ mu qs Qs
  | [], [], _ => trivial
  | (some _, _, _) :: _, _ :: _, h => ⟨h.1.toH, CtrV.toH h.2⟩
  | (none, _, _) :: _, _ :: _, h => ⟨fun b => (h.1 b).toH, CtrV.toH h.2⟩
  | [], _ :: _, h => h.elim
  | (some _, _, _) :: _, [], h => h.elim
  | (none, _, _) :: _, [], h => h.elim
theorem zip_fst {α β : Type} : ∀ {l : List α} {m : List β}, m.length = l.length → (l.zip m).map (·.1) = l ∧ (l.zip m).map (·.2) = m
  | [], [], _ => ⟨rfl, rfl⟩
  | a :: l, b :: m, h => by
    have := zip_fst (l := l) (m := m) (by simpa using h)
    exact ⟨congrArg (a :: ·) this.1, congrArg (b :: ·) this.2⟩
theorem FinD.toI {E : En} {F : Nat} {α : Type} {f : α → Outc} {pre : List (Addr × Obj)} {x : X} {is : List Ins} {Qs : List (Outc → Prop)} {n : Nat} {hs : List Nat} {rest : Array GenState × Drawn × OsState} {s : Shared}
    (h : FinD E F f pre x is Qs n hs) : FinI E F s.heap (pre.map (·.1)) rest (fun r s' => ∃ o : Outc, o.r = r ∧ QF f o ∧ Post E.kt rest pre s o s') x is Qs n hs := by
  obtain ⟨gs, qs, a, top, tok, ls, eq, hg, hq, hl, hu, ht, hk⟩ := h.ex
  have hz := zip_fst (l := pre.map (·.1)) (m := (f a).upd) (by rw [hu, List.length_map])
  refine .mk' gs qs (.ans (f a).r) _ top tok ls eq hg hq.toH hl fun s' A => ⟨f a, rfl, ⟨a, rfl⟩, ?_⟩
  have := Post.of (r := (f a).r) A hz.1
  rw [hz.2, ht, hk] at this
  exact this
theorem Ctr.runD {E : En} (hdn : denote table = E.dn) (F : Nat) {bel : List (Code × Pos)} {c : Code} {pre : List (Addr × Obj)} {α : Type} {f : α → Outc} (T : Nat → Nat → Pos → Tele)
    (h : ∀ N K p, (T N K p).All fun is Qs n hs => FinD (E.on bel) F f pre (x0 E c p pre N K) is Qs n hs) : Ctr E bel c pre (QF f) :=
  Ctr.run hdn F T fun rest s N K p => Tele.All.mono _ (fun _ _ _ _ h => h.toI) (h N K p)
/-- over a heap that holds all the known objects -/
noncomputable def up {β : Type} (f : β → Nat → Outc) (d : β × Nat) : Outc := f d.1 (d.2 + 226)
theorem Ctr.runU {E : En} (hdn : denote table = E.dn) (hf : Far E.kt) (F : Nat) {bel : List (Code × Pos)} {c : Code} {pre : List (Addr × Obj)} {α : Type} {f : α → Outc} (T : Nat → Nat → Pos → Tele)
    (h : ∀ N K p, (T N K p).All fun is Qs n hs => FinD (E.on bel) F f pre (x0 E c p pre (N + 226) K) is Qs n hs) : Ctr E bel c pre (QF f) := by
  intro rest p s hk hp hn hkn hr
  have hs := hf.size hk
  obtain ⟨N, hN⟩ : ∃ N, s.heap.objs.size = N + 226 := ⟨_, (Nat.sub_add_cancel hs).symm⟩
  refine wp_run E hdn F bel c p s pre ⟨hp, hn, hkn⟩ hk hr _ (fun M K => T (M - 226) K p) fun M K hM hK => ?_
  obtain rfl : M = N + 226 := hM.symm.trans hN
  rw [Nat.add_sub_cancel]
  exact Tele.All.mono _ (fun _ _ _ _ h => h.toI) (h N K p)
theorem Ctr.toU {E : En} {bel : List (Code × Pos)} {c : Code} {pre : List (Addr × Obj)} {Q : Outc → Prop} {β : Type} {f : β → Nat → Outc} (h : Ctr E bel c pre Q) (hf : Far E.kt) (ht : ∀ b t, (f b t).top = t) (hQ : ∀ o, Q o → ∃ b t, o = f b t) : Ctr E bel c pre (QF (up f)) := by
  intro rest p s hk hp hn hkn hr
  refine wpCode_mono (fun r s' ⟨o, e, q, P⟩ => ⟨o, e, ?_, P⟩) (h rest p s hk hp hn hkn hr)
  obtain ⟨b, t, rfl⟩ := hQ o q
  have h2 : 226 ≤ t := by
    rw [← ht b t, ← P.top]
    exact Nat.le_trans (hf.size hk) P.le
  exact ⟨(b, t - 226), by unfold up; rw [Nat.sub_add_cancel h2]⟩
theorem Ctr.mono {E : En} {bel : List (Code × Pos)} {c : Code} {pre : List (Addr × Obj)} {Q Q' : Outc → Prop} (h : Ctr E bel c pre Q) (hQ : ∀ o, Q o → Q' o) : Ctr E bel c pre Q' := by
  intro rest p s hk hp hn hkn hr
  exact wpCode_mono (fun r s' ⟨o, e, q, P⟩ => ⟨o, e, hQ o q, P⟩) (h rest p s hk hp hn hkn hr)
/-- a call at the end of a run; the run stands behind a name -/
theorem EndGo.call {E : En} {F : Nat} {h₀ : Heap} {mu : List Addr} {rest : Array GenState × Drawn × OsState} {R₀ : Result → Shared → Prop} {o : Option Res} {c : Code} {b : List (Code × Pos)} {L : List (Addr × Obj)} {top tok : Nat × Nat} (o' : Option Res) (ho : o = o')
    (h : ∀ o, o = o' → ∀ p' s', AtH E.kt rest h₀ mu L (top.1 + top.2) (tok.1 + tok.2) s' → wpCode E.M (Γof c b) (fun r s'' => MeansX E R₀ (cutX o r St0) s'') p' s') : EndGo E F h₀ mu rest R₀ o (.cal c b) L top tok := h o ho
end Mine
end
noncomputable section
namespace Mine
open PySem PySem.W PySem.W.X

/-- what lies on the stack above which get_token is called: contents of no weight -/
structure Sv where
  k : Bool
  (t1 t2 t3 : PySem.Expr)
  (gn : List Comprehension)
  (sc : Scope)
  (po : Pos)
  (dp : Nat)
  (v1 v2 v3 v4 : Value)
  (b1 b2 b3 o1 o2 o3 s1 s2 : List Stmt)
  (e1 e2 e3 e4 e5 : Env)
  (p1 p2 p3 p4 p5 p6 : Pos)
noncomputable def Sv.top (σ : Sv) : Code := match σ.k with
  | true => .forLoop σ.t1 σ.v1 σ.b1 σ.o1 σ.e1
  | false => .compLoop (.ListComp σ.t1 σ.gn σ.sc σ.po) σ.dp σ.v1 σ.v4 σ.e1
noncomputable def Sv.list (σ : Sv) : List (Code × Pos) := [(σ.top, σ.p1), (.func σ.s1 σ.e2, σ.p2), (.forLoop σ.t2 σ.v2 σ.b2 σ.o2 σ.e3, σ.p3), (.forLoop σ.t3 σ.v3 σ.b3 σ.o3 σ.e4, σ.p4), (.func σ.s2 σ.e5, σ.p5), (.builtin "claim.caller" {}, σ.p6)]
structure Sw where
  (t : PySem.Expr) (v : Value) (b o s : List Stmt) (e e' : Env) (p p' : Pos)
noncomputable def belIn (ρ : Sw) (σ : Sv) : List (Code × Pos) := (.forLoop ρ.t ρ.v ρ.b ρ.o ρ.e, ρ.p) :: (.func ρ.s ρ.e', ρ.p') :: σ.list

noncomputable def reg (n : Nat) : Bool := !(n == 10 || n == 9 || n == 13 || n == 32 || n == 92)
noncomputable def codes (l : List (Nat × Tok)) : Str := ⟨(l.map (·.1)).toArray⟩
noncomputable def one (n : Nat) : Str := ⟨#[n]⟩

noncomputable def LS : List Nat := [0, 1, 2, 3, 4, 5, 6, 7, 8, 9]
noncomputable def hA : List Nat := [2, 2, 2, 2, 3, 0, 3, 0, 0, 0, 11, 10, 0, 11, 4, 0, 0, 0, 4, 0, 0, 0, 4, 4, 0, 5, 6, 0, 0, 0, 6, 0, 0, 0, 6, 0, 0, 0, 6, 0, 0, 0, 6, 0, 0, 0, 6, 6, 0, 7, 8, 8, 0, 0, 12, 11, 0, 9, 10, 10]
/-- the plain signs of the rows -/
noncomputable def signs : List Nat := [46, 97, 98, 34, 35, 99]
theorem gives_add (τ : Str) (tt : Tok) (x : Nat) (t : Tok) (hτ : 0 < τ.length) (hz : τ.length < 1000000) :
    Gives (denote table (.builtin "str.__add__" ⟨[.str τ tt, .str (one x) t], []⟩)) (.str (τ ++ one x)) ∧ MadeOk (.str (τ ++ one x)) := by
  constructor
  · rw [den_builtin F.entry_str_add]
    have := gives_str_add τ (one x) tt t
    have h1 : (τ.length == 0) = false := by simp; omega
    have h2 : ((one x).length == 0) = false := rfl
    rw [h1, h2] at this
    exact this
  · show (τ ++ one x).length ≤ sizeLine
    rw [Str.length_append]
    have : (one x).length = 1 := rfl
    have : sizeLine = 16777216 := rfl
    omega
noncomputable def hB : List Nat := [9, 10, 10, 10, 10, 10]
noncomputable def frm3 (P : Params) (k0 k1 k2 : Tok) (self : Addr) (tok : Value) (fit : Addr) : Obj :=
  ⟨.type "frame", none, .dict #[eD P sSelf k0 (.ref self), eD P sToken k1 tok, eD P sFiter k2 (.ref fit)] 3, #[]⟩
noncomputable def G.preW (g : G) (P : Params) (fo io : Obj) (ln : Int) (lt : Tok) (xs : List Value) (ep : Nat) : List (Addr × Obj) :=
  [(g.L, fo), (g.it, io), (g.mth, methO 160 g.r), (g.r, instO 177 g.d), (g.d, lexD P g.b0 g.b1 g.b2 g.b3 ln lt g.st g.lwt g.pb),
   (g.st, instO 177 g.sd), (g.sd, strD P g.c0 g.c1 g.c2 g.c3 g.c4 g.sl g.swt g.pb2 g.fn), (g.fn, lamFn g.cell g.ct), (g.cell, cellO (.ref g.left)), (g.left, listO xs ep)]
noncomputable def fLen (n : Nat) (ob : Obj) (d : Nat × Nat × Nat) : Outc := ⟨.ok (.ret (.int n d.1)), [ob], [], d.2.1, d.2.2⟩
theorem ctF_len (E : En) (bel : List (Code × Pos)) (l : Addr) (xs : List Value) (ep : Nat) (hz : xs.length < 1000000) : Ctr E bel (.builtin "len" ⟨[.ref l], []⟩) [(l, listO xs ep)] (QF (fLen xs.length (listO xs ep))) :=
  (ctr_len E bel l xs ep hz).mono fun _ ⟨a, b, c, e⟩ => ⟨(a, b, c), e⟩
noncomputable def fPop (v : Value) (xs : List Value) (ep : Nat) (d : Nat × Nat) : Outc := ⟨.ok (.ret v), [listO xs (ep + 1)], [], d.1, d.2⟩
theorem ctF_pop0 (E : En) (bel : List (Code × Pos)) (l : Addr) (v : Value) (xs : List Value) (ep : Nat) (u : Tok) (hz : xs.length < 1000000) : Ctr E bel (.builtin "list.pop" ⟨[.ref l, .int 0 u], []⟩) [(l, listO (v :: xs) ep)] (QF (fPop v xs ep)) :=
  (ctr_pop0 E bel l v xs ep u hz).mono fun _ ⟨a, b, e⟩ => ⟨(a, b), e⟩
end Mine
end
noncomputable section
namespace Mine
open PySem PySem.W PySem.W.X
open PySem.Sem (wp finPost)

theorem entry_cit : entryFor table "callable_iterator.__next__" = some Builtin.«callable_iterator.__next__» := entryFor_of_tree (by kernel_rfl)
noncomputable def citC (it : Addr) : Code := .builtin "callable_iterator.__next__" ⟨[.ref it], []⟩

theorem wp_eqStr {E : En} {Γ : Ctx} (a b : Str) (t u : Tok) {Q : Bool → Pos → Shared → Prop} {Er : Value → Pos → Shared → Prop} {p : Pos} {s : Shared} (h : ∀ p', Q (decide (a = b)) p' s) : wp E.M Γ (eqBool (.str a t) (.str b u)) Q Er p s := by
  let A : Around := { handled := Γ.handled, depth := frameCount Γ.below + Γ.code.weight, frames := none, guards := none, units := Γ.units }
  have hin : Γ.In A := ⟨rfl, Nat.le_refl _, fun _ hl => (nomatch hl), fun _ hg => (nomatch hg), Nat.le_refl _⟩
  have key := wpAny_eqBool_str (prog := E.prog) (w := E.w) (A := A) (s := s) (a := a) (b := b) (t := t) (u := u) (Q := fun b' s' => b' = decide (a = b) ∧ s' = s) (E := fun _ _ => False) ⟨rfl, rfl⟩ Γ p hin
  refine Sem.wp_mono _ _ _ (fun x p' s' h' => ?_) (fun _ _ _ h' => h'.elim) p s key
  obtain ⟨rfl, rfl⟩ := h'
  exact h p'

theorem wp_borrows {E : En} {Γ : Ctx} {m f r : Addr} {fo : Obj} {d} {Q : Bool → Pos → Shared → Prop} {Er : Value → Pos → Shared → Prop} {p : Pos} {s : Shared} (hm : s.heap.get? m = some (methO f r)) (hf : s.heap.get? f = some fo) (hd : fo.data = .func d) (h : Q true p s) : wp E.M Γ (borrowsExactly (.ref m)) Q Er p s := by
  unfold borrowsExactly
  simp only [Sem.wp_bind', load, Sem.wp_load]
  refine ⟨_, hm, ?_⟩
  show wp E.M Γ (if (Value.type "method" == Value.type "method") = true then _ else _) Q Er p s
  rw [if_pos (by decide)]
  show wp E.M Γ (Sem.bind _ _) Q Er p s
  rw [Sem.wp_bind]
  simp only [Sem.wp_load]
  refine ⟨_, hf, ?_⟩
  rw [Sem.wp_pure, hd]
  exact h

/-- the ten objects without the frame -/
noncomputable def G.nine (g : G) (P : Params) (io : Obj) (ln : Int) (lt : Tok) (xs : List Value) (ep : Nat) : List (Addr × Obj) :=
  [(g.it, io), (g.mth, methO 160 g.r), (g.r, instO 177 g.d), (g.d, lexD P g.b0 g.b1 g.b2 g.b3 ln lt g.st g.lwt g.pb),
   (g.st, instO 177 g.sd), (g.sd, strD P g.c0 g.c1 g.c2 g.c3 g.c4 g.sl g.swt g.pb2 g.fn), (g.fn, lamFn g.cell g.ct), (g.cell, cellO (.ref g.left)), (g.left, listO xs ep)]
noncomputable def citX : Obj := ⟨.type "callable_iterator", none, .fields #[.none, .none, .bool true], #[]⟩
noncomputable def G.cit (g : G) : Obj := citO (.ref g.mth) g.sen false
noncomputable def belC (i : Bool) (φ ρ : Sw) (σ : Sv) : List (Code × Pos) := (.forLoop φ.t φ.v φ.b φ.o φ.e, φ.p) :: (match i with | true => belIn ρ σ | false => (.func ρ.s ρ.e', ρ.p') :: σ.list)

/-- the answer of a reading: the sign, the list one shorter -/
noncomputable def fRd (g : G) (P : Params) (x : Nat × Tok) (ln : Int) (lt : Tok) (xs : List Value) (ep : Nat) (d : Nat × Nat) : Outc := ⟨.ok (.ret (chV x)), (g.nine P g.cit ln lt xs (ep + 1)).map (·.2), [], d.1, d.2⟩
noncomputable def fNln (g : G) (P : Params) (x : Nat × Tok) (ln : Int) (xs : List Value) (ep : Nat) (d : Tok × Nat × Nat) : Outc := ⟨.ok (.ret (chV x)), (g.nine P g.cit (ln + 1) d.1 xs (ep + 1)).map (·.2), [], d.2.1, d.2.2⟩
noncomputable def excO (t : Addr) : Obj := ⟨.type "StopIteration", none, .fields #[.ref t, .none, .none, .none, .bool false, .none], #[]⟩
/-- the end of a reading: a StopIteration -/
noncomputable def fEnd (g : G) (P : Params) (ln : Int) (lt : Tok) (xs : List Value) (ep : Nat) (d : Nat × Nat × Nat × Nat) : Outc := ⟨.error (.ref d.1), (g.nine P citX ln lt xs ep).map (·.2), [(d.1, excO d.2.1)], d.2.2.1, d.2.2.2⟩
noncomputable def fEmpty (pre : List (Addr × Obj)) (d : Tok × Nat × Nat) : Outc := ⟨.ok (.ret (.str ⟨#[]⟩ d.1)), pre.map (·.2), [], d.2.1, d.2.2⟩
noncomputable def hC1 : List Nat := [1, 1, 2, 0, 2, 0, 0, 0, 10, 9, 0, 10, 3, 0, 0, 0, 3, 0, 0, 0, 3, 3, 0, 4, 5, 0, 0, 0, 5, 0, 0, 0, 5, 0, 0, 0, 5, 0, 0, 0, 5, 0, 0, 0, 5, 5, 0, 6, 7, 7, 0, 0, 11, 10, 0, 8, 9, 9]
noncomputable def hC2 : List Nat := [0, 10, 9, 10, 1, 0, 0, 10, 1, 1, 1, 0, 0]
noncomputable def hC3 : List Nat := [0, 10, 9, 10, 1, 0, 0, 10, 3, 0, 0, 0, 3, 0, 0, 0, 3, 3, 0, 4, 3, 0, 0, 0, 3, 0, 3, 0, 3, 0, 0, 0, 3, 0, 0, 4, 3, 4, 10, 1, 1, 1, 0, 0]
noncomputable def hC4 : List Nat := [2, 0, 0, 0, 10, 9, 0, 10, 3, 0, 0, 0, 3, 0, 0, 0, 3, 3, 0, 4, 5, 0, 0, 0, 5, 0, 0, 0, 5, 0, 0, 0, 5, 0, 0, 0, 5, 0, 0, 0, 5, 5, 0, 6, 7, 7, 0, 0, 11, 10, 0, 8, 9, 9, 9, 9, 9, 0, 10, 9, 10, 1, 0, 0, 10]
noncomputable def L9 : List Nat := [0, 1, 2, 3, 4, 5, 6, 7, 8]

section
variable (w : WK) (i : Bool) (φ ρ : Sw) (σ : Sv) (g : G) (ln : Int) (lt : Tok) (ep : Nat)
/-- a reading of a sign -/
noncomputable def rdQ (l : Addr) (x : Nat × Tok) (cs : List (Nat × Tok)) (d1 : Nat × Nat × Nat) : List Qv := [(none, .builtin "len" ⟨[.ref l], []⟩, [(l, listO ((x :: cs).map chV) ep)]), (none, .builtin "list.pop" ⟨[.ref l, .int 0 (d1.2.2 + 0)], []⟩, [(l, listO ((x :: cs).map chV) ep)])]
noncomputable def rdX (n : Nat) (hs : List Nat) (x : Nat × Tok) (cs : List (Nat × Tok)) (p : Pos) (N K : Nat) (d1 : Nat × Nat × Nat) (d2 : Nat × Nat) : Option Res := exec ((E2 w).on (belC i φ ρ σ)) 100000
  [.ctr 87 hC1 [8] (fLen ((x :: cs).map chV).length (listO ((x :: cs).map chV) ep) d1), .ctr 12 [8, 9, 9, 9, 9, 9] [8] (fPop (chV x) (cs.map chV) ep d2)] n hs (x0 (E2 w) (citC g.it) p (g.nine w.params g.cit ln lt ((x :: cs).map chV) ep) N K)
noncomputable def rdL (x : Nat × Tok) (cs : List (Nat × Tok)) (p : Pos) (N K : Nat) (d1 : Nat × Nat × Nat) (d2 : Nat × Nat) : Option V4 := lhsE ((E2 w).on (belC i φ ρ σ)) (rdX w i φ ρ σ g ln lt ep 30 hC2 x cs p N K d1 d2) (rdQ ep g.left x cs d1) L9
noncomputable def rdR (x : Nat × Tok) (cs : List (Nat × Tok)) (p : Pos) (N K : Nat) (d1 : Nat × Nat × Nat) (d2 : Nat × Nat) : Option V4 := rhsE (rdX w i φ ρ σ g ln lt ep 30 hC2 x cs p N K d1 d2) [] (rdQ ep g.left x cs d1) (.ans (.ok (.ret (chV x)))) (g.nine w.params g.cit ln lt (cs.map chV) (ep + 1)) (d2.1, 0) (d2.2, 2)
theorem rd_eq (x : Nat × Tok) (hx : x.1 ∈ 13 :: signs) (cs : List (Nat × Tok)) (p : Pos) (N K : Nat) (d1 : Nat × Nat × Nat) (d2 : Nat × Nat) : rdL w i φ ρ σ g ln lt ep x cs p N K d1 d2 = rdR w i φ ρ σ g ln lt ep x cs p N K d1 d2 := by
  obtain ⟨k, t1, t2, t3, gn, sc, po, dp, v1, v2, v3, v4, b1, b2, b3, o1, o2, o3, s1, s2, e1, e2, e3, e4, e5, p1, p2, p3, p4, p5, p6⟩ := σ
  obtain ⟨x, xt⟩ := x
  simp only [signs, List.mem_cons, List.not_mem_nil, or_false] at hx
  rcases hx with rfl | rfl | rfl | rfl | rfl | rfl | rfl <;> cases k <;> cases i <;> kernel_rfl
noncomputable def nlL (xt : Tok) (cs : List (Nat × Tok)) (p : Pos) (N K : Nat) (d1 : Nat × Nat × Nat) (d2 : Nat × Nat) : Option V4 := lhsE ((E2 w).on (belC i φ ρ σ)) (rdX w i φ ρ σ g ln lt ep 80 hC3 (10, xt) cs p N K d1 d2) (rdQ ep g.left (10, xt) cs d1) L9
noncomputable def nlR (xt : Tok) (cs : List (Nat × Tok)) (p : Pos) (N K : Nat) (d1 : Nat × Nat × Nat) (d2 : Nat × Nat) : Option V4 := rhsE (rdX w i φ ρ σ g ln lt ep 80 hC3 (10, xt) cs p N K d1 d2) [] (rdQ ep g.left (10, xt) cs d1) (.ans (.ok (.ret (chV (10, xt))))) (g.nine w.params g.cit (ln + 1) (d2.2 + 4) (cs.map chV) (ep + 1)) (d2.1, 0) (d2.2, 7)
theorem nl_eq (xt : Tok) (cs : List (Nat × Tok)) (p : Pos) (N K : Nat) (d1 : Nat × Nat × Nat) (d2 : Nat × Nat) : nlL w i φ ρ σ g ln lt ep xt cs p N K d1 d2 = nlR w i φ ρ σ g ln lt ep xt cs p N K d1 d2 := by
  obtain ⟨k, t1, t2, t3, gn, sc, po, dp, v1, v2, v3, v4, b1, b2, b3, o1, o2, o3, s1, s2, e1, e2, e3, e4, e5, p1, p2, p3, p4, p5, p6⟩ := σ
  cases k <;> cases i <;> kernel_rfl
theorem rdC {E : En} {l : Addr} {x : Nat × Tok} {cs : List (Nat × Tok)} {ep : Nat} {d1 : Nat × Nat × Nat} (hc : cs.length < 999999) : CtrV E (rdQ ep l x cs d1) [QF (fLen ((x :: cs).map chV).length (listO ((x :: cs).map chV) ep)), QF (fPop (chV x) (cs.map chV) ep)] :=
  ⟨fun b => ctF_len _ _ _ _ _ (by rw [List.length_map]; exact Nat.succ_lt_succ hc), fun b => ctF_pop0 _ _ _ _ _ _ _ (by rw [List.length_map]; exact Nat.lt_succ_of_lt hc), trivial⟩
theorem cit_read (x : Nat × Tok) (cs : List (Nat × Tok)) (hx : x.1 ∈ 13 :: signs) (hc : cs.length < 999999) :
    Ctr (E2 w) (belC i φ ρ σ) (citC g.it) (g.nine w.params g.cit ln lt ((x :: cs).map chV) ep) (QF (fRd g w.params x ln lt (cs.map chV) ep)) :=
  Ctr.runD den_eq 100000 (fun N K p => .dat 87 hC1 [8] (fLen ((x :: cs).map chV).length (listO ((x :: cs).map chV) ep)) (0, 0, 0) fun d1 => .dat 12 [8, 9, 9, 9, 9, 9] [8] (fPop (chV x) (cs.map chV) ep) (0, 0) fun d2 => .fin 30 hC2)
    fun N K p d1 d2 => .mk' [] (rdQ ep g.left x cs d1) (d2.1, d2.2 + 2) (d2.1, 0) (d2.2, 2) L9 (rd_eq w i φ ρ σ g ln lt ep x hx cs p N K d1 d2) noG (rdC hc) rfl rfl rfl rfl
theorem cit_nl (xt : Tok) (cs : List (Nat × Tok)) (hc : cs.length < 999999) :
    Ctr (E2 w) (belC i φ ρ σ) (citC g.it) (g.nine w.params g.cit ln lt (((10, xt) :: cs).map chV) ep) (QF (fNln g w.params (10, xt) ln (cs.map chV) ep)) :=
  Ctr.runD den_eq 100000 (fun N K p => .dat 87 hC1 [8] (fLen (((10, xt) :: cs).map chV).length (listO (((10, xt) :: cs).map chV) ep)) (0, 0, 0) fun d1 => .dat 12 [8, 9, 9, 9, 9, 9] [8] (fPop (chV (10, xt)) (cs.map chV) ep) (0, 0) fun d2 => .fin 80 hC3)
    fun N K p d1 d2 => .mk' [] (rdQ ep g.left (10, xt) cs d1) (d2.2 + 4, d2.1, d2.2 + 7) (d2.1, 0) (d2.2, 7) L9 (nl_eq w i φ ρ σ g ln lt ep xt cs p N K d1 d2) noG (rdC hc) rfl rfl rfl rfl
theorem mth_end (p0 : Pos) : Ctr (E2 w) ((citC g.it, p0) :: belC i φ ρ σ) (.call (.ref g.mth) ⟨[], []⟩) (g.nine w.params g.cit ln lt [] ep) (QF (fEmpty (g.nine w.params g.cit ln lt [] ep))) := by
  refine Ctr.runD den_eq 100000 (fun N K p => .fin 115 hC4) fun N K p => .mk' [] [] (K + 7, N + 2, K + 10) (N, 2) (K, 10) L9 ?_ noG trivial rfl rfl rfl rfl
  obtain ⟨k, t1, t2, t3, gn, sc, po, dp, v1, v2, v3, v4, b1, b2, b3, o1, o2, o3, s1, s2, e1, e2, e3, e4, e5, p1, p2, p3, p4, p5, p6⟩ := σ
  cases k <;> cases i <;> kernel_rfl
theorem cit_after (xs : List Value) : Ctr (E2 w) (belC i φ ρ σ) (citC g.it) (g.nine w.params citX ln lt xs ep) (QF (fEnd g w.params ln lt xs ep)) :=
  Ctr.runD den_eq 100000 (fun N K p => .fin 5 [1]) fun N K p => .mk' [] [] (N + 1, N + 0, N + 2, K + 0) (N, 2) (K, 0) [0, 1, 2, 3, 4, 5, 6, 7, 8, 10] (by kernel_rfl) noG trivial rfl rfl rfl rfl
theorem cit_end : Ctr (E2 w) (belC i φ ρ σ) (citC g.it) (g.nine w.params g.cit ln lt [] ep) (QF (fEnd g w.params ln lt [] ep)) := by
  intro rest p s hk hp hn hkn hr
  have D0 := rp_start hk hp hn hkn hr
  refine wpCode_entry entry_cit ?_
  unfold Builtin.«callable_iterator.__next__»
  have hit : s.heap.get? g.it = some (citO (.ref g.mth) g.sen false) := hp _ (.head _)
  have hmth : s.heap.get? g.mth = some (methO 160 g.r) := hp _ (.tail _ (.head _))
  obtain ⟨fo, hfo, d, hd⟩ : ∃ fo, (kt2 w.params w.k).get 160 = some fo ∧ ∃ d, fo.data = .func d := ⟨_, rfl, _, rfl⟩
  show wp _ _ (Sem.bind (Sem.pure (Value.ref g.it, ([] : List Value))) _) _ _ p s
  rw [Sem.wp_bind, Sem.wp_pure]
  dsimp only
  rw [Sem.wp_bind', wp_field_iff]
  refine ⟨_, _, _, .bool false, rfl, hit, rfl, rfl, ?_⟩
  rw [if_neg (show ¬(Value.bool false == Value.bool true) = true by decide), Sem.wp_bind', wp_field_iff]
  refine ⟨_, _, _, .ref g.mth, rfl, hit, rfl, rfl, ?_⟩
  rw [Sem.wp_bind', Sem.wp_attempt]
  unfold callOutOfASlot
  rw [Sem.wp_bind']
  refine wp_borrows hmth (hk _ _ hfo) hd ?_
  rw [if_pos rfl]
  unfold callBorrowed
  rw [Sem.wp_call]
  refine wpCode_mono (fun r s₁ hr₁ => ?_) (mth_end w i φ ρ σ g ln lt ep p rest p s hk hp hn hkn hr)
  obtain ⟨o, rfl, ⟨⟨u, top, tok⟩, rfl⟩, P⟩ := hr₁
  have D1 := D0.after (ls := List.range 9) rfl P (st' := ⟨treeOf (g.nine w.params g.cit ln lt [] ep), 9, top, 0, tok, 0⟩) (by kernel_rfl)
  have hit₁ : s₁.heap.get? g.it = some (citO (.ref g.mth) g.sen false) := D1.own 0 _ rfl
  dsimp only [fEmpty]
  rw [Sem.wp_pure]
  rw [Sem.wp_bind', wp_field_iff]
  refine ⟨_, _, _, .bool false, rfl, hit₁, rfl, rfl, ?_⟩
  rw [if_neg (show ¬(Value.bool false == Value.bool true) = true by decide), Sem.wp_bind', wp_field_iff]
  refine ⟨_, _, _, .str ⟨#[]⟩ g.sen, rfl, hit₁, rfl, rfl, ?_⟩
  rw [Sem.wp_bind', Sem.wp_holding]
  refine wp_eqStr _ _ _ _ fun p' => ?_
  refine run_sound' ((E2 w).on (belC i φ ρ σ)) den_eq 100000 s.heap ((g.nine w.params g.cit ln lt [] ep).map fun x : Addr × Obj => x.1) rest _ (.fin 13 [1, 2, 0, 1, 0, 1, 0, 1, 0]) ⟨citC g.it, p', _, [], _, [], ⟨[], [], []⟩⟩ (FinD.toI ?_) s₁ D1
  refine .mk' [] [] (top + 1, top + 0, top + 2, tok + 0) (top, 2) (tok, 0) [0, 1, 2, 3, 4, 5, 6, 7, 8, 10] ?_ noG trivial rfl rfl rfl rfl
  kernel_rfl
end
end Mine
end
noncomputable section
namespace Mine
open PySem PySem.W PySem.W.X

theorem Loc.step {kt : KT} {s s' : Shared} {pre extra L' : List (Addr × Obj)} {rest : Array GenState × Drawn × OsState} (L : Loc kt s (pre ++ extra)) (A : Loc kt s' L') (hf : ∀ x ∈ L', x.1 ∈ pre.map (·.1) ∨ s.heap.objs.size ≤ x.1) (S : Since kt rest (pre.map (·.1)) s s') : Loc kt s' (L' ++ extra) := by
  have hn := L.nodup
  rw [List.map_append, List.nodup_append] at hn
  refine ⟨fun x hx => ?_, ?_, fun x hx => ?_⟩
  · rcases List.mem_append.mp hx with hx | hx
    · exact A.own x hx
    · exact S.frame _ _ (L.own x (List.mem_append_right _ hx)) fun hm => hn.2.2 x.1 hm x.1 (List.mem_map_of_mem hx) rfl
  · rw [List.map_append, List.nodup_append]
    refine ⟨A.nodup, hn.2.1, fun a ha b hb e => ?_⟩
    subst e
    obtain ⟨x, hx, ex⟩ := List.mem_map.mp ha
    rcases hf x hx with h | h
    · rw [ex] at h; exact hn.2.2 a h a hb rfl
    · obtain ⟨y, hy, ey⟩ := List.mem_map.mp hb
      have h1 := size_of_get (L.own y (List.mem_append_right _ hy))
      have e : y.1 = x.1 := ey.trans ex.symm
      rw [e] at h1
      exact absurd (Nat.lt_of_lt_of_le h1 h) (Nat.lt_irrefl _)
  · rcases List.mem_append.mp hx with hx | hx
    · exact A.kn x hx
    · exact L.kn x (List.mem_append_right _ hx)
/-! ## objects at hand since a point -/
structure At (kt : KT) (rest : Array GenState × Drawn × OsState) (m0 : List Addr) (s0 s : Shared) (l : List (Addr × Obj)) : Prop where
  loc : Loc kt s l
  fresh : ∀ x ∈ l, x.1 ∈ m0 ∨ s0.heap.objs.size ≤ x.1
  since : Since kt rest m0 s0 s
theorem Since.refl {kt : KT} {rest : Array GenState × Drawn × OsState} {m0 : List Addr} {s : Shared} (hk : ∀ a o, kt.get a = some o → s.heap.get? a = some o) (hr : (s.gens, s.drawn, s.os) = rest) : Since kt rest m0 s s := ⟨hk, fun _ _ h _ => h, Nat.le_refl _, hr⟩
theorem At.start {kt : KT} {rest : Array GenState × Drawn × OsState} {s : Shared} {l : List (Addr × Obj)} (L : Loc kt s l) (hk : ∀ a o, kt.get a = some o → s.heap.get? a = some o) (hr : (s.gens, s.drawn, s.os) = rest) : At kt rest (l.map (·.1)) s s l :=
  ⟨L, fun x hx => .inl (List.mem_map_of_mem hx), .refl hk hr⟩
theorem Since.trans {kt : KT} {rest : Array GenState × Drawn × OsState} {m0 m : List Addr} {s0 s s' : Shared} (h : Since kt rest m0 s0 s) (g : Since kt rest m s s') (hm : ∀ a ∈ m, a ∈ m0 ∨ s0.heap.objs.size ≤ a) : Since kt rest m0 s0 s' := by
  refine ⟨g.ktk, fun b ob hb hn => g.frame b ob (h.frame b ob hb hn) fun hm' => ?_, Nat.le_trans h.le g.le, g.rest⟩
  rcases hm b hm' with q | q
  · exact hn q
  · exact absurd (Nat.lt_of_lt_of_le (size_of_get hb) q) (Nat.lt_irrefl _)
theorem At.step {kt : KT} {rest : Array GenState × Drawn × OsState} {m0 : List Addr} {s0 s s' : Shared} {pre extra L' : List (Addr × Obj)} {top tok : Nat} {m : List Addr} (h : At kt rest m0 s0 s (pre ++ extra)) (em : pre.map (·.1) = m) (A : AtH kt rest s.heap m L' top tok s') : At kt rest m0 s0 s' (L' ++ extra) := by
  subst em
  have S := A.since
  have hm : ∀ a ∈ pre.map (·.1), a ∈ m0 ∨ s0.heap.objs.size ≤ a := fun a ha => by
    obtain ⟨x, hx, e⟩ := List.mem_map.mp ha
    exact e ▸ h.fresh x (List.mem_append_left _ hx)
  refine ⟨Loc.step h.loc A.loc A.fresh S, fun x hx => ?_, h.since.trans S hm⟩
  rcases List.mem_append.mp hx with hx | hx
  · rcases A.fresh x hx with q | q
    · exact hm _ q
    · exact .inr (Nat.le_trans h.since.le q)
  · exact h.fresh x (List.mem_append_right _ hx)
theorem At.sub {kt : KT} {rest : Array GenState × Drawn × OsState} {m0 : List Addr} {s0 s : Shared} {l l' : List (Addr × Obj)} (h : At kt rest m0 s0 s l) (hm : ∀ x ∈ l', x ∈ l) (hc : ∀ a, (l'.map (·.1)).count a ≤ (l.map (·.1)).count a) : At kt rest m0 s0 s l' :=
  ⟨h.loc.sub hm hc, fun x hx => h.fresh x (hm x hx), h.since⟩
theorem At.perm {kt : KT} {rest : Array GenState × Drawn × OsState} {m0 : List Addr} {s0 s : Shared} {l l' : List (Addr × Obj)} (h : At kt rest m0 s0 s l) (hp : l'.Perm l) : At kt rest m0 s0 s l' :=
  h.sub (fun x hx => hp.mem_iff.mp hx) fun a => Nat.le_of_eq ((hp.map _).count_eq a)
theorem At.left {kt : KT} {rest : Array GenState × Drawn × OsState} {m0 : List Addr} {s0 s : Shared} {a b : List (Addr × Obj)} (h : At kt rest m0 s0 s (a ++ b)) : At kt rest m0 s0 s a :=
  h.sub (fun x hx => List.mem_append_left _ hx) fun c => by rw [List.map_append, List.count_append]; omega
theorem At.lt {kt : KT} {rest : Array GenState × Drawn × OsState} {m0 : List Addr} {s0 s : Shared} {l : List (Addr × Obj)} (h : At kt rest m0 s0 s l) : Loc kt s l ∧ (∀ a o, kt.get a = some o → s.heap.get? a = some o) ∧ (s.gens, s.drawn, s.os) = rest := ⟨h.loc, h.since.ktk, h.since.rest⟩
/-! ## blocks of objects, taken in another order -/
noncomputable abbrev Bs := List (List (Addr × Obj))
noncomputable def cat : Bs → List (Addr × Obj)
  | [] => []
  | [x] => x
  | x :: y :: r => x ++ cat (y :: r)
theorem mem_cat {x : Addr × Obj} : ∀ {ls : Bs}, x ∈ cat ls ↔ ∃ b ∈ ls, x ∈ b
  | [] => ⟨fun h => (nomatch h), fun ⟨_, h, _⟩ => (nomatch h)⟩
  | [b] => ⟨fun h => ⟨b, .head _, h⟩, fun ⟨c, hc, h⟩ => by cases hc with | head => exact h | tail _ q => cases q⟩
  | b :: c :: r => by
    show x ∈ b ++ cat (c :: r) ↔ _
    rw [List.mem_append, mem_cat]
    refine ⟨fun h => ?_, fun ⟨d, hd, h⟩ => ?_⟩
    · rcases h with h | ⟨d, hd, h⟩
      · exact ⟨b, .head _, h⟩
      · exact ⟨d, .tail _ hd, h⟩
    · cases hd with
      | head => exact .inl h
      | tail _ hd => exact .inr ⟨d, hd, h⟩
noncomputable def cnt (a : Addr) (b : List (Addr × Obj)) : Nat := (b.map (·.1)).count a
theorem cnt_cat (a : Addr) : ∀ ls : Bs, cnt a (cat ls) = (ls.map (cnt a)).sum
  | [] => rfl
  | [b] => (Nat.add_zero _).symm
  | b :: c :: r => by
    show cnt a (b ++ cat (c :: r)) = cnt a b + ((c :: r).map (cnt a)).sum
    rw [← cnt_cat a (c :: r)]
    show ((b ++ _).map _).count a = _
    rw [List.map_append, List.count_append]; rfl
noncomputable def nthB (ls : Bs) (i : Nat) : List (Addr × Obj) := ls.getD i []
theorem sum_set (f : List (Addr × Obj) → Nat) (h0 : f [] = 0) : ∀ (ls : Bs) (i : Nat), (ls.map f).sum = f (nthB ls i) + ((ls.set i []).map f).sum
  | [], i => by show 0 = f [] + 0; rw [h0]
  | b :: ls, 0 => by show f b + _ = f b + (f [] + _); rw [h0, Nat.zero_add]
  | b :: ls, i + 1 => by
    show f b + (ls.map f).sum = f (nthB ls i) + (f b + ((ls.set i []).map f).sum)
    rw [sum_set f h0 ls i]; exact Nat.add_left_comm _ _ _
theorem sum_pick (f : List (Addr × Obj) → Nat) (h0 : f [] = 0) : ∀ (is : List Nat) (ls : Bs), is.Nodup → (is.map fun i => f (nthB ls i)).sum ≤ (ls.map f).sum
  | [], ls, _ => Nat.zero_le _
  | i :: is, ls, h => by
    have hn := List.nodup_cons.mp h
    have ih := sum_pick f h0 is (ls.set i []) hn.2
    rw [sum_set f h0 ls i]
    refine Nat.add_le_add_left (Nat.le_trans (Nat.le_of_eq ?_) ih) _
    refine congrArg List.sum (List.map_congr_left fun j hj => ?_)
    have hij : i ≠ j := fun e => hn.1 (e ▸ hj)
    unfold nthB
    rw [List.getD_eq_getElem?_getD, List.getD_eq_getElem?_getD, List.getElem?_set_ne hij]
theorem pick_mem {ls : Bs} {is : List Nat} {x : Addr × Obj} (hx : x ∈ cat (is.map (nthB ls))) : x ∈ cat ls := by
  obtain ⟨b, hb, hx⟩ := mem_cat.mp hx
  obtain ⟨i, _, rfl⟩ := List.mem_map.mp hb
  refine mem_cat.mpr ⟨_, ?_, hx⟩
  unfold nthB at hx ⊢
  rw [List.getD_eq_getElem?_getD] at hx ⊢
  cases e : ls[i]? with
  | none => rw [e] at hx; cases hx
  | some b => exact List.mem_of_getElem? e
theorem pick_cnt (ls : Bs) (is : List Nat) (hn : noDup is = true) (a : Addr) : cnt a (cat (is.map (nthB ls))) ≤ cnt a (cat ls) := by
  rw [cnt_cat, cnt_cat, List.map_map]
  exact sum_pick (cnt a) rfl is ls (noDup_sound hn)
theorem Loc.pick {kt : KT} {s : Shared} (ls : Bs) (is : List Nat) (h : Loc kt s (cat ls)) (hn : noDup is = true) : Loc kt s (cat (is.map (nthB ls))) := h.sub (fun _ hx => pick_mem hx) (pick_cnt ls is hn)
theorem At.pick {kt : KT} {rest : Array GenState × Drawn × OsState} {m0 : List Addr} {s0 s : Shared} (ls : Bs) (is : List Nat) (h : At kt rest m0 s0 s (cat ls)) (hn : noDup is = true) : At kt rest m0 s0 s (cat (is.map (nthB ls))) := h.sub (fun _ hx => pick_mem hx) (pick_cnt ls is hn)
theorem cat_cons (x : List (Addr × Obj)) : ∀ r : Bs, cat (x :: r) = x ++ cat r
  | [] => (List.append_nil x).symm
  | _ :: _ => rfl
theorem cat_one (bs : Bs) : ∀ l : List (Addr × Obj), cat (l.map (fun x => [x]) ++ bs) = l ++ cat bs
  | [] => rfl
  | x :: l => (cat_cons _ _).trans (congrArg (x :: ·) (cat_one bs l))
/-- the entries ahead and the blocks behind them, taken by their places -/
theorem At.pk {kt : KT} {rest : Array GenState × Drawn × OsState} {m0 : List Addr} {s0 s : Shared} {l : List (Addr × Obj)} (bs : Bs) (is : List Nat) (h : At kt rest m0 s0 s (l ++ cat bs)) (hn : noDup is = true) : At kt rest m0 s0 s (cat (is.map (nthB (l.map (fun x => [x]) ++ bs)))) :=
  At.pick _ is (by rw [cat_one]; exact h) hn
theorem Loc.pk {kt : KT} {s : Shared} {l : List (Addr × Obj)} (bs : Bs) (is : List Nat) (h : Loc kt s (l ++ cat bs)) (hn : noDup is = true) : Loc kt s (cat (is.map (nthB (l.map (fun x => [x]) ++ bs)))) :=
  Loc.pick _ is (by rw [cat_one]; exact h) hn
theorem At.pk2 {kt : KT} {rest : Array GenState × Drawn × OsState} {m0 : List Addr} {s0 s : Shared} {l l2 : List (Addr × Obj)} (bs : Bs) (is : List Nat) (h : At kt rest m0 s0 s (l ++ (l2 ++ cat bs))) (hn : noDup is = true) : At kt rest m0 s0 s (cat (is.map (nthB (l.map (fun x => [x]) ++ (l2.map (fun x => [x]) ++ bs))))) :=
  At.pick _ is (by rw [cat_one, cat_one]; exact h) hn
theorem At.pkx {kt : KT} {rest : Array GenState × Drawn × OsState} {m0 : List Addr} {s0 s : Shared} {l x l2 : List (Addr × Obj)} (bs : Bs) (is : List Nat) (h : At kt rest m0 s0 s (l ++ (x ++ (l2 ++ cat bs)))) (hn : noDup is = true) : At kt rest m0 s0 s (cat (is.map (nthB (l.map (fun x => [x]) ++ (x :: (l2.map (fun x => [x]) ++ bs)))))) :=
  At.pick _ is (by rw [cat_one, cat_cons, cat_one]; exact h) hn
theorem At.step0 {kt : KT} {rest : Array GenState × Drawn × OsState} {m0 : List Addr} {s0 s s' : Shared} {l : List (Addr × Obj)} {top tok : Nat} (h : At kt rest m0 s0 s l) (A : AtH kt rest s.heap [] [] top tok s') : At kt rest m0 s0 s' l := At.step (pre := []) (L' := []) h rfl A
theorem At.assoc {kt : KT} {rest : Array GenState × Drawn × OsState} {m0 : List Addr} {s0 s : Shared} {a b c : List (Addr × Obj)} (h : At kt rest m0 s0 s (a ++ b ++ c)) : At kt rest m0 s0 s (a ++ (b ++ c)) := List.append_assoc a b c ▸ h
theorem At.use {E : En} {bel : List (Code × Pos)} {c : Code} {pre extra : List (Addr × Obj)} {Q : Outc → Prop} (C : Ctr E bel c pre Q) {rest : Array GenState × Drawn × OsState} {m0 : List Addr} {s0 s : Shared} {p : Pos} (h : At E.kt rest m0 s0 s (pre ++ extra)) :
    wpCode E.M (Γof c bel) (fun r s' => ∃ o : Outc, o.r = r ∧ Q o ∧ At E.kt rest m0 s0 s' (upds pre o.upd ++ extra ++ o.new)) p s := by
  refine wpCode_mono (fun r s' ⟨o, e, q, L, hn, S⟩ => ⟨o, e, q, L, fun x hx => ?_, h.since.trans S fun a ha => ?_⟩) (C.use h.since.ktk h.since.rest h.loc)
  · rcases List.mem_append.mp hx with hx | hx
    · rcases List.mem_append.mp hx with hx | hx
      · have : x.1 ∈ (pre.map (·.1)) := by
          have := List.of_mem_zip (show (x.1, x.2) ∈ (pre.map (·.1)).zip o.upd from hx)
          exact this.1
        obtain ⟨y, hy, e⟩ := List.mem_map.mp this
        exact e ▸ h.fresh y (List.mem_append_left _ hy)
      · exact h.fresh x (List.mem_append_right _ hx)
    · exact .inr (Nat.le_trans h.since.le (hn x hx))
  · obtain ⟨y, hy, e⟩ := List.mem_map.mp ha
    exact e ▸ h.fresh y (List.mem_append_left _ hy)

end Mine
end
noncomputable section
namespace Mine
open PySem PySem.W PySem.W.X

theorem one_len (x : Nat) : (one x).length = 1 := rfl
theorem append_codes (τ : Str) (x : Nat × Tok) (ws : List (Nat × Tok)) : (τ ++ one x.1) ++ codes ws = τ ++ codes (x :: ws) := by
  rw [Str.append_assoc]
  congr 1
  show Str.mk (#[x.1] ++ (ws.map (·.1)).toArray) = Str.mk ((x :: ws).map (·.1)).toArray
  congr 1
  simp
theorem append_codes_nil (τ : Str) : τ ++ codes [] = τ := by
  obtain ⟨a⟩ := τ
  show Str.mk (a ++ #[]) = Str.mk a
  rw [Array.append_empty]
noncomputable def pIn : Pos := ⟨80, 20, 80, 22⟩
noncomputable def swIn (g : G) (p : Pos) : Sw := ⟨forT innerFor, .ref g.it, forB innerFor, forE innerFor, [], gtEnv g.L, gtEnv g.L, p, p⟩
noncomputable def hI : List Nat := [0, 11, 10, 11, 1, 0, 0, 11, 2, 2, 1, 0, 0, 0, 1, 0, 1, 1, 4, 0, 0, 0, 4, 0, 0, 0, 4, 4, 0, 5, 1, 1, 0, 0, 1, 1]
noncomputable def hI3 : List Nat := [0, 11, 10, 11, 1, 0, 0, 11, 2, 2, 1, 0, 0, 0, 1, 0, 1, 1, 4, 0, 0, 0, 4, 0, 0, 0, 4, 4, 0, 5, 1]

/-! ## the inner loop -/
section
variable (w : WK) (ρ : Sw) (σ : Sv) (g : G) (τ : Str) (tt : Tok) (ch : Value) (ln : Int) (lt : Tok) (x : Nat × Tok) (cs : List (Nat × Tok)) (ep : Nat) (p : Pos) (N K : Nat) (d1 : Nat × Nat × Nat) (d2 : Nat × Nat)
noncomputable def inX (is : List Ins) (n : Nat) (hs : List Nat) : Option Res := exec ((E2 w).on (belIn ρ σ)) 100000
  (.ctr 92 hA [9] (fLen ((x :: cs).map chV).length (listO ((x :: cs).map chV) ep) d1) :: .ctr 12 hB [9] (fPop (chV x) (cs.map chV) ep d2) :: is) n hs (x0 (E2 w) (inCode g.L g.it) p (g.pre w.params (.str τ tt) ch ln lt ((x :: cs).map chV) ep) N K)
noncomputable def inG : List (Code × Made) := [(.builtin "str.__add__" ⟨[.str τ tt, chV x], []⟩, .str (τ ++ one x.1))]
noncomputable def inL : Option V4 := lhsE ((E2 w).on (belIn ρ σ)) (inX w ρ σ g τ tt ch ln lt x cs ep p N K d1 d2 [.pur 80 hI (.str (τ ++ one x.1))] 9 [0, 1, 0]) (rdQ ep g.left x cs d1) LS
noncomputable def inR : Option V4 := rhsE (inX w ρ σ g τ tt ch ln lt x cs ep p N K d1 d2 [.pur 80 hI (.str (τ ++ one x.1))] 9 [0, 1, 0]) (inG τ tt x) (rdQ ep g.left x cs d1) (.nxt (inCode g.L g.it)) (g.pre w.params (.str (τ ++ one x.1) (d2.2 + 5)) (chV x) ln lt (cs.map chV) (ep + 1)) (d2.1, 0) (d2.2, 7)
theorem in_eq (hx : x.1 ∈ signs) : inL w ρ σ g τ tt ch ln lt x cs ep p N K d1 d2 = inR w ρ σ g τ tt ch ln lt x cs ep p N K d1 d2 := by
  obtain ⟨k, t1, t2, t3, gn, sc, po, dp, v1, v2, v3, v4, b1, b2, b3, o1, o2, o3, s1, s2, e1, e2, e3, e4, e5, p1, p2, p3, p4, p5, p6⟩ := σ
  obtain ⟨x, xt⟩ := x
  simp only [signs, List.mem_cons, List.not_mem_nil, or_false] at hx
  rcases hx with rfl | rfl | rfl | rfl | rfl | rfl <;> cases k <;> kernel_rfl
noncomputable def irL : Option V4 := lhsE ((E2 w).on (belIn ρ σ)) (inX w ρ σ g τ tt ch ln lt (13, x.2) cs ep p N K d1 d2 [] 67 hI3) (rdQ ep g.left (13, x.2) cs d1) LS
noncomputable def irR : Option V4 := rhsE (inX w ρ σ g τ tt ch ln lt (13, x.2) cs ep p N K d1 d2 [] 67 hI3) [] (rdQ ep g.left (13, x.2) cs d1) (.ans (.ok (.ret (.str τ tt)))) (g.preW w.params (frmD w.params g.a0 g.a1 g.a2 g.a3 g.r (.str τ tt) g.it (chV (13, x.2))) g.cit ln lt (cs.map chV) (ep + 1)) (d2.1, 0) (d2.2, 4)
theorem ir_eq : irL w ρ σ g τ tt ch ln lt x cs ep p N K d1 d2 = irR w ρ σ g τ tt ch ln lt x cs ep p N K d1 d2 := by
  obtain ⟨k, t1, t2, t3, gn, sc, po, dp, v1, v2, v3, v4, b1, b2, b3, o1, o2, o3, s1, s2, e1, e2, e3, e4, e5, p1, p2, p3, p4, p5, p6⟩ := σ
  cases k <;> kernel_rfl
end
section
variable (w : WK) (ρ : Sw) (σ : Sv) (g : G) (ln : Int) (lt : Tok) {rest : Array GenState × Drawn × OsState} {m0 : List Addr} {s0 : Shared} (extra : List (Addr × Obj)) (R : Result → Shared → Prop)
theorem in_turn (τ : Str) (tt : Tok) (ch : Value) (x : Nat × Tok) (cs : List (Nat × Tok)) (ep : Nat) (p : Pos) (s : Shared) (hx : x.1 ∈ signs) (hτ : 0 < τ.length) (hz : τ.length < 1000000) (hc : cs.length < 999999)
    (h : At (E2 w).kt rest m0 s0 s (g.pre w.params (.str τ tt) ch ln lt ((x :: cs).map chV) ep ++ extra))
    (next : ∀ tt' p' s', At (E2 w).kt rest m0 s0 s' (g.pre w.params (.str (τ ++ one x.1) tt') (chV x) ln lt (cs.map chV) (ep + 1) ++ extra) → wpCode (E2 w).M (Γof (inCode g.L g.it) (belIn ρ σ)) R p' s') :
    wpCode (E2 w).M (Γof (inCode g.L g.it) (belIn ρ σ)) R p s :=
  wp_run (E2 w) den_eq 100000 (belIn ρ σ) _ p s _ h.left.loc h.since.ktk h.since.rest R (fun N K => .dat 92 hA [9] (fLen ((x :: cs).map chV).length (listO ((x :: cs).map chV) ep)) (0, 0, 0) fun d1 => .dat 12 hB [9] (fPop (chV x) (cs.map chV) ep) (0, 0) fun d2 => .pur 80 hI (.str (τ ++ one x.1)) <| .fin 9 [0, 1, 0])
    fun N K _ _ d1 d2 => .mk' (inG τ tt x) (rdQ ep g.left x cs d1) (.nxt (inCode g.L g.it)) (g.pre w.params (.str (τ ++ one x.1) (d2.2 + 5)) (chV x) ln lt (cs.map chV) (ep + 1)) (d2.1, 0) (d2.2, 7) LS (in_eq w ρ σ g τ tt ch ln lt x cs ep p N K d1 d2 hx) (oneG (gives_add τ tt x.1 x.2 hτ hz)) (rdC hc).toH rfl fun p' s' A => next _ p' s' (h.step rfl A)
theorem in_ret (τ : Str) (tt : Tok) (ch : Value) (t : Tok) (cs : List (Nat × Tok)) (ep : Nat) (p : Pos) (s : Shared) (hc : cs.length < 999999)
    (h : At (E2 w).kt rest m0 s0 s (g.pre w.params (.str τ tt) ch ln lt (((13, t) :: cs).map chV) ep ++ extra))
    (next : ∀ fo s', At (E2 w).kt rest m0 s0 s' (g.preW w.params fo g.cit ln lt (cs.map chV) (ep + 1) ++ extra) → R (.ok (.ret (.str τ tt))) s') : wpCode (E2 w).M (Γof (inCode g.L g.it) (belIn ρ σ)) R p s :=
  wp_run (E2 w) den_eq 100000 (belIn ρ σ) _ p s _ h.left.loc h.since.ktk h.since.rest R (fun N K => .dat 92 hA [9] (fLen (((13, t) :: cs).map chV).length (listO (((13, t) :: cs).map chV) ep)) (0, 0, 0) fun d1 => .dat 12 hB [9] (fPop (chV (13, t)) (cs.map chV) ep) (0, 0) fun d2 => .fin 67 hI3)
    fun N K _ _ d1 d2 => .mk' [] (rdQ ep g.left (13, t) cs d1) (.ans (.ok (.ret (.str τ tt)))) (g.preW w.params (frmD w.params g.a0 g.a1 g.a2 g.a3 g.r (.str τ tt) g.it (chV (13, t))) g.cit ln lt (cs.map chV) (ep + 1)) (d2.1, 0) (d2.2, 4) LS (ir_eq w ρ σ g τ tt ch ln lt (13, t) cs ep p N K d1 d2) noG (rdC hc).toH rfl fun s' A => next _ s' (h.step rfl A)
theorem in_end (τ : Str) (tt : Tok) (ch : Value) (ep : Nat) (p : Pos) (s : Shared) (h : At (E2 w).kt rest m0 s0 s (g.pre w.params (.str τ tt) ch ln lt [] ep ++ extra))
    (next : ∀ s', At (E2 w).kt rest m0 s0 s' (g.preW w.params (frmD w.params g.a0 g.a1 g.a2 g.a3 g.r (.str τ tt) g.it ch) citX ln lt [] ep ++ extra) → R (.ok .next) s') : wpCode (E2 w).M (Γof (inCode g.L g.it) (belIn ρ σ)) R p s :=
  wp_run (E2 w) den_eq 100000 (belIn ρ σ) _ p s _ h.left.loc h.since.ktk h.since.rest R (fun N K => .dat 4 [2, 2] [1, 2, 3, 4, 5, 6, 7, 8, 9] (fEnd g w.params ln lt [] ep) (0, 0, 0, 0) fun d => .fin 3 [11])
    fun N K _ _ d => .mk' [] [(some (belC true (swIn g pIn) ρ σ), citC g.it, g.nine w.params g.cit ln lt [] ep)] (.ans (.ok .next)) (g.preW w.params (frmD w.params g.a0 g.a1 g.a2 g.a3 g.r (.str τ tt) g.it ch) citX ln lt [] ep) (d.2.2.1, 0) (d.2.2.2, 0) LS (by kernel_rfl) noG ⟨(cit_end w true (swIn g pIn) ρ σ g ln lt ep).toH, trivial⟩ rfl fun s' A => next s' (h.step rfl A)
/-- the signs of a word, one by one -/
theorem in_loop (e : List (Nat × Tok)) (he : e.length < 400000) (T : Str) (hend : ∀ tt ch ep p s, At (E2 w).kt rest m0 s0 s (g.pre w.params (.str T tt) ch ln lt (e.map chV) ep ++ extra) → wpCode (E2 w).M (Γof (inCode g.L g.it) (belIn ρ σ)) R p s) :
    ∀ (ws : List (Nat × Tok)) (τ : Str) (tt : Tok) (ch : Value) (ep : Nat) (p : Pos) (s : Shared), (∀ x ∈ ws, x.1 ∈ signs) → 0 < τ.length → τ.length + ws.length < 400000 → τ ++ codes ws = T →
      At (E2 w).kt rest m0 s0 s (g.pre w.params (.str τ tt) ch ln lt ((ws ++ e).map chV) ep ++ extra) → wpCode (E2 w).M (Γof (inCode g.L g.it) (belIn ρ σ)) R p s
  | [], τ, tt, ch, ep, p, s, _, _, _, hT, h => by
    rw [append_codes_nil] at hT
    exact hend tt ch ep p s (hT ▸ h)
  | x :: ws, τ, tt, ch, ep, p, s, hx, hτ, hl, hT, h => by
    have h1 : (τ ++ one x.1).length = τ.length + 1 := Str.length_append ..
    rw [List.length_cons] at hl
    have h2 : (ws ++ e).length = ws.length + e.length := List.length_append
    refine in_turn w ρ σ g ln lt extra R τ tt ch x (ws ++ e) ep p s (hx _ (.head _)) hτ (by omega) (by omega) h fun tt' p' s' A => ?_
    exact in_loop e he T hend ws (τ ++ one x.1) tt' (chV x) (ep + 1) p' s' (fun y hy => hx y (.tail _ hy)) (by omega) (by omega) ((append_codes τ x ws).trans hT) A
end
end Mine
end
noncomputable section
namespace Mine
open PySem PySem.W PySem.W.X

noncomputable def outCode (L it : Addr) : Code := .forLoop (forT outerFor) (.ref it) (forB outerFor) (forE outerFor) (gtEnv L)
noncomputable def pOut : Pos := ⟨66, 12, 66, 14⟩
noncomputable def pInn : Pos := ⟨80, 26, 80, 31⟩
noncomputable def swOut (g : G) (ρ : Sw) (p : Pos) : Sw := ⟨forT outerFor, .ref g.it, forB outerFor, forE outerFor, ρ.s, gtEnv g.L, ρ.e', p, ρ.p'⟩
noncomputable def outBel (ρ : Sw) (σ : Sv) : List (Code × Pos) := (.func ρ.s ρ.e', ρ.p') :: σ.list
noncomputable def frO (g : G) (P : Params) (tok : Value) : Option (Tok × Value) → Obj
  | none => frm3 P g.a0 g.a1 g.a2 g.r tok g.it
  | some c => frmD P g.a0 g.a1 g.a2 c.1 g.r tok g.it c.2
noncomputable def a3Of (k : Tok) : Option (Tok × Value) → Tok
  | none => k
  | some c => c.1
noncomputable def G.io (g : G) : Bool → Obj
  | true => g.cit
  | false => citX
noncomputable def G.at3 (g : G) (k : Tok) : G := { g with a3 := k }
noncomputable def signs0 : List Nat := [46, 97, 98, 35, 99]
noncomputable def hO : List Nat := [0, 1, 0, 1, 1, 4, 0, 0, 0, 4, 0, 0, 0, 4, 4, 0, 5, 1, 1, 0, 0, 1, 1, 0, 0, 1, 1, 0, 1, 0, 1, 2, 2, 1, 0, 0, 2, 2]
noncomputable def hNl : List Nat := [0, 1, 0, 1, 1, 4, 0, 0, 0, 4, 0, 0, 0, 4, 4, 0, 5]
noncomputable def L19 : List Nat := [1, 2, 3, 4, 5, 6, 7, 8, 9]
theorem signs_of {x : Nat} (h : x ∈ signs0) : x ∈ signs := by
  have : ∀ z ∈ signs0, z ∈ signs := by decide
  exact this x h

/-! ## the outer loop -/
section
variable (w : WK) (ρ : Sw) (σ : Sv) (g : G) (tt : Tok) (c : Option (Tok × Value)) (ln : Int) (lt : Tok) (x : Nat × Tok) (cs : List (Nat × Tok)) (ep : Nat) (p : Pos) (N K : Nat) (d : Nat × Nat)
noncomputable def outX : Option Res := exec ((E2 w).on (outBel ρ σ)) 100000 [.ctr 4 [2, 2] L19 (fRd g w.params x ln lt (cs.map chV) ep d)] 81 hO (x0 (E2 w) (outCode g.L g.it) p (g.preW w.params (frO g w.params (.str ⟨#[]⟩ tt) c) g.cit ln lt ((x :: cs).map chV) ep) N K)
noncomputable def outQ : List Qv := [(some (belC false (swOut g ρ pOut) ρ σ), citC g.it, g.nine w.params g.cit ln lt ((x :: cs).map chV) ep)]
noncomputable def outL : Option V4 := lhsE ((E2 w).on (outBel ρ σ)) (outX w ρ σ g tt c ln lt x cs ep p N K d) (outQ w ρ σ g ln lt x cs ep) LS
noncomputable def outR : Option V4 := rhsE (outX w ρ σ g tt c ln lt x cs ep p N K d) [] (outQ w ρ σ g ln lt x cs ep) (.cal (inCode g.L g.it) (belIn (swOut g ρ pInn) σ)) ((g.at3 (a3Of (d.2 + 0) c)).pre w.params (.str (one x.1) x.2) (chV x) ln lt (cs.map chV) (ep + 1)) (d.1, 0) (d.2, 5)
theorem out_eq (hx : x.1 ∈ signs0) : outL w ρ σ g tt c ln lt x cs ep p N K d = outR w ρ σ g tt c ln lt x cs ep p N K d := by
  obtain ⟨k, t1, t2, t3, gn, sc, po, dp, v1, v2, v3, v4, b1, b2, b3, o1, o2, o3, s1, s2, e1, e2, e3, e4, e5, p1, p2, p3, p4, p5, p6⟩ := σ
  obtain ⟨x, xt⟩ := x
  simp only [signs0, List.mem_cons, List.not_mem_nil, or_false] at hx
  rcases hx with rfl | rfl | rfl | rfl | rfl <;> rcases c with _ | ⟨a3, ch⟩ <;> cases k <;> kernel_rfl
noncomputable def obX (o : Option Res) (a : Result) (M O : Nat) : Option Res := exec ((E2 w).on (outBel ρ σ)) 100000 [] 0 [] (cutX o a ⟨treeOf [], 0, M, 0, O, 0⟩)
noncomputable def obL (o : Option Res) (a : Result) (M O : Nat) : Option V4 := lhsE ((E2 w).on (outBel ρ σ)) (obX w ρ σ o a M O) [] []
noncomputable def obR (o : Option Res) (a : Result) (M O : Nat) (e : EndV) : Option V4 := rhsE (obX w ρ σ o a M O) [] [] e [] (M, 0) (O, 0)
theorem ob_eq (M O : Nat) (hx : x.1 ∈ signs0) : (∀ v, obL w ρ σ (outX w ρ σ g tt c ln lt x cs ep p N K d) (.ok (.ret v)) M O = obR w ρ σ (outX w ρ σ g tt c ln lt x cs ep p N K d) (.ok (.ret v)) M O (.ans (.ok (.ret v)))) ∧ obL w ρ σ (outX w ρ σ g tt c ln lt x cs ep p N K d) (.ok .next) M O = obR w ρ σ (outX w ρ σ g tt c ln lt x cs ep p N K d) (.ok .next) M O (.nxt (outCode g.L g.it)) := by
  obtain ⟨k, t1, t2, t3, gn, sc, po, dp, v1, v2, v3, v4, b1, b2, b3, o1, o2, o3, s1, s2, e1, e2, e3, e4, e5, p1, p2, p3, p4, p5, p6⟩ := σ
  obtain ⟨x, xt⟩ := x
  simp only [signs0, List.mem_cons, List.not_mem_nil, or_false] at hx
  rcases hx with rfl | rfl | rfl | rfl | rfl <;> rcases c with _ | ⟨a3, ch⟩ <;> cases k <;> exact ⟨fun v => by kernel_rfl, by kernel_rfl⟩
end
section
variable (w : WK) (ρ : Sw) (σ : Sv) (g : G) (tt : Tok) (c : Option (Tok × Value)) (ln : Int) (lt : Tok) (ep : Nat) {rest : Array GenState × Drawn × OsState} {m0 : List Addr} {s0 : Shared} (extra : List (Addr × Obj)) (R : Result → Shared → Prop) (p : Pos) (s : Shared)
theorem out_back (o : Option Res) (hR : ∀ v M O, obL w ρ σ o (.ok (.ret v)) M O = obR w ρ σ o (.ok (.ret v)) M O (.ans (.ok (.ret v)))) (hN : ∀ M O, obL w ρ σ o (.ok .next) M O = obR w ρ σ o (.ok .next) M O (.nxt (outCode g.L g.it))) :
    (∀ v l s2, At (E2 w).kt rest m0 s0 s2 l → (∀ s3, At (E2 w).kt rest m0 s0 s3 l → R (.ok (.ret v)) s3) → MeansX ((E2 w).on (outBel ρ σ)) R (cutX o (.ok (.ret v)) St0) s2) ∧
    (∀ l s2, At (E2 w).kt rest m0 s0 s2 l → (∀ p3 s3, At (E2 w).kt rest m0 s0 s3 l → wpCode (E2 w).M (Γof (outCode g.L g.it) (outBel ρ σ)) R p3 s3) → MeansX ((E2 w).on (outBel ρ σ)) R (cutX o (.ok .next) St0) s2) := by
  refine ⟨fun v l s2 A2 hv => ?_, fun l s2 A2 hv => ?_⟩
  · refine run_on (E2 w) den_eq 100000 (outBel ρ σ) _ _ s2 [] (rest := rest) ⟨fun _ h => (nomatch h), List.nodup_nil, fun _ h => (nomatch h)⟩ A2.since.ktk A2.since.rest R (fun N K => .fin 0 []) fun M O _ _ => ?_
    exact .mk' [] [] (.ans (.ok (.ret v))) [] (M, 0) (O, 0) [] (hR v M O) noG trivial rfl fun s3 A3 => hv s3 (A2.step0 A3)
  · refine run_on (E2 w) den_eq 100000 (outBel ρ σ) _ _ s2 [] (rest := rest) ⟨fun _ h => (nomatch h), List.nodup_nil, fun _ h => (nomatch h)⟩ A2.since.ktk A2.since.rest R (fun N K => .fin 0 []) fun M O _ _ => ?_
    exact .mk' [] [] (.nxt (outCode g.L g.it)) [] (M, 0) (O, 0) [] (hN M O) noG trivial rfl fun p3 s3 A3 => hv p3 s3 (A2.step0 A3)
/-- a sign: the inner loop reads its word -/
theorem out_turn (x : Nat × Tok) (cs : List (Nat × Tok)) (hx : x.1 ∈ signs0) (hc : cs.length < 999999) (h : At (E2 w).kt rest m0 s0 s (g.preW w.params (frO g w.params (.str ⟨#[]⟩ tt) c) g.cit ln lt ((x :: cs).map chV) ep ++ extra))
    (next : ∀ a3 (R' : Result → Shared → Prop) p' s', (∀ v l s2, At (E2 w).kt rest m0 s0 s2 l → (∀ s3, At (E2 w).kt rest m0 s0 s3 l → R (.ok (.ret v)) s3) → R' (.ok (.ret v)) s2) → (∀ l s2, At (E2 w).kt rest m0 s0 s2 l → (∀ p3 s3, At (E2 w).kt rest m0 s0 s3 l → wpCode (E2 w).M (Γof (outCode g.L g.it) (outBel ρ σ)) R p3 s3) → R' (.ok .next) s2) →
      At (E2 w).kt rest m0 s0 s' ((g.at3 a3).pre w.params (.str (one x.1) x.2) (chV x) ln lt (cs.map chV) (ep + 1) ++ extra) → wpCode (E2 w).M (Γof (inCode g.L g.it) (belIn (swOut g ρ pInn) σ)) R' p' s') :
    wpCode (E2 w).M (Γof (outCode g.L g.it) (outBel ρ σ)) R p s := by
  refine wp_run (E2 w) den_eq 100000 (outBel ρ σ) _ p s _ h.left.loc h.since.ktk h.since.rest R (fun N K => .dat 4 [2, 2] L19 (fRd g w.params x ln lt (cs.map chV) ep) (0, 0) fun d => .fin 81 hO) fun N K _ _ d => ?_
  refine .mk' [] (outQ w ρ σ g ln lt x cs ep) (.cal (inCode g.L g.it) (belIn (swOut g ρ pInn) σ)) ((g.at3 (a3Of (d.2 + 0) c)).pre w.params (.str (one x.1) x.2) (chV x) ln lt (cs.map chV) (ep + 1)) (d.1, 0) (d.2, 5) LS (out_eq w ρ σ g tt c ln lt x cs ep p N K d hx) noG ⟨(cit_read w false (swOut g ρ pOut) ρ σ g ln lt ep x cs (.tail _ (signs_of hx)) hc).toH, trivial⟩ rfl (EndGo.call (outX w ρ σ g tt c ln lt x cs ep p N K d) rfl fun o ho p' s' A => ?_)
  have hA : At (E2 w).kt rest m0 s0 s' ((g.at3 (a3Of (d.2 + 0) c)).pre w.params (.str (one x.1) x.2) (chV x) ln lt (cs.map chV) (ep + 1) ++ extra) := h.step rfl A
  have hb := out_back w ρ σ g R (rest := rest) (m0 := m0) (s0 := s0) o (fun v M O => ho ▸ (ob_eq w ρ σ g tt c ln lt x cs ep p N K d M O hx).1 v) (fun M O => ho ▸ (ob_eq w ρ σ g tt c ln lt x cs ep p N K d M O hx).2)
  exact next (a3Of (d.2 + 0) c) _ p' s' hb.1 hb.2 hA
theorem cit_ends (b : Bool) : Ctr (E2 w) (belC false (swOut g ρ pOut) ρ σ) (citC g.it) (g.nine w.params (g.io b) ln lt [] ep) (QF (fEnd g w.params ln lt [] ep)) := match b with
  | true => cit_end w false (swOut g ρ pOut) ρ σ g ln lt ep
  | false => cit_after w false (swOut g ρ pOut) ρ σ g ln lt ep []
/-- nothing more: the loop ends -/
theorem out_end (b : Bool) (T : Str) (h : At (E2 w).kt rest m0 s0 s (g.preW w.params (frO g w.params (.str T tt) c) (g.io b) ln lt [] ep ++ extra))
    (next : ∀ s', At (E2 w).kt rest m0 s0 s' (g.preW w.params (frO g w.params (.str T tt) c) citX ln lt [] ep ++ extra) → R (.ok .next) s') : wpCode (E2 w).M (Γof (outCode g.L g.it) (outBel ρ σ)) R p s :=
  wp_run (E2 w) den_eq 100000 (outBel ρ σ) _ p s _ h.left.loc h.since.ktk h.since.rest R (fun N K => .dat 4 [2, 2] L19 (fEnd g w.params ln lt [] ep) (0, 0, 0, 0) fun d => .fin 3 [11])
    fun N K _ _ d => .mk' [] [(some (belC false (swOut g ρ pOut) ρ σ), citC g.it, g.nine w.params (g.io b) ln lt [] ep)] (.ans (.ok .next)) (g.preW w.params (frO g w.params (.str T tt) c) citX ln lt [] ep) (d.2.2.1, 0) (d.2.2.2, 0) LS (by cases b <;> kernel_rfl) noG ⟨(cit_ends w ρ σ g ln lt ep b).toH, trivial⟩ rfl fun s' A => next s' (h.step rfl A)
/-- a newline ahead -/
theorem out_nl (xt : Tok) (cs : List (Nat × Tok)) (hc : cs.length < 999999) (h : At (E2 w).kt rest m0 s0 s (g.preW w.params (frO g w.params (.str ⟨#[]⟩ tt) c) g.cit ln lt (((10, xt) :: cs).map chV) ep ++ extra))
    (next : ∀ lt' c' p' s', At (E2 w).kt rest m0 s0 s' (g.preW w.params (frO g w.params (.str ⟨#[]⟩ tt) c') g.cit (ln + 1) lt' (cs.map chV) (ep + 1) ++ extra) → wpCode (E2 w).M (Γof (outCode g.L g.it) (outBel ρ σ)) R p' s') : wpCode (E2 w).M (Γof (outCode g.L g.it) (outBel ρ σ)) R p s := by
  refine wp_run (E2 w) den_eq 100000 (outBel ρ σ) _ p s _ h.left.loc h.since.ktk h.since.rest R (fun N K => .dat 4 [2, 2] L19 (fNln g w.params (10, xt) ln (cs.map chV) ep) (0, 0, 0) fun d => .fin 35 hNl) fun N K _ _ d => ?_
  refine .mk' [] [(some (belC false (swOut g ρ pOut) ρ σ), citC g.it, g.nine w.params g.cit ln lt (((10, xt) :: cs).map chV) ep)] (.nxt (outCode g.L g.it)) (g.preW w.params (frO g w.params (.str ⟨#[]⟩ tt) (some (a3Of (d.2.2 + 0) c, chV (10, xt)))) g.cit (ln + 1) d.1 (cs.map chV) (ep + 1)) (d.2.1, 0) (d.2.2, 2) LS ?_ noG ⟨(cit_nl w false (swOut g ρ pOut) ρ σ g ln lt ep xt cs hc).toH, trivial⟩ rfl fun p' s' A => next _ _ p' s' (h.step rfl A)
  obtain ⟨k, t1, t2, t3, gn, sc, po, dp, v1, v2, v3, v4, b1, b2, b3, o1, o2, o3, s1, s2, e1, e2, e3, e4, e5, p1, p2, p3, p4, p5, p6⟩ := σ
  rcases c with _ | ⟨a3, ch⟩ <;> cases k <;> kernel_rfl
/-- a word with a return behind -/
theorem out_word13 (x : Nat × Tok) (t : Tok) (ws rst : List (Nat × Tok)) (hx : x.1 ∈ signs0) (hws : ∀ y ∈ ws, y.1 ∈ signs) (hl : ws.length < 300000) (hr : rst.length < 300000)
    (h : At (E2 w).kt rest m0 s0 s (g.preW w.params (frO g w.params (.str ⟨#[]⟩ tt) c) g.cit ln lt ((x :: (ws ++ (13, t) :: rst)).map chV) ep ++ extra))
    (next : ∀ fo tt ep s', At (E2 w).kt rest m0 s0 s' (g.preW w.params fo g.cit ln lt (rst.map chV) ep ++ extra) → R (.ok (.ret (.str (one x.1 ++ codes ws) tt))) s') : wpCode (E2 w).M (Γof (outCode g.L g.it) (outBel ρ σ)) R p s := by
  have hl2 : (ws ++ (13, t) :: rst).length = ws.length + (rst.length + 1) := by rw [List.length_append, List.length_cons]
  refine out_turn w ρ σ g tt c ln lt ep extra R p s x _ hx (by omega) h fun a3 R' p' s' hR _ A => ?_
  refine in_loop w (swOut g ρ pInn) σ (g.at3 a3) ln lt extra R' ((13, t) :: rst) (by rw [List.length_cons]; omega) (one x.1 ++ codes ws) (fun tt2 ch2 ep2 p2 s2 A2 => ?_) ws (one x.1) x.2 (chV x) (ep + 1) p' s' hws Nat.one_pos (by rw [one_len]; omega) rfl A
  exact in_ret w (swOut g ρ pInn) σ (g.at3 a3) ln lt extra R' _ tt2 ch2 t rst ep2 p2 s2 (by omega) A2 fun fo s3 A3 => hR _ _ s3 A3 fun s4 A4 => next fo tt2 _ s4 A4
/-- the last word -/
theorem out_wordE (x : Nat × Tok) (ws : List (Nat × Tok)) (hx : x.1 ∈ signs0) (hws : ∀ y ∈ ws, y.1 ∈ signs) (hl : ws.length < 300000)
    (h : At (E2 w).kt rest m0 s0 s (g.preW w.params (frO g w.params (.str ⟨#[]⟩ tt) c) g.cit ln lt ((x :: ws).map chV) ep ++ extra))
    (next : ∀ c tt ep s', At (E2 w).kt rest m0 s0 s' (g.preW w.params (frO g w.params (.str (one x.1 ++ codes ws) tt) c) citX ln lt [] ep ++ extra) → R (.ok .next) s') : wpCode (E2 w).M (Γof (outCode g.L g.it) (outBel ρ σ)) R p s := by
  refine out_turn w ρ σ g tt c ln lt ep extra R p s x _ hx (by omega) h fun a3 R' p' s' _ hR A => ?_
  refine in_loop w (swOut g ρ pInn) σ (g.at3 a3) ln lt extra R' [] (Nat.zero_lt_succ _) (one x.1 ++ codes ws) (fun tt2 ch2 ep2 p2 s2 A2 => ?_) ws (one x.1) x.2 (chV x) (ep + 1) p' s' hws Nat.one_pos (by rw [one_len]; omega) rfl (by rw [List.append_nil]; exact A)
  refine in_end w (swOut g ρ pInn) σ (g.at3 a3) ln lt extra R' _ tt2 ch2 ep2 p2 s2 A2 fun s3 A3 => hR _ s3 A3 fun p4 s4 A4 => ?_
  exact out_end w ρ σ g tt2 (some (a3, ch2)) ln lt ep2 extra R p4 s4 false _ A4 fun s5 A5 => next _ tt2 ep2 s5 A5
end

/-! ## get_token -/
/-- the eight objects of a reader -/
noncomputable def G.eight (g : G) (P : Params) (ln : Int) (lt : Tok) (xs : List Value) (ep pe : Nat) : List (Addr × Obj) :=
  [(g.r, instO 177 g.d), (g.d, lexD P g.b0 g.b1 g.b2 g.b3 ln lt g.st g.lwt g.pb), (g.st, instO 177 g.sd), (g.sd, strD P g.c0 g.c1 g.c2 g.c3 g.c4 g.sl g.swt g.pb2 g.fn), (g.fn, lamFn g.cell g.ct), (g.cell, cellO (.ref g.left)), (g.left, listO xs ep), (g.pb, listO [] pe)]
noncomputable def QTok (g : G) (P : Params) (T : Str) (ln : Int) (rest : List (Nat × Tok)) (pe : Nat) (o : Outc) : Prop :=
  ∃ lt tt ep top tok, o = ⟨.ok (.ret (.str T tt)), (g.eight P ln lt (rest.map chV) ep pe).map (·.2), [], top, tok⟩
noncomputable def gGo (g : G) (N K : Nat) : G := { g with L := N + 0, it := N + 2, mth := N + 1, a0 := K + 0, a1 := K + 5, a2 := K + 8, sen := K + 7 }
noncomputable def pFor : Pos := ⟨66, 18, 66, 23⟩
noncomputable def swF (N : Nat) : Sw := ⟨forT outerFor, .none, [], [], fBody (fCls 11 2), gtEnv (N + 0), gtEnv (N + 0), pFor, pFor⟩
noncomputable def hG : List Nat := [0, 0, 0, 9, 8, 0, 9, 1, 0, 0, 0, 1, 0, 0, 0, 1, 1, 0, 2, 8, 8, 8, 8, 8, 0, 9, 8, 0, 0, 9, 1, 0, 0, 0, 1, 0, 0, 0, 0, 0, 0, 1, 1, 0, 2, 0, 0, 0, 0, 10, 0, 9, 8, 9, 11, 11, 1, 0, 0, 11, 11]
noncomputable def LG : List Nat := [8, 10, 9, 0, 1, 2, 3, 4, 5, 6, 7]
section
variable (w : WK) (σ : Sv) (g : G) (ln : Int) (lt : Tok) (xs : List Value) (ep pe : Nat) (p : Pos) (N K : Nat)
noncomputable def gX : Option Res := exec ((E2 w).on σ.list) 100000 [] 116 hG (x0 (E2 w) (.call (.ref 167) ⟨[.ref g.r], []⟩) p (g.eight w.params ln lt xs ep pe) N K)
noncomputable def gLl : Option V4 := lhsE ((E2 w).on σ.list) (gX w σ g ln lt xs ep pe p N K) [] LG
noncomputable def gRr : Option V4 := rhsE (gX w σ g ln lt xs ep pe p N K) [] [] (.cal (outCode (N + 0) (N + 2)) (outBel (swF N) σ)) ((gGo g N K).preW w.params (frO (gGo g N K) w.params (.str ⟨#[]⟩ (K + 4)) none) (gGo g N K).cit ln lt xs ep ++ [(g.pb, listO [] pe)]) (N, 3) (K, 9)
theorem g_eq : gLl w σ g ln lt xs ep pe p N K = gRr w σ g ln lt xs ep pe p N K := by
  obtain ⟨k, t1, t2, t3, gn, sc, po, dp, v1, v2, v3, v4, b1, b2, b3, o1, o2, o3, s1, s2, e1, e2, e3, e4, e5, p1, p2, p3, p4, p5, p6⟩ := σ
  cases k <;> kernel_rfl
variable (a : Result) (L : List (Addr × Obj)) (M O : Nat)
noncomputable def gbX (n : Nat) (hs : List Nat) : Option Res := exec ((E2 w).on σ.list) 100000 [] n hs (cutX (gX w σ g ln lt xs ep pe p N K) a ⟨treeOf L, L.length, M, 0, O, 0⟩)
noncomputable def gbL (n : Nat) (hs ls : List Nat) : Option V4 := lhsE ((E2 w).on σ.list) (gbX w σ g ln lt xs ep pe p N K a L M O n hs) [] ls
noncomputable def gbR (n : Nat) (hs : List Nat) (r : Result) : Option V4 := rhsE (gbX w σ g ln lt xs ep pe p N K a L M O n hs) [] [] (.ans r) [] (M, 0) (O, 0)
theorem gb_eq (P : Params) (T : Str) (tt : Tok) (c : Option (Tok × Value)) : (∀ v, gbL w σ g ln lt xs ep pe p N K (.ok (.ret v)) [] M O 0 [] [] = gbR w σ g ln lt xs ep pe p N K (.ok (.ret v)) [] M O 0 [] (.ok (.ret v))) ∧
    gbL w σ g ln lt xs ep pe p N K (.ok .next) [(N + 0, frO (gGo g N K) P (.str T tt) c)] M O 3 [1] [] = gbR w σ g ln lt xs ep pe p N K (.ok .next) [(N + 0, frO (gGo g N K) P (.str T tt) c)] M O 3 [1] (.ok (.ret (.str T tt))) := by
  obtain ⟨k, t1, t2, t3, gn, sc, po, dp, v1, v2, v3, v4, b1, b2, b3, o1, o2, o3, s1, s2, e1, e2, e3, e4, e5, p1, p2, p3, p4, p5, p6⟩ := σ
  rcases c with _ | ⟨a3, ch⟩ <;> cases k <;> exact ⟨fun v => by kernel_rfl, by kernel_rfl⟩
end
end Mine
end
noncomputable section
namespace Mine
open PySem PySem.W PySem.W.X

theorem At.post {kt : KT} {rest : Array GenState × Drawn × OsState} {s s' : Shared} {pre upd extra : List (Addr × Obj)} {r : Result} (h : At kt rest (pre.map (·.1)) s s' (upd ++ extra)) (hu : upd.map (·.1) = pre.map (·.1)) : Post kt rest pre s ⟨r, upd.map (·.2), [], s'.heap.objs.size, s'.toks⟩ s' :=
  ⟨upd_of hu fun x hx => h.loc.own x (List.mem_append_left _ hx), fun _ hx => (nomatch hx), List.nodup_nil, h.since.frame, rfl, h.since.le, rfl, h.since.rest⟩
section
variable (w : WK) (σ : Sv) (g : G) (ln ln' : Int) (lt : Tok) (xs : List Value) (ep pe : Nat)
theorem g_back (o : Option Res) {rest : Array GenState × Drawn × OsState} {m0 : List Addr} {s0 : Shared} (R : Result → Shared → Prop) (N K : Nat) (hR : ∀ v M O, lhsE ((E2 w).on σ.list) (exec ((E2 w).on σ.list) 100000 [] 0 [] (cutX o (.ok (.ret v)) ⟨treeOf [], 0, M, 0, O, 0⟩)) [] [] = rhsE (exec ((E2 w).on σ.list) 100000 [] 0 [] (cutX o (.ok (.ret v)) ⟨treeOf [], 0, M, 0, O, 0⟩)) [] [] (.ans (.ok (.ret v))) [] (M, 0) (O, 0))
    (hN : ∀ T tt c M O, lhsE ((E2 w).on σ.list) (exec ((E2 w).on σ.list) 100000 [] 3 [1] (cutX o (.ok .next) ⟨treeOf [(N + 0, frO (gGo g N K) w.params (.str T tt) c)], 1, M, 0, O, 0⟩)) [] [] = rhsE (exec ((E2 w).on σ.list) 100000 [] 3 [1] (cutX o (.ok .next) ⟨treeOf [(N + 0, frO (gGo g N K) w.params (.str T tt) c)], 1, M, 0, O, 0⟩)) [] [] (.ans (.ok (.ret (.str T tt)))) [] (M, 0) (O, 0)) :
    (∀ v l s2, At (E2 w).kt rest m0 s0 s2 l → (∀ s3, At (E2 w).kt rest m0 s0 s3 l → R (.ok (.ret v)) s3) → MeansX ((E2 w).on σ.list) R (cutX o (.ok (.ret v)) St0) s2) ∧
    (∀ T tt c l s2, At (E2 w).kt rest m0 s0 s2 ([(N + 0, frO (gGo g N K) w.params (.str T tt) c)] ++ l) → (∀ s3, At (E2 w).kt rest m0 s0 s3 l → R (.ok (.ret (.str T tt))) s3) → MeansX ((E2 w).on σ.list) R (cutX o (.ok .next) St0) s2) := by
  refine ⟨fun v l s2 A2 hv => ?_, fun T tt c l s2 A2 hv => ?_⟩
  · refine run_on (E2 w) den_eq 100000 σ.list _ _ s2 [] (rest := rest) ⟨fun _ h => (nomatch h), List.nodup_nil, fun _ h => (nomatch h)⟩ A2.since.ktk A2.since.rest R (fun N K => .fin 0 []) fun M O _ _ => ?_
    exact .mk' [] [] (.ans (.ok (.ret v))) [] (M, 0) (O, 0) [] (hR v M O) noG trivial rfl fun s3 A3 => hv s3 (A2.step0 A3)
  · refine run_on (E2 w) den_eq 100000 σ.list _ _ s2 [(N + 0, frO (gGo g N K) w.params (.str T tt) c)] A2.left.loc A2.since.ktk A2.since.rest R (fun N K => .fin 3 [1]) fun M O _ _ => ?_
    exact .mk' [] [] (.ans (.ok (.ret (.str T tt)))) [] (M, 0) (O, 0) [] (hN T tt c M O) noG trivial rfl fun s3 A3 => hv s3 (A2.step rfl A3)
/-- get_token by what its loop does -/
theorem get_ctr (T : Str) (rst : List (Nat × Tok))
    (hout : ∀ (N K : Nat) (rest : Array GenState × Drawn × OsState) (m0 : List Addr) (s0 : Shared) (extra : List (Addr × Obj)) (R : Result → Shared → Prop) (p : Pos) (s : Shared), At (E2 w).kt rest m0 s0 s ((gGo g N K).preW w.params (frO (gGo g N K) w.params (.str ⟨#[]⟩ (K + 4)) none) (gGo g N K).cit ln lt xs ep ++ extra) →
      (∀ fo io lt' ep' tt s', At (E2 w).kt rest m0 s0 s' ((gGo g N K).preW w.params fo io ln' lt' (rst.map chV) ep' ++ extra) → R (.ok (.ret (.str T tt))) s') →
      (∀ c io lt' ep' tt s', At (E2 w).kt rest m0 s0 s' ((gGo g N K).preW w.params (frO (gGo g N K) w.params (.str T tt) c) io ln' lt' (rst.map chV) ep' ++ extra) → R (.ok .next) s') → wpCode (E2 w).M (Γof (outCode (N + 0) (N + 2)) (outBel (swF N) σ)) R p s) :
    Ctr (E2 w) σ.list (.call (.ref 167) ⟨[.ref g.r], []⟩) (g.eight w.params ln lt xs ep pe) (QTok g w.params T ln' rst pe) := by
  intro rest p s hk hp hn hkn hr
  have h : At (E2 w).kt rest ((g.eight w.params ln lt xs ep pe).map (·.1)) s s (g.eight w.params ln lt xs ep pe ++ []) := by rw [List.append_nil]; exact At.start ⟨hp, hn, hkn⟩ hk hr
  refine wp_run (E2 w) den_eq 100000 σ.list _ p s _ h.left.loc hk hr _ (fun N K => .fin 116 hG) fun N K _ _ => ?_
  refine .mk' [] [] (.cal (outCode (N + 0) (N + 2)) (outBel (swF N) σ)) ((gGo g N K).preW w.params (frO (gGo g N K) w.params (.str ⟨#[]⟩ (K + 4)) none) (gGo g N K).cit ln lt xs ep ++ [(g.pb, listO [] pe)]) (N, 3) (K, 9) LG (g_eq w σ g ln lt xs ep pe p N K) noG trivial rfl (EndGo.call (gX w σ g ln lt xs ep pe p N K) rfl fun o ho p' s' A => ?_)
  have hA : At (E2 w).kt rest ((g.eight w.params ln lt xs ep pe).map (·.1)) s s' (((gGo g N K).preW w.params (frO (gGo g N K) w.params (.str ⟨#[]⟩ (K + 4)) none) (gGo g N K).cit ln lt xs ep ++ [(g.pb, listO [] pe)]) ++ []) := h.step rfl A
  rw [List.append_nil] at hA
  have hb := fun R => g_back w σ g (rest := rest) (m0 := (g.eight w.params ln lt xs ep pe).map (·.1)) (s0 := s) o R N K (fun v M O => ho ▸ (gb_eq w σ g ln lt xs ep pe p N K M O w.params T 0 none).1 v) (fun T tt c M O => ho ▸ (gb_eq w σ g ln lt xs ep pe p N K M O w.params T tt c).2)
  have fin : ∀ {lt' ep' tt s3 fo io}, At (E2 w).kt rest ((g.eight w.params ln lt xs ep pe).map (·.1)) s s3 ((gGo g N K).preW w.params fo io ln' lt' (rst.map chV) ep' ++ [(g.pb, listO [] pe)]) → ∃ o : Outc, o.r = .ok (.ret (.str T tt)) ∧ QTok g w.params T ln' rst pe o ∧ Post (E2 w).kt rest (g.eight w.params ln lt xs ep pe) s o s3 := fun {lt' ep' tt s3 fo io} h3 =>
    ⟨_, rfl, ⟨lt', tt, ep', _, _, rfl⟩, At.post (upd := g.eight w.params ln' lt' (rst.map chV) ep' pe) (extra := []) (h3.pk [[(g.pb, listO [] pe)]] [3, 4, 5, 6, 7, 8, 9, 10] rfl) rfl⟩
  refine hout N K rest _ s [(g.pb, listO [] pe)] _ p' s' hA (fun fo io lt' ep' tt s2 h2 => (hb _).1 _ _ s2 h2 fun s3 h3 => fin h3) fun c io lt' ep' tt s2 h2 => ?_
  have h2' : At (E2 w).kt rest ((g.eight w.params ln lt xs ep pe).map (·.1)) s s2 ([(N + 0, frO (gGo g N K) w.params (.str T tt) c)] ++ ([(N + 2, io), (N + 1, methO 160 g.r)] ++ g.eight w.params ln' lt' (rst.map chV) ep' pe)) := h2.pk [[(g.pb, listO [] pe)]] [0, 1, 2, 3, 4, 5, 6, 7, 8, 9, 10] rfl
  exact (hb _).2 T tt c _ s2 h2' fun s3 h3 => ⟨_, rfl, ⟨lt', tt, ep', _, _, rfl⟩, At.post (upd := g.eight w.params ln' lt' (rst.map chV) ep' pe) (extra := [(N + 2, io), (N + 1, methO 160 g.r)]) (At.pick [[(N + 2, io), (N + 1, methO 160 g.r)], g.eight w.params ln' lt' (rst.map chV) ep' pe] [1, 0] h3 rfl) rfl⟩
end
section
variable (w : WK) (σ : Sv) (g : G) (ln : Int) (lt : Tok) (ep pe : Nat)
/-- a row with a return behind -/
theorem get13 (x : Nat) (xt t : Tok) (ws rest : List (Nat × Tok)) (hx : x ∈ signs0) (hws : ∀ y ∈ ws, y.1 ∈ signs) (hl : ws.length < 300000) (hr : rest.length < 300000) :
    Ctr (E2 w) σ.list (.call (.ref 167) ⟨[.ref g.r], []⟩) (g.eight w.params ln lt (((x, xt) :: (ws ++ (13, t) :: rest)).map chV) ep pe) (QTok g w.params (one x ++ codes ws) ln rest pe) :=
  get_ctr w σ g ln ln lt _ ep pe _ rest fun N K rest' m0 s0 extra R p s h hR _ => out_word13 w (swF N) σ (gGo g N K) (K + 4) none ln lt ep extra R p s (x, xt) t ws rest hx hws hl hr h fun fo tt ep s' h' => hR fo _ lt ep tt s' h'
/-- a newline, a row with a return behind -/
theorem get10_13 (nt : Tok) (x : Nat) (xt t : Tok) (ws rest : List (Nat × Tok)) (hx : x ∈ signs0) (hws : ∀ y ∈ ws, y.1 ∈ signs) (hl : ws.length < 300000) (hr : rest.length < 300000) :
    Ctr (E2 w) σ.list (.call (.ref 167) ⟨[.ref g.r], []⟩) (g.eight w.params ln lt (((10, nt) :: (x, xt) :: (ws ++ (13, t) :: rest)).map chV) ep pe) (QTok g w.params (one x ++ codes ws) (ln + 1) rest pe) :=
  get_ctr w σ g ln (ln + 1) lt _ ep pe _ rest fun N K rest' m0 s0 extra R p s h hR _ => out_nl w (swF N) σ (gGo g N K) (K + 4) none ln lt ep extra R p s nt _ (by rw [List.length_cons, List.length_append, List.length_cons]; omega) h fun lt' c' p' s' h' =>
    out_word13 w (swF N) σ (gGo g N K) (K + 4) c' (ln + 1) lt' (ep + 1) extra R p' s' (x, xt) t ws rest hx hws hl hr h' fun fo tt ep s' h' => hR fo _ lt' ep tt s' h'
/-- the last row -/
theorem getLast (x : Nat) (xt : Tok) (ws : List (Nat × Tok)) (hx : x ∈ signs0) (hws : ∀ y ∈ ws, y.1 ∈ signs) (hl : ws.length < 300000) :
    Ctr (E2 w) σ.list (.call (.ref 167) ⟨[.ref g.r], []⟩) (g.eight w.params ln lt (((x, xt) :: ws).map chV) ep pe) (QTok g w.params (one x ++ codes ws) ln [] pe) :=
  get_ctr w σ g ln ln lt _ ep pe _ [] fun N K rest' m0 s0 extra R p s h _ hR => out_wordE w (swF N) σ (gGo g N K) (K + 4) none ln lt ep extra R p s (x, xt) ws hx hws hl h fun c tt ep s' h' => hR c _ lt ep tt s' h'
theorem get10_last (nt : Tok) (x : Nat) (xt : Tok) (ws : List (Nat × Tok)) (hx : x ∈ signs0) (hws : ∀ y ∈ ws, y.1 ∈ signs) (hl : ws.length < 300000) :
    Ctr (E2 w) σ.list (.call (.ref 167) ⟨[.ref g.r], []⟩) (g.eight w.params ln lt (((10, nt) :: (x, xt) :: ws).map chV) ep pe) (QTok g w.params (one x ++ codes ws) (ln + 1) [] pe) :=
  get_ctr w σ g ln (ln + 1) lt _ ep pe _ [] fun N K rest' m0 s0 extra R p s h _ hR => out_nl w (swF N) σ (gGo g N K) (K + 4) none ln lt ep extra R p s nt _ (by rw [List.length_cons]; omega) h fun lt' c' p' s' h' =>
    out_wordE w (swF N) σ (gGo g N K) (K + 4) c' (ln + 1) lt' (ep + 1) extra R p' s' (x, xt) ws hx hws hl h' fun c tt ep s' h' => hR c _ lt' ep tt s' h'
/-- nothing left -/
theorem getNone : Ctr (E2 w) σ.list (.call (.ref 167) ⟨[.ref g.r], []⟩) (g.eight w.params ln lt [] ep pe) (QTok g w.params ⟨#[]⟩ ln [] pe) :=
  get_ctr w σ g ln ln lt _ ep pe _ [] fun N K rest' m0 s0 extra R p s h _ hR => out_end w (swF N) σ (gGo g N K) (K + 4) none ln lt ep extra R p s true _ h fun s' h' => hR none _ lt ep _ s' h'
end
end Mine
end
noncomputable section
namespace Mine
open PySem PySem.W PySem.W.X

/-- the stack in the body of _law_tick -/
noncomputable def Sv.tl (σ : Sv) : List (Code × Pos) := [(.func σ.s1 σ.e2, σ.p2), (.forLoop σ.t2 σ.v2 σ.b2 σ.o2 σ.e3, σ.p3), (.forLoop σ.t3 σ.v3 σ.b3 σ.o3 σ.e4, σ.p4), (.func σ.s2 σ.e5, σ.p5), (.builtin "claim.caller" {}, σ.p6)]
theorem pat2 (w : WK) : PatAt (E2 w).kt 48 code2 := ⟨⟨_, _, 47, _, rfl, rfl, by kernel_rfl⟩⟩
theorem pat1 (w : WK) : PatAt (E2 w).kt 43 code1 := ⟨⟨_, _, 42, _, rfl, rfl, by kernel_rfl⟩⟩
noncomputable def QStr (X : Str) (o : Outc) : Prop := ∃ tt top tok, o = ⟨.ok (.ret (.str X tt)), [], [], top, tok⟩
noncomputable def quoted (T : Str) : Str := ⟨(qd true (nl T.cps.toList)).toArray⟩
theorem quotedata_ctr (w : WK) (σ : Sv) (T : Str) (tt : Tok) (hT : T.cps.size < 100000) : Ctr (E2 w) σ.tl (.call (.ref 55) ⟨[.str T tt], []⟩) [] (QStr (quoted T)) := by
  refine ctr_intro (E2 w) den_eq 100000 _ _ _ _ (fun N K p => .ctr 40 [0, 0, 0, 1, 0, 0, 0, 0, 0, 0, 0, 0, 0, 0, 0, 0, 0, 1, 0, 0, 0] [1] (QSub ⟨(nl T.cps.toList).toArray⟩) ⟨_, 0, default, 0, 0, rfl⟩ fun _ =>
    .ctr 9 [0, 0, 0] [2] (QSub (quoted T)) ⟨_, 0, default, 0, 0, rfl⟩ fun _ => .fin 2 []) ?_
  intro N K p o ho
  obtain ⟨t1, ob1, top1, tok1, rfl⟩ := ho
  intro o ho
  obtain ⟨t2, ob2, top2, tok2, rfl⟩ := ho
  refine ⟨[], [(none, subCode 48 T tt ⟨#[13, 10]⟩ 349 0 0 (N + 1), [(N + 1, listO [] 0)]), (none, subCode 43 ⟨(nl T.cps.toList).toArray⟩ t1 ⟨#[46, 46]⟩ (K + 1) 0 0 (top1 + 0), [(top1 + 0, listO [] 0)])],
    .ok (.ret (.str (quoted T) t2)), [], [], (top2, 0), (tok2, 0), [], ⟨?_, fun _ h => (nomatch h), ?_, rfl, rfl, ⟨_, _, _, rfl⟩⟩⟩
  · obtain ⟨k, t1, t2, t3, gn, sc, po, dp, v1, v2, v3, v4, b1, b2, b3, o1, o2, o3, s1, s2, e1, e2, e3, e4, e5, p1, p2, p3, p4, p5, p6⟩ := σ
    kernel_rfl
  · refine ⟨fun b => sub2 _ _ _ _ _ _ _ (pat2 w) hT, fun b => ?_, trivial⟩
    have := sub1 ((E2 w).on σ.tl) b 43 ⟨(nl T.cps.toList).toArray⟩ t1 (K + 1) (top1 + 0) (pat1 w) ?_
    · simpa [quoted] using this
    · have h1 := nl_len T.cps.toList
      have h2 : T.cps.toList.length = T.cps.size := Array.length_toList
      simp only [List.size_toArray]
      omega
end Mine
end
noncomputable section
namespace Mine
open PySem PySem.W PySem.W.X

noncomputable def okWord (wd : List Nat) : Prop := ∃ x v, wd = x :: v ∧ x ∈ signs0 ∧ ∀ y ∈ v, y ∈ signs
noncomputable def after : List (List Nat) → List Nat
  | [] => []
  | w :: ws => 10 :: joinL [13, 10] (w :: ws)
noncomputable def QTk (g : G) (P : Params) (T : Str) (ln : Int) (cs : List Nat) (pe : Nat) (o : Outc) : Prop :=
  ∃ (lt tt : Tok) (ep : Nat) (top tok : Nat) (R : List (Nat × Tok)), R.map (·.1) = cs ∧ o = ⟨.ok (.ret (.str T tt)), (g.eight P ln lt (R.map chV) ep pe).map (·.2), [], top, tok⟩
theorem one_codes (x : Nat) (vs : List (Nat × Tok)) : one x ++ codes vs = strOf (x :: vs.map (·.1)) := by
  show Str.mk (#[x] ++ (vs.map (·.1)).toArray) = Str.mk _
  congr 1
  apply Array.ext'
  simp
theorem QTok.tk {g : G} {P : Params} {T : Str} {ln : Int} {rest : List (Nat × Tok)} {pe : Nat} {o : Outc} (h : QTok g P T ln rest pe o) : QTk g P T ln (rest.map (·.1)) pe o := by
  obtain ⟨lt, tt, ep, top, tok, rfl⟩ := h
  exact ⟨lt, tt, ep, top, tok, rest, rfl, rfl⟩
theorem signs_end {x : Nat} (h : x ∈ signs) : isEnd x = false := by
  simp only [signs, List.mem_cons, List.not_mem_nil, or_false] at h
  rcases h with rfl | rfl | rfl | rfl | rfl | rfl <;> rfl
theorem okWord.plain {w : List Nat} (h : okWord w) : Plain w := by
  obtain ⟨x, v, rfl, h1, h2⟩ := h
  refine ⟨by simp, fun y hy => ?_⟩
  rcases List.mem_cons.mp hy with rfl | hy
  · exact signs_end (signs_of h1)
  · exact signs_end (h2 y hy)
/-- the signs of a word ahead of its end -/
theorem split_word {L : List (Nat × Tok)} {x : Nat} {v cs : List Nat} (h : L.map (·.1) = x :: (v ++ 13 :: cs)) : ∃ xt vs t rest, L = (x, xt) :: (vs ++ (13, t) :: rest) ∧ vs.map (·.1) = v ∧ rest.map (·.1) = cs := by
  cases L with
  | nil => cases h
  | cons a L =>
    simp only [List.map_cons, List.cons.injEq] at h
    obtain ⟨h1, h2⟩ := h
    obtain ⟨vs, r, rfl, h3, h4⟩ := List.map_eq_append_iff.mp h2
    cases r with
    | nil => cases h4
    | cons b r =>
      simp only [List.map_cons, List.cons.injEq] at h4
      refine ⟨a.2, vs, b.2, r, ?_, h3, h4.2⟩
      rw [← h1, ← h4.1]

section
variable (w : WK) (σ : Sv) (g : G) (ln : Int) (lt : Tok) (ep pe : Nat)

theorem tok_first (wd : List Nat) (ws : List (List Nat)) (L : List (Nat × Tok)) (hL : L.map (·.1) = joinL [13, 10] (wd :: ws)) (hw : okWord wd) (hz : L.length < 200000) :
    Ctr (E2 w) σ.list (.call (.ref 167) ⟨[.ref g.r], []⟩) (g.eight w.params ln lt (L.map chV) ep pe) (QTk g w.params (strOf wd) ln (after ws) pe) := by
  obtain ⟨x, v, rfl, hx, hv⟩ := hw
  have hlen := congrArg List.length hL
  rw [List.length_map] at hlen
  cases ws with
  | nil =>
    have hL : L.map (·.1) = x :: v := hL
    cases L with
    | nil => cases hL
    | cons a vs =>
      obtain ⟨a1, a2⟩ := a
      simp only [List.map_cons, List.cons.injEq] at hL
      obtain ⟨rfl, h2⟩ := hL
      have h := getLast w σ g ln lt ep pe a1 a2 vs hx (fun y hy => hv _ (h2 ▸ List.mem_map_of_mem hy)) (by simp at hz; omega)
      rw [one_codes, h2] at h
      exact Ctr.mono h fun o ho => ho.tk
  | cons u r =>
    have hL : L.map (·.1) = x :: (v ++ 13 :: (after (u :: r))) := by
      rw [hL]
      show (x :: v) ++ [13, 10] ++ joinL [13, 10] (u :: r) = _
      simp [after]
    obtain ⟨xt, vs, t, rest, rfl, h1, h2⟩ := split_word hL
    simp only [List.length_cons, List.length_append] at hz
    have h := get13 w σ g ln lt ep pe x xt t vs rest hx (fun y hy => hv _ (h1 ▸ List.mem_map_of_mem hy)) (by omega) (by omega)
    rw [one_codes, h1] at h
    refine Ctr.mono h fun o ho => ?_
    have := ho.tk
    rw [h2] at this
    exact this
theorem tok_next (wd : List Nat) (ws : List (List Nat)) (L : List (Nat × Tok)) (hL : L.map (·.1) = after (wd :: ws)) (hw : okWord wd) (hz : L.length < 200000) :
    Ctr (E2 w) σ.list (.call (.ref 167) ⟨[.ref g.r], []⟩) (g.eight w.params ln lt (L.map chV) ep pe) (QTk g w.params (strOf wd) (ln + 1) (after ws) pe) := by
  obtain ⟨x, v, rfl, hx, hv⟩ := hw
  cases L with
  | nil => cases hL
  | cons n L =>
    have hL : n.1 = 10 ∧ L.map (·.1) = joinL [13, 10] ((x :: v) :: ws) := by
      unfold after at hL
      simp only [List.map_cons, List.cons.injEq] at hL
      exact hL
    obtain ⟨hn, hL⟩ := hL
    have e : n = (10, n.2) := by rw [← hn]
    rw [e]
    simp only [List.length_cons] at hz
    cases ws with
    | nil =>
      have hL : L.map (·.1) = x :: v := hL
      cases L with
      | nil => cases hL
      | cons a vs =>
        obtain ⟨a1, a2⟩ := a
        simp only [List.map_cons, List.cons.injEq] at hL
        obtain ⟨rfl, h2⟩ := hL
        have h := get10_last w σ g ln lt ep pe n.2 a1 a2 vs hx (fun y hy => hv _ (h2 ▸ List.mem_map_of_mem hy)) (by simp at hz; omega)
        rw [one_codes, h2] at h
        exact Ctr.mono h fun o ho => ho.tk
    | cons u r =>
      have hL : L.map (·.1) = x :: (v ++ 13 :: (after (u :: r))) := by
        rw [hL]
        show (x :: v) ++ [13, 10] ++ joinL [13, 10] (u :: r) = _
        simp [after]
      obtain ⟨xt, vs, t, rest, rfl, h1, h2⟩ := split_word hL
      simp only [List.length_cons, List.length_append] at hz
      have h := get10_13 w σ g ln lt ep pe n.2 x xt t vs rest hx (fun y hy => hv _ (h1 ▸ List.mem_map_of_mem hy)) (by omega) (by omega)
      rw [one_codes, h1] at h
      refine Ctr.mono h fun o ho => ?_
      have := ho.tk
      rw [h2] at this
      exact this
theorem tok_none (L : List (Nat × Tok)) (hL : L.map (·.1) = []) :
    Ctr (E2 w) σ.list (.call (.ref 167) ⟨[.ref g.r], []⟩) (g.eight w.params ln lt (L.map chV) ep pe) (QTk g w.params ⟨#[]⟩ ln [] pe) := by
  cases L with
  | nil => exact Ctr.mono (getNone w σ g ln lt ep pe) fun o ho => ho.tk
  | cons a L => cases hL
end
end Mine
end
noncomputable section
namespace Mine
open PySem PySem.W PySem.W.X

/-! ## what _law_tick meets -/
noncomputable abbrev Wd := List Nat × Tok
noncomputable def rowV (x : Wd) : Value := .str (strOf x.1) x.2
structure PR where
  a : Addr
  u : Tok
  x : Wd
noncomputable def PR.ref (p : PR) : Value := .ref p.a
noncomputable def tupW (p : PR) : Obj := ⟨.type "tuple", none, .seq #[.str ⟨#[]⟩ p.u, rowV p.x] 0, #[]⟩
noncomputable def pileO (pd : Addr) (xs : List Value) (ep : Nat) : Obj := ⟨.ref 135, some pd, .seq xs.toArray ep, #[]⟩
noncomputable def cacheO : Obj := ⟨.none, none, .fields #[.int 93 0, .int 18 0, .ref 225], #[]⟩
structure LP where
  (li ld lp pi pd ah ins : Addr)
  (k0 k1 k2 k3 lt wt pk pv : Tok)
/-- the addresses that the law's first lines give out -/
noncomputable def L0 (T : LP) (ah : Addr) : LP := { T with li := 228, ld := 227, lp := 230, pi := 232, pd := 231, ah := ah, ins := 216, pv := 374 }
noncomputable def sInit : Str := Str.ofString "_initial_size"
noncomputable def pdO (P : Params) (L : LP) : Obj := ⟨.type "dict", none, .dict #[eD P ⟨#[95, 105, 110, 105, 116, 105, 97, 108, 95, 115, 105, 122, 101]⟩ L.pk (.int 0 L.pv)] 1, #[]⟩
noncomputable def LP.seven (L : LP) (P : Params) (lr : List Wd) (pr : List PR) (ah : List Wd) (e1 e2 e3 : Nat) : List (Addr × Obj) :=
  [(183, cacheO), (L.li, instO 177 L.ld), (L.ld, lexD P L.k0 L.k1 L.k2 L.k3 1 L.lt L.ins L.wt L.lp), (L.lp, listO (lr.map rowV) e1), (L.pi, pileO L.pd (pr.map PR.ref) e2), (L.pd, pdO P L), (L.ah, listO (ah.map rowV) e3)]
noncomputable def tups (pr : List PR) : List (Addr × Obj) := pr.map fun p => (p.a, tupW p)
noncomputable def QTick (L : LP) (P : Params) (lr : List Wd) (pr : List PR) (ah : List Wd) (e3 : Nat) (o : Outc) : Prop :=
  ∃ (lr' : List Wd) (pr' : List PR) (e1 e2 top tok : Nat), lr'.map (·.1) = lr.map (fun x => sent x.1) ∧ pr'.map (·.x.1) = pr.map (fun p => sent p.x.1) ∧
    o = ⟨.ok (.ret (.bool true)), (L.seven P lr' pr' ah e1 e2 e3).map (·.2) ++ pr.map tupW, tups pr', top, tok⟩

/-! ## contracts on words -/
noncomputable def wsV (vs : List Wd) : List Value := vs.map rowV
noncomputable def QJ (X : List Nat) (o : Outc) : Prop := ∃ tt ob top tok, o = ⟨.ok (.ret (.str (strOf X) tt)), [ob], [], top, tok⟩
theorem words_join (e : List Nat) (vs : List Wd) : (vs.map fun x => (strOf x.1, x.2)).map (·.1) = (vs.map (·.1)).map strOf := by simp
noncomputable def small (ws : List (List Nat)) : Prop := ∀ w ∈ ws, w.length < 1000
theorem flat_le (sep : Str) (hs : sep.length ≤ 2) : ∀ (ws : List (List Nat)) (k : Nat), small ws → (ws.map strOf).foldl (fun a x => a + x.length + sep.length) k ≤ k + 1002 * ws.length
  | [], k, _ => by simp
  | w :: ws, k, h => by
    have h1 := h w (.head _)
    have ih := flat_le sep hs ws (k + (strOf w).length + sep.length) (fun v hv => h v (.tail _ hv))
    have h2 : (strOf w).length = w.length := by show w.toArray.size = _; simp
    rw [List.map_cons, List.foldl_cons, List.length_cons]
    omega
theorem joinOk_words (e : List Nat) (he : e.length ≤ 2) (ws : List (List Nat)) (h : small ws) (hn : ws.length ≤ 12) : JoinOk (strOf e) (ws.map strOf) = true := by
  have h2 : (strOf e).length = e.length := by show e.toArray.size = _; simp
  have := flat_le (strOf e) (by omega) ws 0 h
  unfold JoinOk
  rw [List.foldl_toArray]
  unfold Builtin.Str.tooLong
  have : sizeLine = 16777216 := rfl
  simp; omega
theorem ctr_joinW (E : En) (bel : List (Code × Pos)) (e : List Nat) (t : Tok) (l : Addr) (vs : List Wd) (ep : Nat) (he : e.length ≤ 2) (h : small (vs.map (·.1))) (hn : vs.length ≤ 12) :
    Ctr E bel (.builtin "str.join" ⟨[.str (strOf e) t, .ref l], []⟩) [(l, listO (wsV vs) ep)] (QJ (joinL e (vs.map (·.1)))) := by
  have hok : JoinOk (strOf e) ((vs.map fun x => (strOf x.1, x.2)).map (·.1)) = true := by
    rw [words_join e vs]
    exact joinOk_words e he _ h (by simpa using hn)
  have key := ctr_join E bel (strOf e) t l (vs.map fun x => (strOf x.1, x.2)) ep hok
  have e1 : strValues (vs.map fun x => (strOf x.1, x.2)) = wsV vs := by
    simp [strValues, wsV, rowV]
  rw [e1, words_join e vs, join_words] at key
  exact Ctr.mono key fun o ho => by
    obtain ⟨tt, top, tok, rfl⟩ := ho
    exact ⟨tt, _, top, tok, rfl⟩
theorem joinL_len (e : List Nat) (he : e.length ≤ 2) : ∀ ws : List (List Nat), small ws → (joinL e ws).length ≤ 1002 * ws.length
  | [], _ => Nat.zero_le _
  | [w], h => by have := h w (.head _); simp only [joinL, List.length_cons, List.length_nil]; omega
  | w :: v :: r, h => by
    have h1 := h w (.head _)
    have ih := joinL_len e he (v :: r) (fun u hu => h u (.tail _ hu))
    show (w ++ e ++ joinL e (v :: r)).length ≤ _
    rw [List.length_append, List.length_append]
    simp only [List.length_cons] at ih ⊢
    omega
theorem quotedata_words (w : WK) (σ : Sv) (e : List Nat) (he : e = [13] ∨ e = [10] ∨ e = [13, 10]) (ws : List (List Nat)) (h : ∀ w ∈ ws, Plain w) (hs : small ws) (hn : ws.length ≤ 12) (tt : Tok) :
    Ctr (E2 w) σ.tl (.call (.ref 55) ⟨[.str (strOf (joinL e ws)) tt], []⟩) [] (QStr (strOf (joinL [13, 10] (ws.map sent)))) := by
  have hl := joinL_len e (by rcases he with rfl | rfl | rfl <;> decide) ws hs
  have key := quotedata_ctr w σ (strOf (joinL e ws)) tt (by show (joinL e ws).toArray.size < _; simp; omega)
  have : quoted (strOf (joinL e ws)) = strOf (joinL [13, 10] (ws.map sent)) := by
    unfold quoted
    show Str.mk (qd true (nl (joinL e ws))).toArray = _
    rw [quoted_words e he ws h]; rfl
  rw [this] at key
  exact key
noncomputable def QIt (X : List Nat) (o : Outc) : Prop := ∃ t a top tok, o = ⟨.ok (.ret (.ref a)), [], [(a, strItO (strOf X) t 0)], top, tok⟩
noncomputable def QEx (cs : List Nat) (o : Outc) : Prop := ∃ (ts : List (Nat × Tok)) (ep : Nat) (io : Obj) (top tok : Nat), ts.map (·.1) = cs ∧ o = ⟨.ok (.ret .none), [listO (ts.map chV) ep, io], [], top, tok⟩
theorem ctr_itW (E : En) (bel : List (Code × Pos)) (X : List Nat) (t : Tok) (h : ∀ x ∈ X, x < 128) : Ctr E bel (.builtin "str.__iter__" ⟨[.str (strOf X) t], []⟩) [] (QIt X) :=
  Ctr.mono (ctr_strIter E bel (strOf X) t (by show X.toArray.all _ = true; simp; exact h)) fun o ho => by
    obtain ⟨a, top, tok, rfl⟩ := ho
    exact ⟨t, a, top, tok, rfl⟩
theorem ctr_exW (E : En) (bel : List (Code × Pos)) (X : List Nat) (t : Tok) (l it : Addr) (hX : X.length < 100000) :
    Ctr E bel (.builtin "list.extend.loop" ⟨[.ref l, .ref it, .none], []⟩) [(l, listO [] 0), (it, strItO (strOf X) t 0)] (QEx X) := by
  intro rest p s hk hp hn hkn hr
  have hne : l ≠ it := by simpa using hn
  refine (?_ : Ctr E bel (.builtin "list.extend.loop" ⟨[.ref l, .ref it, .none], []⟩) [(l, listO [] 0), (it, strItO (strOf X) t 0)] (QEx X)) rest p s hk hp hn hkn hr
  have hs : (strOf X).cps.size = X.length := by show X.toArray.size = _; simp
  have key := ctr_extend E bel l it (strOf X) t .none (by omega) hne (strOf X).cps.size 0 (strItO (strOf X) t 0) [] 0 (by omega) rfl rfl (by simp; omega)
  refine Ctr.mono key fun o ho => ?_
  obtain ⟨ts, ep, io, top, tok, h1, rfl⟩ := ho
  exact ⟨ts, ep, io, top, tok, by rw [h1]; rfl, rfl⟩
noncomputable def QE2 (o : Outc) : Prop := ∃ a b top tok, o = ⟨.ok (.ret (.bool true)), [a, b], [], top, tok⟩
theorem ctr_eq2 (E : En) (bel : List (Code × Pos)) (l b : Addr) (xs ys : List Value) (ep ep' : Nat) (h : EqL xs ys) : Ctr E bel (.builtin "list.__eq__" ⟨[.ref l, .ref b], []⟩) [(l, listO xs ep), (b, listO ys ep')] QE2 :=
  Ctr.mono (ctr_listEq E bel l b xs ys ep ep' h) fun o ho => by
    obtain ⟨top, tok, rfl⟩ := ho
    exact ⟨_, _, top, tok, rfl⟩

/-! ## the frames of _law_tick -/
noncomputable def fTick : Stmt := fTop 14
noncomputable def tkEnv (L c1 c2 : Addr) : Env := { scope := fScope fTick, locals := L, globals := 3, cells := [(Str.ofString "reader", c2), (Str.ofString "line", c1)], qual := Str.ofString "_law_tick.<locals>.", func := some 193, code := .ref 192, frame := some L, builtins := 0 }
noncomputable def tkFor : Stmt := ((fBody fTick)[4]?).getD (.Pass ⟨0, 0, 0, 0⟩)
noncomputable def binL : PySem.Expr → PySem.Expr
  | .BinOp a _ _ _ => a
  | e => e
noncomputable def asV : Stmt → PySem.Expr
  | .Assign _ v _ => v
  | _ => .Constant .none 0 ⟨0, 0, 0, 0⟩
noncomputable def lcE : PySem.Expr → PySem.Expr
  | .ListComp e _ _ _ => e
  | e => e
noncomputable def lcG : PySem.Expr → List Comprehension
  | .ListComp _ g _ _ => g
  | _ => []
noncomputable def lcS : PySem.Expr → Scope
  | .ListComp _ _ s _ => s
  | _ => default
noncomputable def lcP : PySem.Expr → Pos
  | .ListComp _ _ _ p => p
  | _ => ⟨0, 0, 0, 0⟩
noncomputable def tkTold : PySem.Expr := binL (asV (((fBody fTick)[5]?).getD (.Pass ⟨0, 0, 0, 0⟩)))
noncomputable def tcScope : Scope := { lcS tkTold with names := (lcS tkTold).names.map fun x => (x.1, match x.2 with | .free => .cell | k => k) }
noncomputable def tcEnv (L fr c2 : Addr) : Env := { scope := tcScope, locals := L, globals := 3, cells := [(Str.ofString "reader", c2)], qual := Str.ofString "_law_tick.<locals>.", func := none, code := .ref 192, frame := some fr, builtins := 0 }
noncomputable def Sv.bt (σ : Sv) : List (Code × Pos) := [(.forLoop σ.t2 σ.v2 σ.b2 σ.o2 σ.e3, σ.p3), (.forLoop σ.t3 σ.v3 σ.b3 σ.o3 σ.e4, σ.p4), (.func σ.s2 σ.e5, σ.p5), (.builtin "claim.caller" {}, σ.p6)]
/-- in the body -/
noncomputable def Sv.inT (σ : Sv) (N : Nat) (p : Pos) : Sv := { σ with s1 := fBody fTick, e2 := tkEnv N (N + 1) (N + 2), p2 := p }
noncomputable def Sv.inF (σ : Sv) (N it : Nat) (p q : Pos) : Sv := { σ with k := true, t1 := forT tkFor, v1 := .ref it, b1 := forB tkFor, o1 := forE tkFor, e1 := tkEnv N (N + 1) (N + 2), p1 := p, s1 := fBody fTick, e2 := tkEnv N (N + 1) (N + 2), p2 := q }
noncomputable def Sv.inC (σ : Sv) (N it acc fr : Nat) (p q : Pos) : Sv := { σ with k := false, t1 := lcE tkTold, gn := lcG tkTold, sc := lcS tkTold, po := lcP tkTold, dp := 0, v1 := .ref it, v4 := .ref acc, e1 := tcEnv fr N (N + 2), p1 := p, s1 := fBody fTick, e2 := tkEnv N (N + 1) (N + 2), p2 := q }
noncomputable def gR (N2 N4 K4 : Nat) : G := { L := 0, it := 0, mth := 0, r := N4 + 9, d := N4 + 8, st := N4 + 3, sd := N4 + 2, fn := N4 + 7, cell := N4 + 1, left := N2 + 0, ct := N4 + 6, pb := N4 + 11, pb2 := N4 + 5, a0 := 0, a1 := 0, a2 := 0, a3 := 0, b0 := K4 + 19, b1 := K4 + 21, b2 := K4 + 24, b3 := K4 + 26, c0 := K4 + 4, c1 := K4 + 6, c2 := K4 + 9, c3 := K4 + 11, c4 := K4 + 14, sl := K4 + 2, swt := K4 + 7, lwt := K4 + 22, sen := 0 }

theorem QEx.ex (cs : List Nat) : ∃ o, Top (QEx cs) o := ⟨_, ⟨cs.map fun c => (c, 0), 0, default, 226, 0, by simp [Function.comp_def], rfl⟩, Nat.le_refl _⟩
theorem QTk.ex (g : G) (P : Params) (T : Str) (ln : Int) (cs : List Nat) (pe : Nat) : ∃ o, Top (QTk g P T ln cs pe) o := ⟨_, ⟨0, 0, 0, 226, 0, cs.map fun c => (c, 0), by simp [Function.comp_def], rfl⟩, Nat.le_refl _⟩
theorem EqG.str' {a b : Str} {t u : Tok} (h : a = b) : EqG (.str a t) (.str b u) true := by
  have := EqG.str a b t u
  rwa [decide_eq_true h] at this
theorem EqG.int' {a b : Int} {t u : Tok} (h : a = b) : EqG (.int a t) (.int b u) true := by
  have := EqG.int a b t u
  rwa [beq_iff_eq.mpr h] at this
theorem okWord.sent {w : List Nat} (h : okWord w) : okWord (sent w) := by
  obtain ⟨x, v, rfl, h1, h2⟩ := h
  unfold Mine.sent
  split
  · rename_i e
    cases e
    exact ⟨46, _, rfl, by simp [signs0], fun y hy => by
      rcases List.mem_cons.mp hy with rfl | hy
      · simp [signs]
      · exact h2 y hy⟩
  · exact ⟨x, v, rfl, h1, h2⟩
theorem sent_ok (ws : List (List Nat)) (h : ∀ x ∈ ws, okWord x) : ∀ x ∈ ws.map sent, okWord x := fun x hx => by
  obtain ⟨v, hv, rfl⟩ := List.mem_map.mp hx
  exact (h v hv).sent
noncomputable def smallS (ws : List (List Nat)) : Prop := ∀ w ∈ ws, w.length < 1001
theorem sent_len (w : List Nat) : (sent w).length ≤ w.length + 1 := by
  unfold sent
  split
  · simp
  · omega
theorem sent_small (ws : List (List Nat)) (h : small ws) : smallS (ws.map sent) := fun x hx => by
  obtain ⟨v, hv, rfl⟩ := List.mem_map.mp hx
  have := h v hv
  have := sent_len v
  omega
theorem signs_ascii {x : Nat} (h : x ∈ signs) : x < 128 := by
  simp only [signs, List.mem_cons, List.not_mem_nil, or_false] at h
  omega
theorem okWord.ascii {w : List Nat} (h : okWord w) : ∀ x ∈ w, x < 128 := by
  obtain ⟨x, v, rfl, h1, h2⟩ := h
  intro y hy
  rcases List.mem_cons.mp hy with rfl | hy
  · exact signs_ascii (signs_of h1)
  · exact signs_ascii (h2 y hy)
theorem words_ascii : ∀ (ws : List (List Nat)), (∀ x ∈ ws, okWord x) → ∀ x ∈ joinL [13, 10] ws, x < 128
  | [], _, x, hx => nomatch hx
  | [w], h, x, hx => (h w (.head _)).ascii x hx
  | w :: v :: r, h, x, hx => by
    have hx : x ∈ w ++ [13, 10] ++ joinL [13, 10] (v :: r) := hx
    rcases List.mem_append.mp hx with hx | hx
    · rcases List.mem_append.mp hx with hx | hx
      · exact (h w (.head _)).ascii x hx
      · simp at hx; omega
    · exact words_ascii (v :: r) (fun u hu => h u (.tail _ hu)) x hx
theorem joinL_lenS : ∀ ws : List (List Nat), smallS ws → (joinL [13, 10] ws).length ≤ 1003 * ws.length
  | [], _ => Nat.zero_le _
  | [w], h => by have := h w (.head _); simp only [joinL, List.length_cons, List.length_nil]; omega
  | w :: v :: r, h => by
    have h1 := h w (.head _)
    have ih := joinL_lenS (v :: r) (fun u hu => h u (.tail _ hu))
    show (w ++ [13, 10] ++ joinL [13, 10] (v :: r)).length ≤ _
    rw [List.length_append, List.length_append]
    simp only [List.length_cons, List.length_nil] at ih ⊢
    omega
theorem words_len (ws : List (List Nat)) (h : smallS ws) (hn : ws.length ≤ 12) : (joinL [13, 10] ws).length < 100000 := by
  have := joinL_lenS ws h
  omega
theorem words_first {ws : List (List Nat)} (h : smallS ws) (hn : ws.length ≤ 12) {L : List (Nat × Tok)} (hL : L.map (·.1) = joinL [13, 10] ws) : L.length < 200000 := by
  have h1 := words_len ws h hn
  have h2 := congrArg List.length hL
  rw [List.length_map] at h2
  omega
theorem words_next (ws : List (List Nat)) (h : smallS ws) (hn : ws.length ≤ 12) {L : List (Nat × Tok)} (hL : L.map (·.1) = after ws) : L.length < 200000 := by
  have h1 := words_len ws h hn
  have h2 := congrArg List.length hL
  rw [List.length_map] at h2
  have h3 : (after ws).length ≤ (joinL [13, 10] ws).length + 1 := by
    cases ws with
    | nil => simp [after]
    | cons => simp [after]
  omega

theorem eqlN : EqL [] [] := trivial
theorem eqlC {x y : Value} {xs ys : List Value} (h : EqG x y true) (g : EqL xs ys) : EqL (x :: xs) (y :: ys) := ⟨h, g⟩
end Mine
end
noncomputable section
namespace Mine
open PySem PySem.W PySem.W.X
open PySem.Sem (wp finPost)

/-! ## super() in a method: the comparison of the frame with itself taken away -/
noncomputable def nSuper : Str := ⟨#[115, 117, 112, 101, 114]⟩
noncomputable def nClass : Str := ⟨#[95, 95, 99, 108, 97, 115, 115, 95, 95]⟩
noncomputable def okP (d : FuncData) (me : Str) : Bool := match (d.params.posonlyargs ++ d.params.args).head? with | some a => a.arg == me | none => false
noncomputable def okS (S : Setting) (file : Value) : Bool :=
  (match file with | .str x _ => S.program.main.file == x && !(S.program.main.scope.names.lookup nSuper).isSome | _ => false)
/-- what stands in a method for the base of an attribute of super() -/
noncomputable def abG (fd : Value → Sem FuncData) (fl : Value → Nat → Sem Value) (ln : Env → Str → Sem Value) (ty : Value → Sem Bool) (cl : Value → List Value → Sem Value) (env : Env) (fa cc : Addr) (me : Str) (p1 : Pos) : Sem Value := do
  let d ← fd (.ref fa)
  match okP d me with
  | true => do
    let S ← ask
    let file ← fl (.ref cc) 2
    match okS S file with
    | true => do
      standAt p1
      let g ← ln env nSuper
      let c ← ln env nClass
      let self ← ln env me
      let t ← ty c
      match g == .type "super" && t with
      | true => cl g [c, self]
      | false => unsupported "super"
    | false => unsupported "super"
  | false => unsupported "super"

theorem wp_noComps {M : Model} {Γ : Ctx} {body : List Stmt} {env : Env} (hc : Γ.code = .func body env) {Q : List Env → Pos → Shared → Prop} {Er : Value → Pos → Shared → Prop} {p : Pos} {s : Shared} (h : Q [] p s) : wp M Γ comprehensionsAround Q Er p s := by
  unfold comprehensionsAround callersCodes
  simp only [Sem.wp_bind']
  show wp M Γ (if _ then _ else _) _ Er p s
  rw [hc]
  have e : pastTheWaiting ((.func body env, p) :: Γ.below) = (.func body env, p) :: pastTheWaiting.go false (some (.func body env)) Γ.below := rfl
  rw [e]
  rw [if_neg (by simp [Code.env?])]
  exact h

theorem ab_imp {M : Model} {Γ : Ctx} {body : List Stmt} {env : Env} {fa cc : Addr} {p0 p1 : Pos} {attr me : Str} {whole : Sem Value} (hc : Γ.code = .func body env) (hattr : (attr == ("__class__" : Str)) = false)
    (hks : env.kindOf ("super" : Str) = some .globalImplicit) (hkc : env.kindOf ("__class__" : Str) = some .free) (hf : env.func = some fa) (hcd : env.code = .ref cc)
    {Q : Value → Pos → Shared → Prop} {Er : Value → Pos → Shared → Prop} {p : Pos} {s : Shared} (h : wp M Γ (abG funcData field loadName PySem.isType (fun f a => call f a) env fa cc me p1) Q Er p s) :
    wp M Γ (attributeBase (.Call (.Name ("super" : Str) p0) [] [] p1) attr env whole) Q Er p s := by
  unfold attributeBase
  simp only [bne_self_eq_false, hattr, hks, hkc, hf, hcd, Bool.or_self, Bool.false_eq_true, if_false, Option.isSome_some, if_true, pure_bind]
  unfold abG at h
  simp only [Sem.wp_bind'] at h ⊢
  refine Sem.wp_mono M Γ _ (fun d p1' s1 hd => ?_) (fun _ _ _ e => e) _ _ h
  cases ho : okP d me with
  | false => rw [ho] at hd; exact hd.elim
  | true =>
    rw [ho] at hd
    unfold okP at ho
    revert ho
    cases (d.params.posonlyargs ++ d.params.args).head? with
    | none => intro ho; cases ho
    | some first =>
      intro ho
      have hme : first.arg = me := beq_iff_eq.mp ho
      simp only [Sem.wp_bind'] at hd ⊢
      refine Sem.wp_mono M Γ _ (fun S p2 s2 hS => ?_) (fun _ _ _ e => e) _ _ hd
      refine Sem.wp_mono M Γ _ (fun file p3 s3 hF => ?_) (fun _ _ _ e => e) _ _ hS
      cases hk : okS S file with
      | false => rw [hk] at hF; exact hF.elim
      | true =>
        rw [hk] at hF
        unfold okS at hk
        cases file with
        | str x t =>
          have hk : (S.program.main.file == x && !(S.program.main.scope.names.lookup nSuper).isSome) = true := hk
          obtain ⟨k1, k2⟩ := Bool.and_eq_true_iff.mp hk
          have k2 : (List.lookup (Str.ofString "super") S.program.main.scope.names).isSome = false := by
            have : nSuper = Str.ofString "super" := by decide
            rw [this] at k2
            simpa using k2
          simp only [k1, if_true, k2, Bool.false_eq_true, if_false, Sem.wp_bind', hme] at hF ⊢
          rw [Sem.wp_cmd_rule]
          refine Sem.wp_mono M Γ _ (fun _ p4 s4 h4 => ?_) (fun _ _ _ e => e) _ _ hF
          have e1 : Str.ofString "super" = nSuper := by decide
          have e2 : Str.ofString "__class__" = nClass := by decide
          rw [e1]
          refine Sem.wp_mono M Γ _ (fun g p5 s5 h5 => ?_) (fun _ _ _ e => e) _ _ h4
          rw [e2]
          refine Sem.wp_mono M Γ _ (fun c p6 s6 h6 => ?_) (fun _ _ _ e => e) _ _ h5
          refine wp_noComps hc ?_
          refine Sem.wp_mono M Γ _ (fun self p7 s7 h7 => ?_) (fun _ _ _ e => e) _ _ h6
          refine Sem.wp_mono M Γ _ (fun ty p8 s8 h8 => ?_) (fun _ _ _ e => e) _ _ h7
          cases hg : (g == Value.type "super" && ty) with
          | false => rw [hg] at h8; exact h8.elim
          | true => rw [hg] at h8; rw [if_pos rfl]; exact h8
        | _ => cases hk

/-- a method that ends by `return super().name()`, behind a first part -/
noncomputable def ctxR (nsr : (Value → Sem Unit) → Sem Flow → Sem Flow) (mc : PySem.Expr → Str → Pos → Pos → Env → Value → Nat → List (Bool × Sem Value) → List (Option Str × Sem Value) → Sem Value) (lv : Env → Value → Sem Unit) (rt : Value → Sem Fin) (first : Sem Flow)
    (ab : Sem Value) (o : PySem.Expr) (name : Str) (pa pc pr : Pos) (env : Env) : Sem Fin := do
  point
  let r ← nsr (lv env) (do
    let f ← first
    match f with
    | .next => do
      standAt pr
      let ov ← ab
      standAt pa.atName
      let v ← mc o name pa pc env ov 0 [] []
      pure (.ret v)
    | f => pure f)
  match r with
  | .ret v => rt v
  | _ => rt .none

noncomputable def retS (name : Str) (p0 p1 pa pc pr : Pos) : Stmt := .Return (some (.Call (.Attribute (.Call (.Name ("super" : Str) p0) [] [] p1) name pa) [] [] pc)) pr
section
variable {M : Model} {Γ : Ctx} {body : List Stmt} {env : Env} {fa cc : Addr} {p0 p1 pa pc pr : Pos} {name me : Str}
theorem exec_retS (hc : Γ.code = .func body env) (hattr : (name == ("__class__" : Str)) = false)
    (hks : env.kindOf ("super" : Str) = some .globalImplicit) (hkc : env.kindOf ("__class__" : Str) = some .free) (hf : env.func = some fa) (hcd : env.code = .ref cc)
    {Q : Flow → Pos → Shared → Prop} {Er : Value → Pos → Shared → Prop} {p : Pos} {s : Shared}
    (h : wp M Γ (do
      standAt pr
      let ov ← abG funcData field loadName PySem.isType (fun f a => call f a) env fa cc me p1
      standAt pa.atName
      let v ← methodCall (.Call (.Name ("super" : Str) p0) [] [] p1) name pa pc env ov 0 [] []
      pure (Flow.ret v)) Q Er p s) : wp M Γ (execs [retS name p0 p1 pa pc pr] env) Q Er p s := by
  show wp M Γ ((do standAt pr; let v ← (do let ov ← attributeBase (.Call (.Name ("super" : Str) p0) [] [] p1) name env (eval (.Call (.Name ("super" : Str) p0) [] [] p1) env); standAt pa.atName; methodCall (.Call (.Name ("super" : Str) p0) [] [] p1) name pa pc env ov 0 [] []); pure (Flow.ret v) : Sem Flow) >>= fun f => match f with | Flow.next => execs [] env | f => pure f) Q Er p s
  simp only [Sem.wp_bind', Sem.wp_pure'] at h ⊢
  refine Sem.wp_mono M Γ _ (fun _ p2 s2 h2 => ?_) (fun _ _ _ e => e) _ _ h
  refine ab_imp (me := me) hc hattr hks hkc hf hcd ?_
  refine Sem.wp_mono M Γ _ (fun ov p3 s3 h3 => ?_) (fun _ _ _ e => e) _ _ h2
  refine Sem.wp_mono M Γ _ (fun _ p4 s4 h4 => ?_) (fun _ _ _ e => e) _ _ h3
  exact Sem.wp_mono M Γ _ (fun v p5 s5 h5 => h5) (fun _ _ _ e => e) _ _ h4
end

/-- the raw and the fast make of the tree -/
noncomputable def abF : Env → Addr → Addr → Str → Pos → Sem Value := abG Fast.tw16755525298939948312 Fast.tw6609576154772507232 Fast.tw8468629109055619292 Fast.tw10380811246957099773 (fun f a => Fast.tw11478286150595567475 f a)
theorem abF_eq : abF = abG funcData field loadName PySem.isType (fun f a => call f a) := by
  unfold abF
  rw [Fast.te16755525298939948312, Fast.te6609576154772507232, Fast.te8468629109055619292, Fast.te10380811246957099773, Fast.te11478286150595567475]
noncomputable def altR (first : Sem Flow) (env : Env) (fa cc : Addr) (name me : Str) (p0 p1 pa pc pr : Pos) : Sem Fin :=
  ctxR (fun h m => R.onRaiseR m h) Fast.tw13401596951702201221 Fast.tw9442747609961115081 Fast.tw6905046200447255374 first (abF env fa cc me p1) (.Call (.Name ("super" : Str) p0) [] [] p1) name pa pc pr env
theorem altR_eq (first : Sem Flow) (env : Env) (fa cc : Addr) (name me : Str) (p0 p1 pa pc pr : Pos) : altR first env fa cc name me p0 p1 pa pc pr =
    ctxR (fun h m => Sem.onRaise m h) methodCall leaving ret first (abG funcData field loadName PySem.isType (fun f a => call f a) env fa cc me p1) (.Call (.Name ("super" : Str) p0) [] [] p1) name pa pc pr env := by
  unfold altR
  rw [abF_eq, Fast.te13401596951702201221, Fast.te9442747609961115081, Fast.te6905046200447255374, R.onRaiseR_eq]
section
variable {env : Env} {fa cc : Addr} {p0 p1 pa pc pr : Pos} {name me : Str}
theorem sub_one (hattr : (name == ("__class__" : Str)) = false)
    (hks : env.kindOf ("super" : Str) = some .globalImplicit) (hkc : env.kindOf ("__class__" : Str) = some .free) (hf : env.func = some fa) (hcd : env.code = .ref cc) :
    Sub (.func [retS name p0 p1 pa pc pr] env) (altR (pure .next) env fa cc name me p0 p1 pa pc pr) := by
  intro M Γ Q Er p s hc h
  rw [altR_eq] at h
  unfold ctxR at h
  show wp M Γ (do point; let r ← (execs [retS name p0 p1 pa pc pr] env).onRaise (leaving env); match r with | .ret v => ret v | _ => ret .none) Q Er p s
  simp only [Sem.wp_bind', Sem.wp_onRaise] at h ⊢
  refine Sem.wp_mono M Γ _ (fun _ p2 s2 h2 => ?_) (fun _ _ _ e => e) _ _ h
  refine exec_retS (me := me) hc hattr hks hkc hf hcd ?_
  simp only [Sem.wp_bind', Sem.wp_pure'] at h2 ⊢
  exact h2
theorem sub_two {s₁ : Stmt} (hattr : (name == ("__class__" : Str)) = false)
    (hks : env.kindOf ("super" : Str) = some .globalImplicit) (hkc : env.kindOf ("__class__" : Str) = some .free) (hf : env.func = some fa) (hcd : env.code = .ref cc) :
    Sub (.func [s₁, retS name p0 p1 pa pc pr] env) (altR (Fast.tw12563942051412417395 [s₁] env) env fa cc name me p0 p1 pa pc pr) := by
  intro M Γ Q Er p s hc h
  rw [altR_eq, ← Fast.te12563942051412417395] at h
  unfold ctxR at h
  show wp M Γ (do point; let r ← (execs [s₁, retS name p0 p1 pa pc pr] env).onRaise (leaving env); match r with | .ret v => ret v | _ => ret .none) Q Er p s
  simp only [Sem.wp_bind', Sem.wp_onRaise] at h ⊢
  refine Sem.wp_mono M Γ _ (fun _ p2 s2 h2 => ?_) (fun _ _ _ e => e) _ _ h
  show wp M Γ (PySem.exec s₁ env >>= fun f => match f with | Flow.next => execs [retS name p0 p1 pa pc pr] env | f => pure f) _ _ p2 s2
  have h2 : wp M Γ (PySem.exec s₁ env >>= fun f => match f with | Flow.next => execs [] env | f => pure f) _ _ p2 s2 := h2
  rw [Sem.wp_bind'] at h2 ⊢
  refine Sem.wp_mono M Γ _ (fun f p3 s3 h3 => ?_) (fun _ _ _ e => e) _ _ h2
  cases f with
  | next =>
    have h3 : wp M Γ (pure Flow.next : Sem Flow) _ _ p3 s3 := h3
    rw [Sem.wp_pure'] at h3
    refine exec_retS (me := me) hc hattr hks hkc hf hcd ?_
    simp only [Sem.wp_bind', Sem.wp_pure'] at h3 ⊢
    exact h3
  | _ => exact h3
end
end Mine
end
noncomputable section
namespace Mine
open PySem PySem.W PySem.W.X

noncomputable def mEnv (j : Nat) (q : String) (fa cd L : Addr) : Env := { scope := fScope (fCls 9 j), locals := L, globals := 3, cells := [(nClass, 59)], qual := Str.ofString q, func := some fa, code := .ref cd, frame := some L, builtins := 0 }
noncomputable def pcEnv (L : Addr) : Env := mEnv 8 "_Accumulator.part_count.<locals>." 132 131 L
noncomputable def popEnv (L : Addr) : Env := mEnv 3 "_Accumulator.pop.<locals>." 95 94 L
noncomputable def nLen : Str := Str.ofString "__len__"
noncomputable def nPop : Str := Str.ofString "pop"
noncomputable def popIf : Stmt := ((fBody (fCls 9 3))[0]?).getD (.Pass ⟨0, 0, 0, 0⟩)
theorem pc_body : fBody (fCls 9 8) = [retS nLen ⟨45, 15, 45, 20⟩ ⟨45, 15, 45, 22⟩ ⟨45, 15, 45, 30⟩ ⟨45, 15, 45, 32⟩ ⟨45, 8, 45, 32⟩] := by kernel_rfl
theorem pop_body : fBody (fCls 9 3) = [popIf, retS nPop ⟨30, 15, 30, 20⟩ ⟨30, 15, 30, 22⟩ ⟨30, 15, 30, 26⟩ ⟨30, 15, 30, 28⟩ ⟨30, 8, 30, 28⟩] := by kernel_rfl
noncomputable def pcC (L : Addr) : Code := .func (fBody (fCls 9 8)) (pcEnv L)
noncomputable def popC (L : Addr) : Code := .func (fBody (fCls 9 3)) (popEnv L)
noncomputable def pcAlt (L : Addr) : Sem Fin := altR (pure .next) (pcEnv L) 132 131 nLen sSelf ⟨45, 15, 45, 20⟩ ⟨45, 15, 45, 22⟩ ⟨45, 15, 45, 30⟩ ⟨45, 15, 45, 32⟩ ⟨45, 8, 45, 32⟩
noncomputable def popAlt (L : Addr) : Sem Fin := altR (Fast.tw12563942051412417395 [popIf] (popEnv L)) (popEnv L) 95 94 nPop sSelf ⟨30, 15, 30, 20⟩ ⟨30, 15, 30, 22⟩ ⟨30, 15, 30, 26⟩ ⟨30, 15, 30, 28⟩ ⟨30, 8, 30, 28⟩
theorem pcSub (L : Addr) : Sub (pcC L) (pcAlt L) := by
  unfold pcC
  rw [pc_body]
  exact sub_one (by kernel_rfl) (by kernel_rfl) (by kernel_rfl) rfl rfl
theorem popSub (L : Addr) : Sub (popC L) (popAlt L) := by
  unfold popC
  rw [pop_body]
  exact sub_two (by kernel_rfl) (by kernel_rfl) (by kernel_rfl) rfl rfl
/-- as the recorder runs them -/
noncomputable def altRaw (c : Code) : Option (Sem Fin) := match c with
  | .func _ env => match env.func with
    | some 132 => some (ctxR (fun h m => Sem.onRaise m h) methodCall leaving ret (pure .next) (abG funcData field loadName PySem.isType (fun f a => call f a) env 132 131 sSelf ⟨45, 15, 45, 22⟩) (.Call (.Name ("super" : Str) ⟨45, 15, 45, 20⟩) [] [] ⟨45, 15, 45, 22⟩) nLen ⟨45, 15, 45, 30⟩ ⟨45, 15, 45, 32⟩ ⟨45, 8, 45, 32⟩ env)
    | some 95 => some (ctxR (fun h m => Sem.onRaise m h) methodCall leaving ret (execs [popIf] env) (abG funcData field loadName PySem.isType (fun f a => call f a) env 95 94 sSelf ⟨30, 15, 30, 22⟩) (.Call (.Name ("super" : Str) ⟨30, 15, 30, 20⟩) [] [] ⟨30, 15, 30, 22⟩) nPop ⟨30, 15, 30, 26⟩ ⟨30, 15, 30, 28⟩ ⟨30, 8, 30, 28⟩ env)
    | _ => none
  | _ => none
end Mine
end
noncomputable section
namespace Mine
open PySem PySem.W PySem.W.X

/-! ## what a tick leans on, by its data -/
noncomputable def hxs : Nat → Nat → List Nat
  | 0, _ => []
  | n + 1, x => x % 128 :: hxs n (x / 128)
/-- hints, thirty in a number -/
noncomputable def hx : List Nat → List Nat
  | [] => []
  | [x] => hxs (x % 32) (x / 32)
  | x :: y :: xs => hxs 30 x ++ hx (y :: xs)
noncomputable abbrev exL (cs : List Nat) : {R : List (Nat × Tok) // R.map (·.1) = cs} := ⟨cs.map fun c => (c, 0), by simp [Function.comp_def]⟩
noncomputable def fIadd (l : Addr) (xs ys : List Value) (ob : Obj) (d : Nat × Nat) (t : Nat) : Outc := ⟨.ok (.ret (.ref l)), [listO (xs ++ ys) d.1, ob], [], t, d.2⟩
theorem up_iadd (w : WK) (bel : List (Code × Pos)) (l b : Addr) (xs ys : List Value) (ep ep' : Nat) (hx : xs.length < 100000) (hy : ys.length < 100000) :
    Ctr (E2 w) bel (.builtin "list.__iadd__" ⟨[.ref l, .ref b], []⟩) [(l, listO xs ep), (b, listO ys ep')] (QF (up (fIadd l xs ys (listO ys ep')))) :=
  (ctr_iadd _ bel l b xs ys ep ep' hx hy).toU rfl (fun _ _ => rfl) fun _ ⟨e, t, k, h⟩ => ⟨(e, k), t, h⟩
noncomputable def fJ (X : List Nat) (d : Tok × Obj × Nat) (t : Nat) : Outc := ⟨.ok (.ret (.str (strOf X) d.1)), [d.2.1], [], t, d.2.2⟩
theorem up_join (w : WK) (bel : List (Code × Pos)) (e : List Nat) (t : Tok) (l : Addr) (vs : List Wd) (ep : Nat) (he : e.length ≤ 2) (h : small (vs.map (·.1))) (hn : vs.length ≤ 12) :
    Ctr (E2 w) bel (.builtin "str.join" ⟨[.str (strOf e) t, .ref l], []⟩) [(l, listO (wsV vs) ep)] (QF (up (fJ (joinL e (vs.map (·.1)))))) :=
  (ctr_joinW _ bel e t l vs ep he h hn).toU rfl (fun _ _ => rfl) fun _ ⟨a, b, t, k, h⟩ => ⟨(a, b, k), t, h⟩
noncomputable def fStr (X : List Nat) (d : Tok × Nat) (t : Nat) : Outc := ⟨.ok (.ret (.str (strOf X) d.1)), [], [], t, d.2⟩
theorem up_quoted (w : WK) (σ : Sv) (e : List Nat) (he : e = [13] ∨ e = [10] ∨ e = [13, 10]) (ws : List (List Nat)) (h : ∀ w ∈ ws, okWord w) (hs : small ws) (hn : ws.length ≤ 12) (tt : Tok) :
    Ctr (E2 w) σ.tl (.call (.ref 55) ⟨[.str (strOf (joinL e ws)) tt], []⟩) [] (QF (up (fStr (joinL [13, 10] (ws.map sent))))) :=
  (quotedata_words w σ e he ws (fun x hx => (h x hx).plain) hs hn tt).toU rfl (fun _ _ => rfl) fun _ ⟨a, t, k, h⟩ => ⟨(a, k), t, h⟩
noncomputable def fIt (X : List Nat) (d : Tok × Addr × Nat) (t : Nat) : Outc := ⟨.ok (.ret (.ref d.2.1)), [], [(d.2.1, strItO (strOf X) d.1 0)], t, d.2.2⟩
theorem up_iter (w : WK) (bel : List (Code × Pos)) (X : List Nat) (t : Tok) (h : ∀ x ∈ X, x < 128) : Ctr (E2 w) bel (.builtin "str.__iter__" ⟨[.str (strOf X) t], []⟩) [] (QF (up (fIt X))) :=
  (ctr_itW _ bel X t h).toU rfl (fun _ _ => rfl) fun _ ⟨a, b, t, k, h⟩ => ⟨(a, b, k), t, h⟩
noncomputable def fEx (cs : List Nat) (d : {R : List (Nat × Tok) // R.map (·.1) = cs} × Nat × Obj × Nat) (t : Nat) : Outc := ⟨.ok (.ret .none), [listO (d.1.1.map chV) d.2.1, d.2.2.1], [], t, d.2.2.2⟩
theorem up_extend (w : WK) (bel : List (Code × Pos)) (X : List Nat) (t : Tok) (l it : Addr) (hX : X.length < 100000) :
    Ctr (E2 w) bel (.builtin "list.extend.loop" ⟨[.ref l, .ref it, .none], []⟩) [(l, listO [] 0), (it, strItO (strOf X) t 0)] (QF (up (fEx X))) :=
  (ctr_exW _ bel X t l it hX).toU rfl (fun _ _ => rfl) fun _ ⟨a, b, c, t, k, e, h⟩ => ⟨(⟨a, e⟩, b, c, k), t, h⟩
noncomputable def fTk (g : G) (P : Params) (T : Str) (ln : Int) (cs : List Nat) (d : Tok × Tok × Nat × {R : List (Nat × Tok) // R.map (·.1) = cs} × Nat) (t : Nat) : Outc := ⟨.ok (.ret (.str T d.2.1)), (g.eight P ln d.1 (d.2.2.2.1.1.map chV) d.2.2.1 0).map (·.2), [], t, d.2.2.2.2⟩
theorem QTk.up {E : En} {bel : List (Code × Pos)} {c : Code} {pre : List (Addr × Obj)} {g : G} {P : Params} {T : Str} {ln : Int} {cs : List Nat} (h : Ctr E bel c pre (QTk g P T ln cs 0)) (hf : Far E.kt) : Ctr E bel c pre (QF (up (fTk g P T ln cs))) :=
  h.toU hf (fun _ _ => rfl) fun _ ⟨a, b, c, t, k, R, e, h⟩ => ⟨(a, b, c, ⟨R, e⟩, k), t, h⟩
/-- the words that a tick sends, from the i-th on -/
structure Sent (ws : List (List Nat)) : Prop where
  ok : ∀ x ∈ ws, okWord x
  sm : smallS ws
  le : ws.length ≤ 12
theorem Sent.tail {x : List Nat} {ws : List (List Nat)} (h : Sent (x :: ws)) : Sent ws := ⟨fun y hy => h.ok y (.tail _ hy), fun y hy => h.sm y (.tail _ hy), Nat.le_trans (Nat.le_succ _) h.le⟩
theorem sent_of (ws : List (List Nat)) (hw : ∀ x ∈ ws, okWord x) (hs : small ws) (hn : ws.length ≤ 12) : Sent (ws.map sent) := ⟨sent_ok ws hw, sent_small ws hs, by rw [List.length_map]; exact hn⟩
theorem up_first (w : WK) (σ : Sv) (g : G) (ln : Int) (lt : Tok) (ep : Nat) (wd : List Nat) (ws : List (List Nat)) (L : {R : List (Nat × Tok) // R.map (·.1) = joinL [13, 10] (wd :: ws)}) (h : Sent (wd :: ws)) :
    Ctr (E2 w) σ.list (.call (.ref 167) ⟨[.ref g.r], []⟩) (g.eight w.params ln lt (L.1.map chV) ep 0) (QF (up (fTk g w.params (strOf wd) ln (after ws)))) :=
  QTk.up (tok_first w σ g ln lt ep 0 wd ws L.1 L.2 (h.ok _ (.head _)) (words_first h.sm h.le L.2)) rfl
theorem up_next (w : WK) (σ : Sv) (g : G) (ln : Int) (lt : Tok) (ep : Nat) (wd : List Nat) (ws : List (List Nat)) (L : {R : List (Nat × Tok) // R.map (·.1) = after (wd :: ws)}) (h : Sent (wd :: ws)) :
    Ctr (E2 w) σ.list (.call (.ref 167) ⟨[.ref g.r], []⟩) (g.eight w.params ln lt (L.1.map chV) ep 0) (QF (up (fTk g w.params (strOf wd) (ln + 1) (after ws)))) :=
  QTk.up (tok_next w σ g ln lt ep 0 wd ws L.1 L.2 (h.ok _ (.head _)) (words_next _ h.sm h.le L.2)) rfl
theorem up_none (w : WK) (σ : Sv) (g : G) (ln : Int) (lt : Tok) (ep : Nat) (L : {R : List (Nat × Tok) // R.map (·.1) = after []}) :
    Ctr (E2 w) σ.list (.call (.ref 167) ⟨[.ref g.r], []⟩) (g.eight w.params ln lt (L.1.map chV) ep 0) (QF (up (fTk g w.params ⟨#[]⟩ ln []))) :=
  QTk.up (tok_none w σ g ln lt ep 0 L.1 L.2) rfl
noncomputable def fE2 (d : Obj × Obj × Nat) (t : Nat) : Outc := ⟨.ok (.ret (.bool true)), [d.1, d.2.1], [], t, d.2.2⟩
theorem up_eq (w : WK) (bel : List (Code × Pos)) (l b : Addr) (xs ys : List Value) (ep ep' : Nat) (h : EqL xs ys) : Ctr (E2 w) bel (.builtin "list.__eq__" ⟨[.ref l, .ref b], []⟩) [(l, listO xs ep), (b, listO ys ep')] (QF (up fE2)) :=
  (ctr_eq2 _ bel l b xs ys ep ep' h).toU rfl (fun _ _ => rfl) fun _ ⟨a, b, t, k, h⟩ => ⟨(a, b, k), t, h⟩
/-- behind a tick -/
noncomputable abbrev TkD (lw pw : List (List Nat)) := {l : List Wd // l.map (·.1) = lw} × {l : List PR // l.map (·.x.1) = pw} × Nat × Nat × Nat × Nat
noncomputable def fTkk (L : LP) (P : Params) (lr : List Wd) (pr : List PR) (ah : List Wd) (e3 : Nat) (d : TkD (lr.map fun x => sent x.1) (pr.map fun p => sent p.x.1)) : Outc :=
  ⟨.ok (.ret (.bool true)), (L.seven P d.1.1 d.2.1.1 ah d.2.2.1 d.2.2.2.1 e3).map (·.2) ++ pr.map tupW, tups d.2.1.1, d.2.2.2.2.1, d.2.2.2.2.2⟩
end Mine
end
noncomputable section
namespace Mine
open PySem PySem.W PySem.W.X

theorem tick_0_0 (w : WK) (σ : Sv) (T : LP) (ah : Addr) (e : List Nat) (et : Tok) (e1 e2 e3 : Nat)
    (he3 : e = [13] ∨ e = [10] ∨ e = [13, 10]) (hw : ∀ x ∈ ([] : List (List Nat)), okWord x) (hs : small []) :
    Ctr (E2 w) σ.bt (.call (.ref 193) ⟨[.ref 228, .ref 232, .ref ah, .str (strOf e) et], []⟩) ((L0 T ah).seven w.params [] [] [] e1 e2 e3 ++ tups []) (QF (fTkk (L0 T ah) w.params [] [] [] e3)) := by
  have he : e.length ≤ 2 := by rcases he3 with rfl | rfl | rfl <;> decide
  have hn : ([] : List (List Nat)).length ≤ 12 := Nat.le_of_ble_eq_true rfl
  have S : Sent [] := sent_of [] hw hs hn
  exact Ctr.runU (E := E2 w) den_eq rfl 100000 (fun N K p => .ent 58 (hx [0x2800000280000028800000071000388001c4001024000, 0x2858000000060a9]) (pcC (N + 226 + 3)) (pcAlt (N + 226 + 3)) (pcSub _) <|
    .dat 280 (hx [0x60c183060b182c60b1800285003060c000058000000000204080, 0x23c78c040878e1c38700000470e1c3870e0a346800a0000c, 0x60a00000001400000140000014408221c400263c78f1e3c78f, 0x2952a54a95001400000140050000005285001328009940000000, 0x258b140a102852e5cc183060c000a000000a00294284ca00, 0x10344081b3674c192c64c993264c800004c9918081192da]) [15, 25] (up (fIadd (N + 226 + 8) [] [] (listO [] 0))) ((0, 0), 0) fun d1 =>
    .dat 36 (hx [0x7201c8100e40408100038800e]) [29] (up (fJ (joinL e []))) ((0, default, 0), 0) fun d2 =>
    .dat 4 [0] [] (up (fStr (joinL [13, 10] []))) ((0, 0), 0) fun d3 =>
    .dat 37 (hx [0x4f9e3e7cf9f3e200000000388012]) [] (up (fIt (joinL [13, 10] []))) ((0, 0, 0), 0) fun d4 =>
    .dat 2 [32] [30, 31] (up (fEx (joinL [13, 10] []))) ((exL (joinL [13, 10] []), 0, default, 0), 0) fun d5 =>
    .dat 572 (hx [0x214400000, 0x240090000009128048940244a00000000000048012000000000, 0x11a246000240000024009002400000244a951a246000240000024, 0x24009002400000244a8d1230001200000120048012000001225, 0x12000001200480120000012210000001008108046891800090000, 0x10a3448c000, 0x15005401500000152b00a958054ac000000000000a802a0000000, 0x15a950a400054000005401500540000054ad5a950a40005400000, 0x5401500540000054ad4a8520002a000002a00a802a000002a, 0x16ad5ab400002b56ad5ab56902040400000000914a54290001500, 0x2cd98c04099b200000b264c43b10e1d88710c172e5cb972e, 0xa5500000002a000002a000002a14d1a8064cd93366cd9b367d]) [41, 40, 35, 34, 39, 33, 30, 43] (up (fTk (gR (d3.2 + 226) (d5.2 + 226) d5.1.2.2.2) w.params ⟨#[]⟩ 1 [])) ((0, 0, 0, exL [], 0), 0) fun d6 =>
    .pur 58 (hx [0x10a402a540000054000005429a356add93364cd9b366d19b469d]) (.int 0) <|
    .dat 258 (hx [0x8101c40074e9d07201c8100e40408000038800e1a3868d1c34, 0x176f1dbc78f1e3d7af1ebb78ede3c78f1ebc760000176ec400, 0x20c083060c185060000006040100003d78f5fbb78ede3c78f1e80, 0x3c50f0a0c289020c083060c18400001810604183060c28506140, 0x1c800005cc673143c50eb]) [56, 69] (up (fE2 )) ((default, default, 0), 0) fun de =>
    .fin 2 []) fun N K p d1 d2 d3 d4 d5 d6 de => .mk' [(.builtin "str.count" ⟨[.str (strOf (joinL [13, 10] [])) d3.1.1, .str ⟨#[13, 10]⟩ (d6.1.2.2.2.2 + 1)], []⟩, .int 0)]
    [(none, .builtin "list.__iadd__" ⟨[.ref (N + 226 + 8), .ref (N + 226 + 18)], []⟩, [(N + 226 + 8, listO [] 0), (N + 226 + 18, listO [] 0)]),
     (none, .builtin "str.join" ⟨[.str (strOf e) et, .ref (d1.2 + 226 + 0)], []⟩, [(d1.2 + 226 + 0, (listO (wsV []) 0))]),
     (some (σ.inT (N + 226) ⟨98, 11, 98, 44⟩).tl, .call (.ref 55) ⟨[.str (strOf (joinL e [])) d2.1.1], []⟩, []),
     (none, .builtin "str.__iter__" ⟨[.str (strOf (joinL [13, 10] [])) d3.1.1], []⟩, []),
     (none, .builtin "list.extend.loop" ⟨[.ref (d3.2 + 226 + 0), .ref d4.1.2.1, .none], []⟩, [(d3.2 + 226 + 0, listO [] 0), (d4.1.2.1, strItO (strOf (joinL [13, 10] [])) d4.1.1 0)]),
     (some (σ.inC (N + 226) (d5.2 + 226 + 18) (d5.2 + 226 + 19) (d5.2 + 226 + 20) ⟨105, 12, 105, 30⟩ ⟨105, 43, 105, 55⟩).list, .call (.ref 167) ⟨[.ref (d5.2 + 226 + 9)], []⟩, (gR (d3.2 + 226) (d5.2 + 226) d5.1.2.2.2).eight w.params 1 (d5.1.2.2.2 + 17) (d5.1.1.1.map chV) d5.1.2.1 0),
     (none, .builtin "list.__eq__" ⟨[.ref (d6.2 + 226 + 3), .ref (d6.2 + 226 + 16)], []⟩, [(d6.2 + 226 + 3, listO [.str ⟨#[]⟩ d6.1.2.1, .int 1 d6.1.1, .int 0 (d6.1.2.2.2.2 + 2)] 0), (d6.2 + 226 + 16, listO [.str ⟨#[]⟩ (d6.1.2.2.2.2 + 7), .int 1 (d6.1.2.2.2.2 + 8), .int 0 (d6.1.2.2.2.2 + 9)] 0)])]
    (⟨[], rfl⟩, ⟨[], rfl⟩, e1, e2, de.2 + 226, de.1.2.2) (de.2 + 226, 0) (de.1.2.2, 0) [0, 1, 2, 3, 4, 5, 6] (by kernel_rfl)
    (oneG (gives_count [] d3.1.1 _ (fun x hx => (S.ok x hx).plain)))
    ⟨fun b => up_iadd w b _ _ _ _ _ _ (by simp) (by simp),
      fun b => up_join w b e et _ [] _ he (fun x hx => hs x hx) (by simp),
      up_quoted w (σ.inT (N + 226) ⟨98, 11, 98, 44⟩) e he3 [] hw hs hn d2.1.1,
      fun b => up_iter w b (joinL [13, 10] []) d3.1.1 (words_ascii [] S.ok),
      fun b => up_extend w b (joinL [13, 10] []) d4.1.1 _ _ (words_len [] S.sm S.le),
      up_none w (σ.inC (N + 226) (d5.2 + 226 + 18) (d5.2 + 226 + 19) (d5.2 + 226 + 20) ⟨105, 12, 105, 30⟩ ⟨105, 43, 105, 55⟩) (gR (d3.2 + 226) (d5.2 + 226) d5.1.2.2.2) 1 (d5.1.2.2.2 + 17) d5.1.2.1 d5.1.1,
      fun b => up_eq w b _ _ _ _ _ _ (eqlC (EqG.str' rfl) (eqlC (EqG.int' rfl) (eqlC (EqG.int' rfl) eqlN))), trivial⟩ rfl rfl rfl rfl
end Mine
end
noncomputable section
namespace Mine
open PySem PySem.W PySem.W.X

theorem tick_0_1 (w : WK) (σ : Sv) (T : LP) (ah : Addr) (e : List Nat) (et : Tok) (e1 e2 e3 : Nat) (b1 : Tok)
    (he3 : e = [13] ∨ e = [10] ∨ e = [13, 10]) (hw : ∀ x ∈ ([[99]] : List (List Nat)), okWord x) (hs : small [[99]]) :
    Ctr (E2 w) σ.bt (.call (.ref 193) ⟨[.ref 228, .ref 232, .ref ah, .str (strOf e) et], []⟩) ((L0 T ah).seven w.params [] [] [([99], b1)] e1 e2 e3 ++ tups []) (QF (fTkk (L0 T ah) w.params [] [] [([99], b1)] e3)) := by
  have he : e.length ≤ 2 := by rcases he3 with rfl | rfl | rfl <;> decide
  have hn : ([[99]] : List (List Nat)).length ≤ 12 := Nat.le_of_ble_eq_true rfl
  have S : Sent [sent [99]] := sent_of [[99]] hw hs hn
  exact Ctr.runU (E := E2 w) den_eq rfl 100000 (fun N K p => .ent 58 (hx [0x2800000280000028800000071000388001c4001024000, 0x2858000000060a9]) (pcC (N + 226 + 3)) (pcAlt (N + 226 + 3)) (pcSub _) <|
    .dat 280 (hx [0x60c183060b182c60b1800285003060c000058000000000204080, 0x23c78c040878e1c38700000470e1c3870e0a346800a0000c, 0x60a00000001400000140000014408221c400263c78f1e3c78f, 0x2952a54a95001400000140050000005285001328009940000000, 0x258b140a102852e5cc183060c000a000000a00294284ca00, 0x10344081b3674c192c64c993264c800004c9918081192da]) [15, 25] (up (fIadd (N + 226 + 8) [] [] (listO [] 0))) ((0, 0), 0) fun d1 =>
    .dat 36 (hx [0x7201c8100e40408100038800e]) [29] (up (fJ (joinL e [[99]]))) ((0, default, 0), 0) fun d2 =>
    .dat 4 [0] [] (up (fStr (joinL [13, 10] [sent [99]]))) ((0, 0), 0) fun d3 =>
    .dat 37 (hx [0x4f9e3e7cf9f3e200000000388012]) [] (up (fIt (joinL [13, 10] [sent [99]]))) ((0, 0, 0), 0) fun d4 =>
    .dat 2 [32] [30, 31] (up (fEx (joinL [13, 10] [sent [99]]))) ((exL (joinL [13, 10] [sent [99]]), 0, default, 0), 0) fun d5 =>
    .dat 572 (hx [0x214400000, 0x240090000009128048940244a00000000000048012000000000, 0x11a246000240000024009002400000244a951a246000240000024, 0x24009002400000244a8d1230001200000120048012000001225, 0x12000001200480120000012210000001008108046891800090000, 0x10a3448c000, 0x15005401500000152b00a958054ac000000000000a802a0000000, 0x15a950a400054000005401500540000054ad5a950a40005400000, 0x5401500540000054ad4a8520002a000002a00a802a000002a, 0x16ad5ab400002b56ad5ab56902040400000000914a54290001500, 0x2cd98c04099b200000b264c43b10e1d88710c172e5cb972e, 0xa5500000002a000002a000002a14d1a8064cd93366cd9b367d]) [41, 40, 35, 34, 39, 33, 30, 43] (up (fTk (gR (d3.2 + 226) (d5.2 + 226) d5.1.2.2.2) w.params (strOf (sent [99])) 1 (after []))) ((0, 0, 0, exL (after []), 0), 0) fun d6 =>
    .dat 48 (hx [0x14aa0000000540000054000005429a3500c99b266cd9b368cda34, 0x1]) [41, 40, 35, 34, 39, 33, 30, 43] (up (fTk (gR (d3.2 + 226) (d5.2 + 226) d5.1.2.2.2) w.params ⟨#[]⟩ 1 [])) ((0, 0, 0, exL [], 0), 0) fun d7 =>
    .pur 58 (hx [0x10a402a540000054000005429a356add93364cd9b366d19b469d]) (.int 0) <|
    .dat 258 (hx [0x8101c40074e9d07201c8100e40408000038800e1a3868d1c34, 0x176f1dbc78f1e3d7af1ebb78ede3c78f1ebc760000176ec400, 0x20c083060c185060000006040100003d78f5fbb78ede3c78f1e80, 0x3c50f0a0c289020c083060c18400001810604183060c28506140, 0x1c800005cc673143c50eb]) [56, 69] (up (fE2 )) ((default, default, 0), 0) fun de =>
    .fin 2 []) fun N K p d1 d2 d3 d4 d5 d6 d7 de => .mk' [(.builtin "str.count" ⟨[.str (strOf (joinL [13, 10] [sent [99]])) d3.1.1, .str ⟨#[13, 10]⟩ (d7.1.2.2.2.2 + 1)], []⟩, .int 0)]
    [(none, .builtin "list.__iadd__" ⟨[.ref (N + 226 + 8), .ref (N + 226 + 18)], []⟩, [(N + 226 + 8, listO [] 0), (N + 226 + 18, listO [] 0)]),
     (none, .builtin "str.join" ⟨[.str (strOf e) et, .ref (d1.2 + 226 + 0)], []⟩, [(d1.2 + 226 + 0, (listO (wsV [([99], b1)]) 0))]),
     (some (σ.inT (N + 226) ⟨98, 11, 98, 44⟩).tl, .call (.ref 55) ⟨[.str (strOf (joinL e [[99]])) d2.1.1], []⟩, []),
     (none, .builtin "str.__iter__" ⟨[.str (strOf (joinL [13, 10] [sent [99]])) d3.1.1], []⟩, []),
     (none, .builtin "list.extend.loop" ⟨[.ref (d3.2 + 226 + 0), .ref d4.1.2.1, .none], []⟩, [(d3.2 + 226 + 0, listO [] 0), (d4.1.2.1, strItO (strOf (joinL [13, 10] [sent [99]])) d4.1.1 0)]),
     (some (σ.inC (N + 226) (d5.2 + 226 + 18) (d5.2 + 226 + 19) (d5.2 + 226 + 20) ⟨105, 12, 105, 30⟩ ⟨105, 43, 105, 55⟩).list, .call (.ref 167) ⟨[.ref (d5.2 + 226 + 9)], []⟩, (gR (d3.2 + 226) (d5.2 + 226) d5.1.2.2.2).eight w.params 1 (d5.1.2.2.2 + 17) (d5.1.1.1.map chV) d5.1.2.1 0),
     (some (σ.inC (N + 226) (d5.2 + 226 + 18) (d5.2 + 226 + 19) (d5.2 + 226 + 20) ⟨105, 12, 105, 30⟩ ⟨105, 43, 105, 55⟩).list, .call (.ref 167) ⟨[.ref (d5.2 + 226 + 9)], []⟩, (gR (d3.2 + 226) (d5.2 + 226) d5.1.2.2.2).eight w.params 1 d6.1.1 (d6.1.2.2.2.1.1.map chV) d6.1.2.2.1 0),
     (none, .builtin "list.__eq__" ⟨[.ref (d7.2 + 226 + 3), .ref (d7.2 + 226 + 16)], []⟩, [(d7.2 + 226 + 3, listO [.str (strOf (sent [99])) d6.1.2.1, .str ⟨#[]⟩ d7.1.2.1, .int 1 d7.1.1, .int 0 (d7.1.2.2.2.2 + 2)] 0), (d7.2 + 226 + 16, listO [.str (strOf [99]) b1, .str ⟨#[]⟩ (d7.1.2.2.2.2 + 7), .int 1 (d7.1.2.2.2.2 + 8), .int 0 (d7.1.2.2.2.2 + 9)] 0)])]
    (⟨[], rfl⟩, ⟨[], rfl⟩, e1, e2, de.2 + 226, de.1.2.2) (de.2 + 226, 0) (de.1.2.2, 0) [0, 1, 2, 3, 4, 5, 6] (by kernel_rfl)
    (oneG (gives_count [sent [99]] d3.1.1 _ (fun x hx => (S.ok x hx).plain)))
    ⟨fun b => up_iadd w b _ _ _ _ _ _ (by simp) (by simp),
      fun b => up_join w b e et _ [([99], b1)] _ he (fun x hx => hs x hx) (by simp),
      up_quoted w (σ.inT (N + 226) ⟨98, 11, 98, 44⟩) e he3 [[99]] hw hs hn d2.1.1,
      fun b => up_iter w b (joinL [13, 10] [sent [99]]) d3.1.1 (words_ascii [sent [99]] S.ok),
      fun b => up_extend w b (joinL [13, 10] [sent [99]]) d4.1.1 _ _ (words_len [sent [99]] S.sm S.le),
      up_first w (σ.inC (N + 226) (d5.2 + 226 + 18) (d5.2 + 226 + 19) (d5.2 + 226 + 20) ⟨105, 12, 105, 30⟩ ⟨105, 43, 105, 55⟩) (gR (d3.2 + 226) (d5.2 + 226) d5.1.2.2.2) 1 (d5.1.2.2.2 + 17) d5.1.2.1 (sent [99]) [] d5.1.1 S,
      up_none w (σ.inC (N + 226) (d5.2 + 226 + 18) (d5.2 + 226 + 19) (d5.2 + 226 + 20) ⟨105, 12, 105, 30⟩ ⟨105, 43, 105, 55⟩) (gR (d3.2 + 226) (d5.2 + 226) d5.1.2.2.2) 1 d6.1.1 d6.1.2.2.1 d6.1.2.2.2.1,
      fun b => up_eq w b _ _ _ _ _ _ (eqlC (EqG.str' rfl) (eqlC (EqG.str' rfl) (eqlC (EqG.int' rfl) (eqlC (EqG.int' rfl) eqlN)))), trivial⟩ rfl rfl rfl rfl
end Mine
end
noncomputable section
namespace Mine
open PySem PySem.W PySem.W.X

theorem tick_0_2 (w : WK) (σ : Sv) (T : LP) (ah : Addr) (e : List Nat) (et : Tok) (e1 e2 e3 : Nat) (b1 b2 : Tok)
    (he3 : e = [13] ∨ e = [10] ∨ e = [13, 10]) (hw : ∀ x ∈ ([[35], [99]] : List (List Nat)), okWord x) (hs : small [[35], [99]]) :
    Ctr (E2 w) σ.bt (.call (.ref 193) ⟨[.ref 228, .ref 232, .ref ah, .str (strOf e) et], []⟩) ((L0 T ah).seven w.params [] [] [([35], b1), ([99], b2)] e1 e2 e3 ++ tups []) (QF (fTkk (L0 T ah) w.params [] [] [([35], b1), ([99], b2)] e3)) := by
  have he : e.length ≤ 2 := by rcases he3 with rfl | rfl | rfl <;> decide
  have hn : ([[35], [99]] : List (List Nat)).length ≤ 12 := Nat.le_of_ble_eq_true rfl
  have S : Sent [sent [35], sent [99]] := sent_of [[35], [99]] hw hs hn
  exact Ctr.runU (E := E2 w) den_eq rfl 100000 (fun N K p => .ent 58 (hx [0x2800000280000028800000071000388001c4001024000, 0x2858000000060a9]) (pcC (N + 226 + 3)) (pcAlt (N + 226 + 3)) (pcSub _) <|
    .dat 280 (hx [0x60c183060b182c60b1800285003060c000058000000000204080, 0x23c78c040878e1c38700000470e1c3870e0a346800a0000c, 0x60a00000001400000140000014408221c400263c78f1e3c78f, 0x2952a54a95001400000140050000005285001328009940000000, 0x258b140a102852e5cc183060c000a000000a00294284ca00, 0x10344081b3674c192c64c993264c800004c9918081192da]) [15, 25] (up (fIadd (N + 226 + 8) [] [] (listO [] 0))) ((0, 0), 0) fun d1 =>
    .dat 36 (hx [0x7201c8100e40408100038800e]) [29] (up (fJ (joinL e [[35], [99]]))) ((0, default, 0), 0) fun d2 =>
    .dat 4 [0] [] (up (fStr (joinL [13, 10] [sent [35], sent [99]]))) ((0, 0), 0) fun d3 =>
    .dat 37 (hx [0x4f9e3e7cf9f3e200000000388012]) [] (up (fIt (joinL [13, 10] [sent [35], sent [99]]))) ((0, 0, 0), 0) fun d4 =>
    .dat 2 [32] [30, 31] (up (fEx (joinL [13, 10] [sent [35], sent [99]]))) ((exL (joinL [13, 10] [sent [35], sent [99]]), 0, default, 0), 0) fun d5 =>
    .dat 572 (hx [0x214400000, 0x240090000009128048940244a00000000000048012000000000, 0x11a246000240000024009002400000244a951a246000240000024, 0x24009002400000244a8d1230001200000120048012000001225, 0x12000001200480120000012210000001008108046891800090000, 0x10a3448c000, 0x15005401500000152b00a958054ac000000000000a802a0000000, 0x15a950a400054000005401500540000054ad5a950a40005400000, 0x5401500540000054ad4a8520002a000002a00a802a000002a, 0x16ad5ab400002b56ad5ab56902040400000000914a54290001500, 0x2cd98c04099b200000b264c43b10e1d88710c172e5cb972e, 0xa5500000002a000002a000002a14d1a8064cd93366cd9b367d]) [41, 40, 35, 34, 39, 33, 30, 43] (up (fTk (gR (d3.2 + 226) (d5.2 + 226) d5.1.2.2.2) w.params (strOf (sent [35])) 1 (after [sent [99]]))) ((0, 0, 0, exL (after [sent [99]]), 0), 0) fun d6 =>
    .dat 48 (hx [0x14aa0000000540000054000005429a3500c99b266cd9b368cda34, 0x1]) [41, 40, 35, 34, 39, 33, 30, 43] (up (fTk (gR (d3.2 + 226) (d5.2 + 226) d5.1.2.2.2) w.params (strOf (sent [99])) 2 (after []))) ((0, 0, 0, exL (after []), 0), 0) fun d7 =>
    .dat 48 (hx [0x14aa0000000540000054000005429a3500c99b266cd9b368cda34, 0x1]) [41, 40, 35, 34, 39, 33, 30, 43] (up (fTk (gR (d3.2 + 226) (d5.2 + 226) d5.1.2.2.2) w.params ⟨#[]⟩ 2 [])) ((0, 0, 0, exL [], 0), 0) fun d8 =>
    .pur 58 (hx [0x10a402a540000054000005429a356add93364cd9b366d19b469d]) (.int 1) <|
    .dat 264 (hx [0x8101c40074e9d07201c8100e40408000038800e1a3868d1c34, 0x176f1dbc78f1e3d7af1ebb78ede3c78f1ebc760000176ec400, 0x20c1830a0c000000c080200007af1ebf76f1dbc78f1e3d7af1e80, 0x224083020c18306142830800003020c083060c1850a0c28106041, 0x72000017319cc50f143878a1e141851]) [56, 69] (up (fE2 )) ((default, default, 0), 0) fun de =>
    .fin 2 []) fun N K p d1 d2 d3 d4 d5 d6 d7 d8 de => .mk' [(.builtin "str.count" ⟨[.str (strOf (joinL [13, 10] [sent [35], sent [99]])) d3.1.1, .str ⟨#[13, 10]⟩ (d8.1.2.2.2.2 + 1)], []⟩, .int 1)]
    [(none, .builtin "list.__iadd__" ⟨[.ref (N + 226 + 8), .ref (N + 226 + 18)], []⟩, [(N + 226 + 8, listO [] 0), (N + 226 + 18, listO [] 0)]),
     (none, .builtin "str.join" ⟨[.str (strOf e) et, .ref (d1.2 + 226 + 0)], []⟩, [(d1.2 + 226 + 0, (listO (wsV [([35], b1), ([99], b2)]) 0))]),
     (some (σ.inT (N + 226) ⟨98, 11, 98, 44⟩).tl, .call (.ref 55) ⟨[.str (strOf (joinL e [[35], [99]])) d2.1.1], []⟩, []),
     (none, .builtin "str.__iter__" ⟨[.str (strOf (joinL [13, 10] [sent [35], sent [99]])) d3.1.1], []⟩, []),
     (none, .builtin "list.extend.loop" ⟨[.ref (d3.2 + 226 + 0), .ref d4.1.2.1, .none], []⟩, [(d3.2 + 226 + 0, listO [] 0), (d4.1.2.1, strItO (strOf (joinL [13, 10] [sent [35], sent [99]])) d4.1.1 0)]),
     (some (σ.inC (N + 226) (d5.2 + 226 + 18) (d5.2 + 226 + 19) (d5.2 + 226 + 20) ⟨105, 12, 105, 30⟩ ⟨105, 43, 105, 55⟩).list, .call (.ref 167) ⟨[.ref (d5.2 + 226 + 9)], []⟩, (gR (d3.2 + 226) (d5.2 + 226) d5.1.2.2.2).eight w.params 1 (d5.1.2.2.2 + 17) (d5.1.1.1.map chV) d5.1.2.1 0),
     (some (σ.inC (N + 226) (d5.2 + 226 + 18) (d5.2 + 226 + 19) (d5.2 + 226 + 20) ⟨105, 12, 105, 30⟩ ⟨105, 43, 105, 55⟩).list, .call (.ref 167) ⟨[.ref (d5.2 + 226 + 9)], []⟩, (gR (d3.2 + 226) (d5.2 + 226) d5.1.2.2.2).eight w.params 1 d6.1.1 (d6.1.2.2.2.1.1.map chV) d6.1.2.2.1 0),
     (some (σ.inC (N + 226) (d5.2 + 226 + 18) (d5.2 + 226 + 19) (d5.2 + 226 + 20) ⟨105, 12, 105, 30⟩ ⟨105, 43, 105, 55⟩).list, .call (.ref 167) ⟨[.ref (d5.2 + 226 + 9)], []⟩, (gR (d3.2 + 226) (d5.2 + 226) d5.1.2.2.2).eight w.params 2 d7.1.1 (d7.1.2.2.2.1.1.map chV) d7.1.2.2.1 0),
     (none, .builtin "list.__eq__" ⟨[.ref (d8.2 + 226 + 3), .ref (d8.2 + 226 + 16)], []⟩, [(d8.2 + 226 + 3, listO [.str (strOf (sent [35])) d6.1.2.1, .str (strOf (sent [99])) d7.1.2.1, .str ⟨#[]⟩ d8.1.2.1, .int 2 d8.1.1, .int 1 (d8.1.2.2.2.2 + 2)] 0), (d8.2 + 226 + 16, listO [.str (strOf [35]) b1, .str (strOf [99]) b2, .str ⟨#[]⟩ (d8.1.2.2.2.2 + 7), .int 2 (d8.1.2.2.2.2 + 5), .int 1 (d8.1.2.2.2.2 + 11)] 0)])]
    (⟨[], rfl⟩, ⟨[], rfl⟩, e1, e2, de.2 + 226, de.1.2.2) (de.2 + 226, 0) (de.1.2.2, 0) [0, 1, 2, 3, 4, 5, 6] (by kernel_rfl)
    (oneG (gives_count [sent [35], sent [99]] d3.1.1 _ (fun x hx => (S.ok x hx).plain)))
    ⟨fun b => up_iadd w b _ _ _ _ _ _ (by simp) (by simp),
      fun b => up_join w b e et _ [([35], b1), ([99], b2)] _ he (fun x hx => hs x hx) (by simp),
      up_quoted w (σ.inT (N + 226) ⟨98, 11, 98, 44⟩) e he3 [[35], [99]] hw hs hn d2.1.1,
      fun b => up_iter w b (joinL [13, 10] [sent [35], sent [99]]) d3.1.1 (words_ascii [sent [35], sent [99]] S.ok),
      fun b => up_extend w b (joinL [13, 10] [sent [35], sent [99]]) d4.1.1 _ _ (words_len [sent [35], sent [99]] S.sm S.le),
      up_first w (σ.inC (N + 226) (d5.2 + 226 + 18) (d5.2 + 226 + 19) (d5.2 + 226 + 20) ⟨105, 12, 105, 30⟩ ⟨105, 43, 105, 55⟩) (gR (d3.2 + 226) (d5.2 + 226) d5.1.2.2.2) 1 (d5.1.2.2.2 + 17) d5.1.2.1 (sent [35]) [sent [99]] d5.1.1 S,
      up_next w (σ.inC (N + 226) (d5.2 + 226 + 18) (d5.2 + 226 + 19) (d5.2 + 226 + 20) ⟨105, 12, 105, 30⟩ ⟨105, 43, 105, 55⟩) (gR (d3.2 + 226) (d5.2 + 226) d5.1.2.2.2) 1 d6.1.1 d6.1.2.2.1 (sent [99]) [] d6.1.2.2.2.1 S.tail,
      up_none w (σ.inC (N + 226) (d5.2 + 226 + 18) (d5.2 + 226 + 19) (d5.2 + 226 + 20) ⟨105, 12, 105, 30⟩ ⟨105, 43, 105, 55⟩) (gR (d3.2 + 226) (d5.2 + 226) d5.1.2.2.2) 2 d7.1.1 d7.1.2.2.1 d7.1.2.2.2.1,
      fun b => up_eq w b _ _ _ _ _ _ (eqlC (EqG.str' rfl) (eqlC (EqG.str' rfl) (eqlC (EqG.str' rfl) (eqlC (EqG.int' rfl) (eqlC (EqG.int' rfl) eqlN))))), trivial⟩ rfl rfl rfl rfl
end Mine
end
noncomputable section
namespace Mine
open PySem PySem.W PySem.W.X

theorem tick_0_3 (w : WK) (σ : Sv) (T : LP) (ah : Addr) (e : List Nat) (et : Tok) (e1 e2 e3 : Nat) (b1 b2 b3 : Tok)
    (he3 : e = [13] ∨ e = [10] ∨ e = [13, 10]) (hw : ∀ x ∈ ([[98, 34], [35], [99]] : List (List Nat)), okWord x) (hs : small [[98, 34], [35], [99]]) :
    Ctr (E2 w) σ.bt (.call (.ref 193) ⟨[.ref 228, .ref 232, .ref ah, .str (strOf e) et], []⟩) ((L0 T ah).seven w.params [] [] [([98, 34], b1), ([35], b2), ([99], b3)] e1 e2 e3 ++ tups []) (QF (fTkk (L0 T ah) w.params [] [] [([98, 34], b1), ([35], b2), ([99], b3)] e3)) := by
  have he : e.length ≤ 2 := by rcases he3 with rfl | rfl | rfl <;> decide
  have hn : ([[98, 34], [35], [99]] : List (List Nat)).length ≤ 12 := Nat.le_of_ble_eq_true rfl
  have S : Sent [sent [98, 34], sent [35], sent [99]] := sent_of [[98, 34], [35], [99]] hw hs hn
  exact Ctr.runU (E := E2 w) den_eq rfl 100000 (fun N K p => .ent 58 (hx [0x2800000280000028800000071000388001c4001024000, 0x2858000000060a9]) (pcC (N + 226 + 3)) (pcAlt (N + 226 + 3)) (pcSub _) <|
    .dat 280 (hx [0x60c183060b182c60b1800285003060c000058000000000204080, 0x23c78c040878e1c38700000470e1c3870e0a346800a0000c, 0x60a00000001400000140000014408221c400263c78f1e3c78f, 0x2952a54a95001400000140050000005285001328009940000000, 0x258b140a102852e5cc183060c000a000000a00294284ca00, 0x10344081b3674c192c64c993264c800004c9918081192da]) [15, 25] (up (fIadd (N + 226 + 8) [] [] (listO [] 0))) ((0, 0), 0) fun d1 =>
    .dat 36 (hx [0x7201c8100e40408100038800e]) [29] (up (fJ (joinL e [[98, 34], [35], [99]]))) ((0, default, 0), 0) fun d2 =>
    .dat 4 [0] [] (up (fStr (joinL [13, 10] [sent [98, 34], sent [35], sent [99]]))) ((0, 0), 0) fun d3 =>
    .dat 37 (hx [0x4f9e3e7cf9f3e200000000388012]) [] (up (fIt (joinL [13, 10] [sent [98, 34], sent [35], sent [99]]))) ((0, 0, 0), 0) fun d4 =>
    .dat 2 [32] [30, 31] (up (fEx (joinL [13, 10] [sent [98, 34], sent [35], sent [99]]))) ((exL (joinL [13, 10] [sent [98, 34], sent [35], sent [99]]), 0, default, 0), 0) fun d5 =>
    .dat 572 (hx [0x214400000, 0x240090000009128048940244a00000000000048012000000000, 0x11a246000240000024009002400000244a951a246000240000024, 0x24009002400000244a8d1230001200000120048012000001225, 0x12000001200480120000012210000001008108046891800090000, 0x10a3448c000, 0x15005401500000152b00a958054ac000000000000a802a0000000, 0x15a950a400054000005401500540000054ad5a950a40005400000, 0x5401500540000054ad4a8520002a000002a00a802a000002a, 0x16ad5ab400002b56ad5ab56902040400000000914a54290001500, 0x2cd98c04099b200000b264c43b10e1d88710c172e5cb972e, 0xa5500000002a000002a000002a14d1a8064cd93366cd9b367d]) [41, 40, 35, 34, 39, 33, 30, 43] (up (fTk (gR (d3.2 + 226) (d5.2 + 226) d5.1.2.2.2) w.params (strOf (sent [98, 34])) 1 (after [sent [35], sent [99]]))) ((0, 0, 0, exL (after [sent [35], sent [99]]), 0), 0) fun d6 =>
    .dat 48 (hx [0x14aa0000000540000054000005429a3500c99b266cd9b368cda34, 0x1]) [41, 40, 35, 34, 39, 33, 30, 43] (up (fTk (gR (d3.2 + 226) (d5.2 + 226) d5.1.2.2.2) w.params (strOf (sent [35])) 2 (after [sent [99]]))) ((0, 0, 0, exL (after [sent [99]]), 0), 0) fun d7 =>
    .dat 48 (hx [0x14aa0000000540000054000005429a3500c99b266cd9b368cda34, 0x1]) [41, 40, 35, 34, 39, 33, 30, 43] (up (fTk (gR (d3.2 + 226) (d5.2 + 226) d5.1.2.2.2) w.params (strOf (sent [99])) 3 (after []))) ((0, 0, 0, exL (after []), 0), 0) fun d8 =>
    .dat 48 (hx [0x14aa0000000540000054000005429a3500c99b266cd9b368cda34, 0x1]) [41, 40, 35, 34, 39, 33, 30, 43] (up (fTk (gR (d3.2 + 226) (d5.2 + 226) d5.1.2.2.2) w.params ⟨#[]⟩ 3 [])) ((0, 0, 0, exL [], 0), 0) fun d9 =>
    .pur 58 (hx [0x10a402a540000054000005429a356add93364cd9b366d19b469d]) (.int 2) <|
    .dat 264 (hx [0x8101c40074e9d07201c8100e40408000038800e1a3868d1c34, 0x176f1dbc78f1e3d7af1ebb78ede3c78f1ebc760000176ec400, 0x20c1830a0c000000c080200007af1ebf76f1dbc78f1e3d7af1e80, 0x224083020c18306142830800003020c083060c1850a0c28106041, 0x72000017319cc50f143878a1e141851]) [56, 69] (up (fE2 )) ((default, default, 0), 0) fun de =>
    .fin 2 []) fun N K p d1 d2 d3 d4 d5 d6 d7 d8 d9 de => .mk' [(.builtin "str.count" ⟨[.str (strOf (joinL [13, 10] [sent [98, 34], sent [35], sent [99]])) d3.1.1, .str ⟨#[13, 10]⟩ (d9.1.2.2.2.2 + 1)], []⟩, .int 2)]
    [(none, .builtin "list.__iadd__" ⟨[.ref (N + 226 + 8), .ref (N + 226 + 18)], []⟩, [(N + 226 + 8, listO [] 0), (N + 226 + 18, listO [] 0)]),
     (none, .builtin "str.join" ⟨[.str (strOf e) et, .ref (d1.2 + 226 + 0)], []⟩, [(d1.2 + 226 + 0, (listO (wsV [([98, 34], b1), ([35], b2), ([99], b3)]) 0))]),
     (some (σ.inT (N + 226) ⟨98, 11, 98, 44⟩).tl, .call (.ref 55) ⟨[.str (strOf (joinL e [[98, 34], [35], [99]])) d2.1.1], []⟩, []),
     (none, .builtin "str.__iter__" ⟨[.str (strOf (joinL [13, 10] [sent [98, 34], sent [35], sent [99]])) d3.1.1], []⟩, []),
     (none, .builtin "list.extend.loop" ⟨[.ref (d3.2 + 226 + 0), .ref d4.1.2.1, .none], []⟩, [(d3.2 + 226 + 0, listO [] 0), (d4.1.2.1, strItO (strOf (joinL [13, 10] [sent [98, 34], sent [35], sent [99]])) d4.1.1 0)]),
     (some (σ.inC (N + 226) (d5.2 + 226 + 18) (d5.2 + 226 + 19) (d5.2 + 226 + 20) ⟨105, 12, 105, 30⟩ ⟨105, 43, 105, 55⟩).list, .call (.ref 167) ⟨[.ref (d5.2 + 226 + 9)], []⟩, (gR (d3.2 + 226) (d5.2 + 226) d5.1.2.2.2).eight w.params 1 (d5.1.2.2.2 + 17) (d5.1.1.1.map chV) d5.1.2.1 0),
     (some (σ.inC (N + 226) (d5.2 + 226 + 18) (d5.2 + 226 + 19) (d5.2 + 226 + 20) ⟨105, 12, 105, 30⟩ ⟨105, 43, 105, 55⟩).list, .call (.ref 167) ⟨[.ref (d5.2 + 226 + 9)], []⟩, (gR (d3.2 + 226) (d5.2 + 226) d5.1.2.2.2).eight w.params 1 d6.1.1 (d6.1.2.2.2.1.1.map chV) d6.1.2.2.1 0),
     (some (σ.inC (N + 226) (d5.2 + 226 + 18) (d5.2 + 226 + 19) (d5.2 + 226 + 20) ⟨105, 12, 105, 30⟩ ⟨105, 43, 105, 55⟩).list, .call (.ref 167) ⟨[.ref (d5.2 + 226 + 9)], []⟩, (gR (d3.2 + 226) (d5.2 + 226) d5.1.2.2.2).eight w.params 2 d7.1.1 (d7.1.2.2.2.1.1.map chV) d7.1.2.2.1 0),
     (some (σ.inC (N + 226) (d5.2 + 226 + 18) (d5.2 + 226 + 19) (d5.2 + 226 + 20) ⟨105, 12, 105, 30⟩ ⟨105, 43, 105, 55⟩).list, .call (.ref 167) ⟨[.ref (d5.2 + 226 + 9)], []⟩, (gR (d3.2 + 226) (d5.2 + 226) d5.1.2.2.2).eight w.params 3 d8.1.1 (d8.1.2.2.2.1.1.map chV) d8.1.2.2.1 0),
     (none, .builtin "list.__eq__" ⟨[.ref (d9.2 + 226 + 3), .ref (d9.2 + 226 + 16)], []⟩, [(d9.2 + 226 + 3, listO [.str (strOf (sent [98, 34])) d6.1.2.1, .str (strOf (sent [35])) d7.1.2.1, .str (strOf (sent [99])) d8.1.2.1, .str ⟨#[]⟩ d9.1.2.1, .int 3 d9.1.1, .int 2 (d9.1.2.2.2.2 + 2)] 0), (d9.2 + 226 + 16, listO [.str (strOf [98, 34]) b1, .str (strOf [35]) b2, .str (strOf [99]) b3, .str ⟨#[]⟩ (d9.1.2.2.2.2 + 7), .int 3 (d9.1.2.2.2.2 + 5), .int 2 (d9.1.2.2.2.2 + 11)] 0)])]
    (⟨[], rfl⟩, ⟨[], rfl⟩, e1, e2, de.2 + 226, de.1.2.2) (de.2 + 226, 0) (de.1.2.2, 0) [0, 1, 2, 3, 4, 5, 6] (by kernel_rfl)
    (oneG (gives_count [sent [98, 34], sent [35], sent [99]] d3.1.1 _ (fun x hx => (S.ok x hx).plain)))
    ⟨fun b => up_iadd w b _ _ _ _ _ _ (by simp) (by simp),
      fun b => up_join w b e et _ [([98, 34], b1), ([35], b2), ([99], b3)] _ he (fun x hx => hs x hx) (by simp),
      up_quoted w (σ.inT (N + 226) ⟨98, 11, 98, 44⟩) e he3 [[98, 34], [35], [99]] hw hs hn d2.1.1,
      fun b => up_iter w b (joinL [13, 10] [sent [98, 34], sent [35], sent [99]]) d3.1.1 (words_ascii [sent [98, 34], sent [35], sent [99]] S.ok),
      fun b => up_extend w b (joinL [13, 10] [sent [98, 34], sent [35], sent [99]]) d4.1.1 _ _ (words_len [sent [98, 34], sent [35], sent [99]] S.sm S.le),
      up_first w (σ.inC (N + 226) (d5.2 + 226 + 18) (d5.2 + 226 + 19) (d5.2 + 226 + 20) ⟨105, 12, 105, 30⟩ ⟨105, 43, 105, 55⟩) (gR (d3.2 + 226) (d5.2 + 226) d5.1.2.2.2) 1 (d5.1.2.2.2 + 17) d5.1.2.1 (sent [98, 34]) [sent [35], sent [99]] d5.1.1 S,
      up_next w (σ.inC (N + 226) (d5.2 + 226 + 18) (d5.2 + 226 + 19) (d5.2 + 226 + 20) ⟨105, 12, 105, 30⟩ ⟨105, 43, 105, 55⟩) (gR (d3.2 + 226) (d5.2 + 226) d5.1.2.2.2) 1 d6.1.1 d6.1.2.2.1 (sent [35]) [sent [99]] d6.1.2.2.2.1 S.tail,
      up_next w (σ.inC (N + 226) (d5.2 + 226 + 18) (d5.2 + 226 + 19) (d5.2 + 226 + 20) ⟨105, 12, 105, 30⟩ ⟨105, 43, 105, 55⟩) (gR (d3.2 + 226) (d5.2 + 226) d5.1.2.2.2) 2 d7.1.1 d7.1.2.2.1 (sent [99]) [] d7.1.2.2.2.1 S.tail.tail,
      up_none w (σ.inC (N + 226) (d5.2 + 226 + 18) (d5.2 + 226 + 19) (d5.2 + 226 + 20) ⟨105, 12, 105, 30⟩ ⟨105, 43, 105, 55⟩) (gR (d3.2 + 226) (d5.2 + 226) d5.1.2.2.2) 3 d8.1.1 d8.1.2.2.1 d8.1.2.2.2.1,
      fun b => up_eq w b _ _ _ _ _ _ (eqlC (EqG.str' rfl) (eqlC (EqG.str' rfl) (eqlC (EqG.str' rfl) (eqlC (EqG.str' rfl) (eqlC (EqG.int' rfl) (eqlC (EqG.int' rfl) eqlN)))))), trivial⟩ rfl rfl rfl rfl
end Mine
end
noncomputable section
namespace Mine
open PySem PySem.W PySem.W.X

theorem tick_1_0 (w : WK) (σ : Sv) (T : LP) (ah : Addr) (e : List Nat) (et : Tok) (e1 e2 e3 : Nat) (w1 v1 : List Nat) (q1' z1 u1 : Tok) (a1 : Addr)
    (he3 : e = [13] ∨ e = [10] ∨ e = [13, 10]) (hw : ∀ x ∈ ([w1, v1] : List (List Nat)), okWord x) (hs : small [w1, v1]) :
    Ctr (E2 w) σ.bt (.call (.ref 193) ⟨[.ref 228, .ref 232, .ref ah, .str (strOf e) et], []⟩) ((L0 T ah).seven w.params [(w1, q1')] [⟨a1, u1, (v1, z1)⟩] [] e1 e2 e3 ++ tups [⟨a1, u1, (v1, z1)⟩]) (QF (fTkk (L0 T ah) w.params [(w1, q1')] [⟨a1, u1, (v1, z1)⟩] [] e3)) := by
  have he : e.length ≤ 2 := by rcases he3 with rfl | rfl | rfl <;> decide
  have hn : ([w1, v1] : List (List Nat)).length ≤ 12 := Nat.le_of_ble_eq_true rfl
  have S : Sent [sent w1, sent v1] := sent_of [w1, v1] hw hs hn
  exact Ctr.runU (E := E2 w) den_eq rfl 100000 (fun N K p => .ent 58 (hx [0x280000028000002890000008120040900204801228000, 0x2c60000000060a9]) (pcC (N + 226 + 3)) (pcAlt (N + 226 + 3)) (pcSub _) <|
    .dat 510 (hx [0x68d1a3468c1a3068c1a00285003468d000060000000000204080, 0x24080c040880f1e3c780000478f1e3c78f0a387000a0000d, 0x1820000000040000004000000428892003c80f20408102040810, 0x8984081020406001020000002000000226009130000000, 0x4090054810204081120448840610204081020406001020000002, 0xa960054b0000000000c140000000280000028000002891244912, 0x50014b162a580052e5cb972e0028000002800a000000a58b00, 0x1366c602046cc000004c182c142050a64c9a3468d1a0014000, 0xf1e3c78e9e1078f1e3c784000004408106cd1b306cd9b366cd80, 0x111a3660d9b366ce1b3870e9c3a00e1d0080e9e1078f1e3c74f08, 0x11384489c3a74e1d3aa]) [16, 27] (up (fIadd (N + 226 + 8) [rowV (w1, q1')] [rowV (v1, z1)] (listO [rowV (v1, z1)] 1))) ((0, 0), 0) fun d1 =>
    .dat 36 (hx [0x7221c8910e44489120040900e]) [34] (up (fJ (joinL e [w1, v1]))) ((0, default, 0), 0) fun d2 =>
    .dat 4 [0] [] (up (fStr (joinL [13, 10] [sent w1, sent v1]))) ((0, 0), 0) fun d3 =>
    .dat 37 (hx [0x5223489122448240000000409012]) [] (up (fIt (joinL [13, 10] [sent w1, sent v1]))) ((0, 0, 0), 0) fun d4 =>
    .dat 2 [37] [35, 36] (up (fEx (joinL [13, 10] [sent w1, sent v1]))) ((exL (joinL [13, 10] [sent w1, sent v1]), 0, default, 0), 0) fun d5 =>
    .dat 579 (hx [0x264e00000, 0x2900a400000a550052a80295400000000000052014800000000, 0x14275000029000002900a4029000002954a942750000290000029, 0x2900a4029000002954a13a800014800001480520148000014aa, 0x14800001480520148000014a600000010095300509d40000a4000, 0x13284ea0000, 0x17805e0178000017b000bd8005ec0000000000000bc02f0000000, 0x182e5ab80005e000005e017805e000005ec182e5ab80005e00000, 0x5e017805e000005ec172d5c0002f000002f00bc02f000002f, 0x193264c800002c993264c99112244480000000a16b96ae0001780, 0x20000002140000122448890000488120193364cd9b366cd9b3, 0x5cbc00000017800001780000178b0608000000010001a]) [46, 45, 40, 39, 44, 38, 35, 48] (up (fTk (gR (d3.2 + 226) (d5.2 + 226) d5.1.2.2.2) w.params (strOf (sent w1)) 1 (after [sent v1]))) ((0, 0, 0, exL (after [sent v1]), 0), 0) fun d6 =>
    .dat 155 (hx [0x2046810204080c0020400000040000004d003368019b40000000, 0x280000028900000912244480002440900c99b266cd9b366cc203, 0x2e5e0000000bc00000bc00000bc5860a00000001400001b]) [46, 45, 40, 39, 44, 38, 35, 48] (up (fTk (gR (d3.2 + 226) (d5.2 + 226) d5.1.2.2.2) w.params (strOf (sent v1)) 2 (after []))) ((0, 0, 0, exL (after []), 0), 0) fun d7 =>
    .dat 149 (hx [0x1ab50c14000001400000140000015a8068d40346a01a350000000, 0x1d8c0409dba00000ba74e43b90e1dc8712e19b366cd9850814005, 0x17800001780000178b78f403a76e9dbb76eddbb00000bb, 0x2e5e3]) [46, 45, 40, 39, 44, 38, 35, 48] (up (fTk (gR (d3.2 + 226) (d5.2 + 226) d5.1.2.2.2) w.params ⟨#[]⟩ 2 [])) ((0, 0, 0, exL [], 0), 0) fun d8 =>
    .pur 58 (hx [0x12b802f5e000005e000005e2de3d7afdd3b74eddbb76f1dbc79d]) (.int 1) <|
    .dat 264 (hx [0x91220480850a107221c8910e4448900004090101e4078f203c, 0x187121c489122458b122c3890e24489122c48600001870c480, 0x24c9932a4c800000c890240008b122c787121c489122458b12280, 0x264893224c9932654a932800003224c893264c9952a4ca9126449, 0x8200001833a0cd0f343879a1e549951]) [64, 77] (up (fE2 )) ((default, default, 0), 0) fun de =>
    .fin 2 []) fun N K p d1 d2 d3 d4 d5 d6 d7 d8 de => .mk' [(.builtin "str.count" ⟨[.str (strOf (joinL [13, 10] [sent w1, sent v1])) d3.1.1, .str ⟨#[13, 10]⟩ (d8.1.2.2.2.2 + 1)], []⟩, .int 1)]
    [(none, .builtin "list.__iadd__" ⟨[.ref (N + 226 + 8), .ref (N + 226 + 19)], []⟩, [(N + 226 + 8, listO [rowV (w1, q1')] 1), (N + 226 + 19, listO [rowV (v1, z1)] 1)]),
     (none, .builtin "str.join" ⟨[.str (strOf e) et, .ref (d1.2 + 226 + 0)], []⟩, [(d1.2 + 226 + 0, (listO (wsV [(w1, q1'), (v1, z1)]) 0))]),
     (some (σ.inT (N + 226) ⟨98, 11, 98, 44⟩).tl, .call (.ref 55) ⟨[.str (strOf (joinL e [w1, v1])) d2.1.1], []⟩, []),
     (none, .builtin "str.__iter__" ⟨[.str (strOf (joinL [13, 10] [sent w1, sent v1])) d3.1.1], []⟩, []),
     (none, .builtin "list.extend.loop" ⟨[.ref (d3.2 + 226 + 0), .ref d4.1.2.1, .none], []⟩, [(d3.2 + 226 + 0, listO [] 0), (d4.1.2.1, strItO (strOf (joinL [13, 10] [sent w1, sent v1])) d4.1.1 0)]),
     (some (σ.inF (N + 226) (d5.2 + 226 + 13) ⟨102, 28, 102, 46⟩ ⟨100, 13, 100, 29⟩).list, .call (.ref 167) ⟨[.ref (d5.2 + 226 + 9)], []⟩, (gR (d3.2 + 226) (d5.2 + 226) d5.1.2.2.2).eight w.params 1 (d5.1.2.2.2 + 17) (d5.1.1.1.map chV) d5.1.2.1 0),
     (some (σ.inF (N + 226) (d5.2 + 226 + 13) ⟨104, 26, 104, 44⟩ ⟨100, 13, 100, 29⟩).list, .call (.ref 167) ⟨[.ref (d5.2 + 226 + 9)], []⟩, (gR (d3.2 + 226) (d5.2 + 226) d5.1.2.2.2).eight w.params 1 d6.1.1 (d6.1.2.2.2.1.1.map chV) d6.1.2.2.1 0),
     (some (σ.inC (N + 226) (d7.2 + 226 + 6) (d7.2 + 226 + 7) (d7.2 + 226 + 8) ⟨105, 12, 105, 30⟩ ⟨105, 43, 105, 55⟩).list, .call (.ref 167) ⟨[.ref (d5.2 + 226 + 9)], []⟩, (gR (d3.2 + 226) (d5.2 + 226) d5.1.2.2.2).eight w.params 2 d7.1.1 (d7.1.2.2.2.1.1.map chV) d7.1.2.2.1 0),
     (none, .builtin "list.__eq__" ⟨[.ref (d8.2 + 226 + 3), .ref (d8.2 + 226 + 16)], []⟩, [(d8.2 + 226 + 3, listO [.str ⟨#[]⟩ d8.1.2.1, .int 2 d8.1.1, .int 1 (d8.1.2.2.2.2 + 2)] 0), (d8.2 + 226 + 16, listO [.str ⟨#[]⟩ (d8.1.2.2.2.2 + 7), .int 2 (d8.1.2.2.2.2 + 5), .int 1 (d8.1.2.2.2.2 + 11)] 0)])]
    (⟨[(sent w1, d6.1.2.1)], rfl⟩, ⟨[⟨d7.2 + 226 + 1, d6.1.2.2.2.2 + 9, (sent v1, d7.1.2.1)⟩], rfl⟩, (e1 + 2), (e2 + 2), de.2 + 226, de.1.2.2) (de.2 + 226, 0) (de.1.2.2, 0) [0, 1, 2, 3, 4, 5, 6, 7, 53] (by kernel_rfl)
    (oneG (gives_count [sent w1, sent v1] d3.1.1 _ (fun x hx => (S.ok x hx).plain)))
    ⟨fun b => up_iadd w b _ _ _ _ _ _ (by simp) (by simp),
      fun b => up_join w b e et _ [(w1, q1'), (v1, z1)] _ he (fun x hx => hs x hx) (by simp),
      up_quoted w (σ.inT (N + 226) ⟨98, 11, 98, 44⟩) e he3 [w1, v1] hw hs hn d2.1.1,
      fun b => up_iter w b (joinL [13, 10] [sent w1, sent v1]) d3.1.1 (words_ascii [sent w1, sent v1] S.ok),
      fun b => up_extend w b (joinL [13, 10] [sent w1, sent v1]) d4.1.1 _ _ (words_len [sent w1, sent v1] S.sm S.le),
      up_first w (σ.inF (N + 226) (d5.2 + 226 + 13) ⟨102, 28, 102, 46⟩ ⟨100, 13, 100, 29⟩) (gR (d3.2 + 226) (d5.2 + 226) d5.1.2.2.2) 1 (d5.1.2.2.2 + 17) d5.1.2.1 (sent w1) [sent v1] d5.1.1 S,
      up_next w (σ.inF (N + 226) (d5.2 + 226 + 13) ⟨104, 26, 104, 44⟩ ⟨100, 13, 100, 29⟩) (gR (d3.2 + 226) (d5.2 + 226) d5.1.2.2.2) 1 d6.1.1 d6.1.2.2.1 (sent v1) [] d6.1.2.2.2.1 S.tail,
      up_none w (σ.inC (N + 226) (d7.2 + 226 + 6) (d7.2 + 226 + 7) (d7.2 + 226 + 8) ⟨105, 12, 105, 30⟩ ⟨105, 43, 105, 55⟩) (gR (d3.2 + 226) (d5.2 + 226) d5.1.2.2.2) 2 d7.1.1 d7.1.2.2.1 d7.1.2.2.2.1,
      fun b => up_eq w b _ _ _ _ _ _ (eqlC (EqG.str' rfl) (eqlC (EqG.int' rfl) (eqlC (EqG.int' rfl) eqlN))), trivial⟩ rfl rfl rfl rfl
end Mine
end
noncomputable section
namespace Mine
open PySem PySem.W PySem.W.X

theorem tick_1_1 (w : WK) (σ : Sv) (T : LP) (ah : Addr) (e : List Nat) (et : Tok) (e1 e2 e3 : Nat) (w1 v1 : List Nat) (q1' z1 u1 : Tok) (a1 : Addr) (b1 : Tok)
    (he3 : e = [13] ∨ e = [10] ∨ e = [13, 10]) (hw : ∀ x ∈ ([w1, v1, [99]] : List (List Nat)), okWord x) (hs : small [w1, v1, [99]]) :
    Ctr (E2 w) σ.bt (.call (.ref 193) ⟨[.ref 228, .ref 232, .ref ah, .str (strOf e) et], []⟩) ((L0 T ah).seven w.params [(w1, q1')] [⟨a1, u1, (v1, z1)⟩] [([99], b1)] e1 e2 e3 ++ tups [⟨a1, u1, (v1, z1)⟩]) (QF (fTkk (L0 T ah) w.params [(w1, q1')] [⟨a1, u1, (v1, z1)⟩] [([99], b1)] e3)) := by
  have he : e.length ≤ 2 := by rcases he3 with rfl | rfl | rfl <;> decide
  have hn : ([w1, v1, [99]] : List (List Nat)).length ≤ 12 := Nat.le_of_ble_eq_true rfl
  have S : Sent [sent w1, sent v1, sent [99]] := sent_of [w1, v1, [99]] hw hs hn
  exact Ctr.runU (E := E2 w) den_eq rfl 100000 (fun N K p => .ent 58 (hx [0x280000028000002890000008120040900204801228000, 0x2c60000000060a9]) (pcC (N + 226 + 3)) (pcAlt (N + 226 + 3)) (pcSub _) <|
    .dat 510 (hx [0x68d1a3468c1a3068c1a00285003468d000060000000000204080, 0x24080c040880f1e3c780000478f1e3c78f0a387000a0000d, 0x1820000000040000004000000428892003c80f20408102040810, 0x8984081020406001020000002000000226009130000000, 0x4090054810204081120448840610204081020406001020000002, 0xa960054b0000000000c140000000280000028000002891244912, 0x50014b162a580052e5cb972e0028000002800a000000a58b00, 0x1366c602046cc000004c182c142050a64c9a3468d1a0014000, 0xf1e3c78e9e1078f1e3c784000004408106cd1b306cd9b366cd80, 0x111a3660d9b366ce1b3870e9c3a00e1d0080e9e1078f1e3c74f08, 0x11384489c3a74e1d3aa]) [16, 27] (up (fIadd (N + 226 + 8) [rowV (w1, q1')] [rowV (v1, z1)] (listO [rowV (v1, z1)] 1))) ((0, 0), 0) fun d1 =>
    .dat 36 (hx [0x7221c8910e44489120040900e]) [34] (up (fJ (joinL e [w1, v1, [99]]))) ((0, default, 0), 0) fun d2 =>
    .dat 4 [0] [] (up (fStr (joinL [13, 10] [sent w1, sent v1, sent [99]]))) ((0, 0), 0) fun d3 =>
    .dat 37 (hx [0x5223489122448240000000409012]) [] (up (fIt (joinL [13, 10] [sent w1, sent v1, sent [99]]))) ((0, 0, 0), 0) fun d4 =>
    .dat 2 [37] [35, 36] (up (fEx (joinL [13, 10] [sent w1, sent v1, sent [99]]))) ((exL (joinL [13, 10] [sent w1, sent v1, sent [99]]), 0, default, 0), 0) fun d5 =>
    .dat 579 (hx [0x264e00000, 0x2900a400000a550052a80295400000000000052014800000000, 0x14275000029000002900a4029000002954a942750000290000029, 0x2900a4029000002954a13a800014800001480520148000014aa, 0x14800001480520148000014a600000010095300509d40000a4000, 0x13284ea0000, 0x17805e0178000017b000bd8005ec0000000000000bc02f0000000, 0x182e5ab80005e000005e017805e000005ec182e5ab80005e00000, 0x5e017805e000005ec172d5c0002f000002f00bc02f000002f, 0x193264c800002c993264c99112244480000000a16b96ae0001780, 0x20000002140000122448890000488120193364cd9b366cd9b3, 0x5cbc00000017800001780000178b0608000000010001a]) [46, 45, 40, 39, 44, 38, 35, 48] (up (fTk (gR (d3.2 + 226) (d5.2 + 226) d5.1.2.2.2) w.params (strOf (sent w1)) 1 (after [sent v1, sent [99]]))) ((0, 0, 0, exL (after [sent v1, sent [99]]), 0), 0) fun d6 =>
    .dat 155 (hx [0x2046810204080c0020400000040000004d003368019b40000000, 0x280000028900000912244480002440900c99b266cd9b366cc203, 0x2e5e0000000bc00000bc00000bc5860a00000001400001b]) [46, 45, 40, 39, 44, 38, 35, 48] (up (fTk (gR (d3.2 + 226) (d5.2 + 226) d5.1.2.2.2) w.params (strOf (sent v1)) 2 (after [sent [99]]))) ((0, 0, 0, exL (after [sent [99]]), 0), 0) fun d7 =>
    .dat 149 (hx [0x1ab50c14000001400000140000015a8068d40346a01a350000000, 0x1d8c0409dba00000ba74e43b90e1dc8712e19b366cd9850814005, 0x17800001780000178b78f403a76e9dbb76eddbb00000bb, 0x2e5e3]) [46, 45, 40, 39, 44, 38, 35, 48] (up (fTk (gR (d3.2 + 226) (d5.2 + 226) d5.1.2.2.2) w.params (strOf (sent [99])) 3 (after []))) ((0, 0, 0, exL (after []), 0), 0) fun d8 =>
    .dat 48 (hx [0x172f00000005e000005e000005e2de3d00e9dba76eddbb78ede3c, 0x1]) [46, 45, 40, 39, 44, 38, 35, 48] (up (fTk (gR (d3.2 + 226) (d5.2 + 226) d5.1.2.2.2) w.params ⟨#[]⟩ 3 [])) ((0, 0, 0, exL [], 0), 0) fun d9 =>
    .pur 58 (hx [0x12b802f5e000005e000005e2de3d7afdd3b74eddbb76f1dbc79d]) (.int 2) <|
    .dat 264 (hx [0x91220480850a107221c8910e4448900004090101e4078f203c, 0x187121c489122458b122c3890e24489122c48600001870c480, 0x24c9932a4c800000c890240008b122c787121c489122458b12280, 0x264893224c9932654a932800003224c893264c9952a4ca9126449, 0x8200001833a0cd0f343879a1e549951]) [64, 77] (up (fE2 )) ((default, default, 0), 0) fun de =>
    .fin 2 []) fun N K p d1 d2 d3 d4 d5 d6 d7 d8 d9 de => .mk' [(.builtin "str.count" ⟨[.str (strOf (joinL [13, 10] [sent w1, sent v1, sent [99]])) d3.1.1, .str ⟨#[13, 10]⟩ (d9.1.2.2.2.2 + 1)], []⟩, .int 2)]
    [(none, .builtin "list.__iadd__" ⟨[.ref (N + 226 + 8), .ref (N + 226 + 19)], []⟩, [(N + 226 + 8, listO [rowV (w1, q1')] 1), (N + 226 + 19, listO [rowV (v1, z1)] 1)]),
     (none, .builtin "str.join" ⟨[.str (strOf e) et, .ref (d1.2 + 226 + 0)], []⟩, [(d1.2 + 226 + 0, (listO (wsV [(w1, q1'), (v1, z1), ([99], b1)]) 0))]),
     (some (σ.inT (N + 226) ⟨98, 11, 98, 44⟩).tl, .call (.ref 55) ⟨[.str (strOf (joinL e [w1, v1, [99]])) d2.1.1], []⟩, []),
     (none, .builtin "str.__iter__" ⟨[.str (strOf (joinL [13, 10] [sent w1, sent v1, sent [99]])) d3.1.1], []⟩, []),
     (none, .builtin "list.extend.loop" ⟨[.ref (d3.2 + 226 + 0), .ref d4.1.2.1, .none], []⟩, [(d3.2 + 226 + 0, listO [] 0), (d4.1.2.1, strItO (strOf (joinL [13, 10] [sent w1, sent v1, sent [99]])) d4.1.1 0)]),
     (some (σ.inF (N + 226) (d5.2 + 226 + 13) ⟨102, 28, 102, 46⟩ ⟨100, 13, 100, 29⟩).list, .call (.ref 167) ⟨[.ref (d5.2 + 226 + 9)], []⟩, (gR (d3.2 + 226) (d5.2 + 226) d5.1.2.2.2).eight w.params 1 (d5.1.2.2.2 + 17) (d5.1.1.1.map chV) d5.1.2.1 0),
     (some (σ.inF (N + 226) (d5.2 + 226 + 13) ⟨104, 26, 104, 44⟩ ⟨100, 13, 100, 29⟩).list, .call (.ref 167) ⟨[.ref (d5.2 + 226 + 9)], []⟩, (gR (d3.2 + 226) (d5.2 + 226) d5.1.2.2.2).eight w.params 1 d6.1.1 (d6.1.2.2.2.1.1.map chV) d6.1.2.2.1 0),
     (some (σ.inC (N + 226) (d7.2 + 226 + 6) (d7.2 + 226 + 7) (d7.2 + 226 + 8) ⟨105, 12, 105, 30⟩ ⟨105, 43, 105, 55⟩).list, .call (.ref 167) ⟨[.ref (d5.2 + 226 + 9)], []⟩, (gR (d3.2 + 226) (d5.2 + 226) d5.1.2.2.2).eight w.params 2 d7.1.1 (d7.1.2.2.2.1.1.map chV) d7.1.2.2.1 0),
     (some (σ.inC (N + 226) (d7.2 + 226 + 6) (d7.2 + 226 + 7) (d7.2 + 226 + 8) ⟨105, 12, 105, 30⟩ ⟨105, 43, 105, 55⟩).list, .call (.ref 167) ⟨[.ref (d5.2 + 226 + 9)], []⟩, (gR (d3.2 + 226) (d5.2 + 226) d5.1.2.2.2).eight w.params 3 d8.1.1 (d8.1.2.2.2.1.1.map chV) d8.1.2.2.1 0),
     (none, .builtin "list.__eq__" ⟨[.ref (d9.2 + 226 + 3), .ref (d9.2 + 226 + 16)], []⟩, [(d9.2 + 226 + 3, listO [.str (strOf (sent [99])) d8.1.2.1, .str ⟨#[]⟩ d9.1.2.1, .int 3 d9.1.1, .int 2 (d9.1.2.2.2.2 + 2)] 0), (d9.2 + 226 + 16, listO [.str (strOf [99]) b1, .str ⟨#[]⟩ (d9.1.2.2.2.2 + 7), .int 3 (d9.1.2.2.2.2 + 5), .int 2 (d9.1.2.2.2.2 + 11)] 0)])]
    (⟨[(sent w1, d6.1.2.1)], rfl⟩, ⟨[⟨d7.2 + 226 + 1, d6.1.2.2.2.2 + 9, (sent v1, d7.1.2.1)⟩], rfl⟩, (e1 + 2), (e2 + 2), de.2 + 226, de.1.2.2) (de.2 + 226, 0) (de.1.2.2, 0) [0, 1, 2, 3, 4, 5, 6, 7, 53] (by kernel_rfl)
    (oneG (gives_count [sent w1, sent v1, sent [99]] d3.1.1 _ (fun x hx => (S.ok x hx).plain)))
    ⟨fun b => up_iadd w b _ _ _ _ _ _ (by simp) (by simp),
      fun b => up_join w b e et _ [(w1, q1'), (v1, z1), ([99], b1)] _ he (fun x hx => hs x hx) (by simp),
      up_quoted w (σ.inT (N + 226) ⟨98, 11, 98, 44⟩) e he3 [w1, v1, [99]] hw hs hn d2.1.1,
      fun b => up_iter w b (joinL [13, 10] [sent w1, sent v1, sent [99]]) d3.1.1 (words_ascii [sent w1, sent v1, sent [99]] S.ok),
      fun b => up_extend w b (joinL [13, 10] [sent w1, sent v1, sent [99]]) d4.1.1 _ _ (words_len [sent w1, sent v1, sent [99]] S.sm S.le),
      up_first w (σ.inF (N + 226) (d5.2 + 226 + 13) ⟨102, 28, 102, 46⟩ ⟨100, 13, 100, 29⟩) (gR (d3.2 + 226) (d5.2 + 226) d5.1.2.2.2) 1 (d5.1.2.2.2 + 17) d5.1.2.1 (sent w1) [sent v1, sent [99]] d5.1.1 S,
      up_next w (σ.inF (N + 226) (d5.2 + 226 + 13) ⟨104, 26, 104, 44⟩ ⟨100, 13, 100, 29⟩) (gR (d3.2 + 226) (d5.2 + 226) d5.1.2.2.2) 1 d6.1.1 d6.1.2.2.1 (sent v1) [sent [99]] d6.1.2.2.2.1 S.tail,
      up_next w (σ.inC (N + 226) (d7.2 + 226 + 6) (d7.2 + 226 + 7) (d7.2 + 226 + 8) ⟨105, 12, 105, 30⟩ ⟨105, 43, 105, 55⟩) (gR (d3.2 + 226) (d5.2 + 226) d5.1.2.2.2) 2 d7.1.1 d7.1.2.2.1 (sent [99]) [] d7.1.2.2.2.1 S.tail.tail,
      up_none w (σ.inC (N + 226) (d7.2 + 226 + 6) (d7.2 + 226 + 7) (d7.2 + 226 + 8) ⟨105, 12, 105, 30⟩ ⟨105, 43, 105, 55⟩) (gR (d3.2 + 226) (d5.2 + 226) d5.1.2.2.2) 3 d8.1.1 d8.1.2.2.1 d8.1.2.2.2.1,
      fun b => up_eq w b _ _ _ _ _ _ (eqlC (EqG.str' rfl) (eqlC (EqG.str' rfl) (eqlC (EqG.int' rfl) (eqlC (EqG.int' rfl) eqlN)))), trivial⟩ rfl rfl rfl rfl
end Mine
end
noncomputable section
namespace Mine
open PySem PySem.W PySem.W.X

theorem tick_1_2 (w : WK) (σ : Sv) (T : LP) (ah : Addr) (e : List Nat) (et : Tok) (e1 e2 e3 : Nat) (w1 v1 : List Nat) (q1' z1 u1 : Tok) (a1 : Addr) (b1 b2 : Tok)
    (he3 : e = [13] ∨ e = [10] ∨ e = [13, 10]) (hw : ∀ x ∈ ([w1, v1, [35], [99]] : List (List Nat)), okWord x) (hs : small [w1, v1, [35], [99]]) :
    Ctr (E2 w) σ.bt (.call (.ref 193) ⟨[.ref 228, .ref 232, .ref ah, .str (strOf e) et], []⟩) ((L0 T ah).seven w.params [(w1, q1')] [⟨a1, u1, (v1, z1)⟩] [([35], b1), ([99], b2)] e1 e2 e3 ++ tups [⟨a1, u1, (v1, z1)⟩]) (QF (fTkk (L0 T ah) w.params [(w1, q1')] [⟨a1, u1, (v1, z1)⟩] [([35], b1), ([99], b2)] e3)) := by
  have he : e.length ≤ 2 := by rcases he3 with rfl | rfl | rfl <;> decide
  have hn : ([w1, v1, [35], [99]] : List (List Nat)).length ≤ 12 := Nat.le_of_ble_eq_true rfl
  have S : Sent [sent w1, sent v1, sent [35], sent [99]] := sent_of [w1, v1, [35], [99]] hw hs hn
  exact Ctr.runU (E := E2 w) den_eq rfl 100000 (fun N K p => .ent 58 (hx [0x280000028000002890000008120040900204801228000, 0x2c60000000060a9]) (pcC (N + 226 + 3)) (pcAlt (N + 226 + 3)) (pcSub _) <|
    .dat 510 (hx [0x68d1a3468c1a3068c1a00285003468d000060000000000204080, 0x24080c040880f1e3c780000478f1e3c78f0a387000a0000d, 0x1820000000040000004000000428892003c80f20408102040810, 0x8984081020406001020000002000000226009130000000, 0x4090054810204081120448840610204081020406001020000002, 0xa960054b0000000000c140000000280000028000002891244912, 0x50014b162a580052e5cb972e0028000002800a000000a58b00, 0x1366c602046cc000004c182c142050a64c9a3468d1a0014000, 0xf1e3c78e9e1078f1e3c784000004408106cd1b306cd9b366cd80, 0x111a3660d9b366ce1b3870e9c3a00e1d0080e9e1078f1e3c74f08, 0x11384489c3a74e1d3aa]) [16, 27] (up (fIadd (N + 226 + 8) [rowV (w1, q1')] [rowV (v1, z1)] (listO [rowV (v1, z1)] 1))) ((0, 0), 0) fun d1 =>
    .dat 36 (hx [0x7221c8910e44489120040900e]) [34] (up (fJ (joinL e [w1, v1, [35], [99]]))) ((0, default, 0), 0) fun d2 =>
    .dat 4 [0] [] (up (fStr (joinL [13, 10] [sent w1, sent v1, sent [35], sent [99]]))) ((0, 0), 0) fun d3 =>
    .dat 37 (hx [0x5223489122448240000000409012]) [] (up (fIt (joinL [13, 10] [sent w1, sent v1, sent [35], sent [99]]))) ((0, 0, 0), 0) fun d4 =>
    .dat 2 [37] [35, 36] (up (fEx (joinL [13, 10] [sent w1, sent v1, sent [35], sent [99]]))) ((exL (joinL [13, 10] [sent w1, sent v1, sent [35], sent [99]]), 0, default, 0), 0) fun d5 =>
    .dat 579 (hx [0x264e00000, 0x2900a400000a550052a80295400000000000052014800000000, 0x14275000029000002900a4029000002954a942750000290000029, 0x2900a4029000002954a13a800014800001480520148000014aa, 0x14800001480520148000014a600000010095300509d40000a4000, 0x13284ea0000, 0x17805e0178000017b000bd8005ec0000000000000bc02f0000000, 0x182e5ab80005e000005e017805e000005ec182e5ab80005e00000, 0x5e017805e000005ec172d5c0002f000002f00bc02f000002f, 0x193264c800002c993264c99112244480000000a16b96ae0001780, 0x20000002140000122448890000488120193364cd9b366cd9b3, 0x5cbc00000017800001780000178b0608000000010001a]) [46, 45, 40, 39, 44, 38, 35, 48] (up (fTk (gR (d3.2 + 226) (d5.2 + 226) d5.1.2.2.2) w.params (strOf (sent w1)) 1 (after [sent v1, sent [35], sent [99]]))) ((0, 0, 0, exL (after [sent v1, sent [35], sent [99]]), 0), 0) fun d6 =>
    .dat 155 (hx [0x2046810204080c0020400000040000004d003368019b40000000, 0x280000028900000912244480002440900c99b266cd9b366cc203, 0x2e5e0000000bc00000bc00000bc5860a00000001400001b]) [46, 45, 40, 39, 44, 38, 35, 48] (up (fTk (gR (d3.2 + 226) (d5.2 + 226) d5.1.2.2.2) w.params (strOf (sent v1)) 2 (after [sent [35], sent [99]]))) ((0, 0, 0, exL (after [sent [35], sent [99]]), 0), 0) fun d7 =>
    .dat 149 (hx [0x1ab50c14000001400000140000015a8068d40346a01a350000000, 0x1d8c0409dba00000ba74e43b90e1dc8712e19b366cd9850814005, 0x17800001780000178b78f403a76e9dbb76eddbb00000bb, 0x2e5e3]) [46, 45, 40, 39, 44, 38, 35, 48] (up (fTk (gR (d3.2 + 226) (d5.2 + 226) d5.1.2.2.2) w.params (strOf (sent [35])) 3 (after [sent [99]]))) ((0, 0, 0, exL (after [sent [99]]), 0), 0) fun d8 =>
    .dat 48 (hx [0x172f00000005e000005e000005e2de3d00e9dba76eddbb78ede3c, 0x1]) [46, 45, 40, 39, 44, 38, 35, 48] (up (fTk (gR (d3.2 + 226) (d5.2 + 226) d5.1.2.2.2) w.params (strOf (sent [99])) 4 (after []))) ((0, 0, 0, exL (after []), 0), 0) fun d9 =>
    .dat 48 (hx [0x172f00000005e000005e000005e2de3d00e9dba76eddbb78ede3c, 0x1]) [46, 45, 40, 39, 44, 38, 35, 48] (up (fTk (gR (d3.2 + 226) (d5.2 + 226) d5.1.2.2.2) w.params ⟨#[]⟩ 4 [])) ((0, 0, 0, exL [], 0), 0) fun d10 =>
    .pur 58 (hx [0x12b802f5e000005e000005e2de3d7afdd3b74eddbb76f1dbc79d]) (.int 3) <|
    .dat 264 (hx [0x91220480850a107221c8910e4448900004090101e4078f203c, 0x187121c489122458b122c3890e24489122c48600001870c480, 0x24c9932a4c800000c890240008b122c787121c489122458b12280, 0x264893224c9932654a932800003224c893264c9952a4ca9126449, 0x8200001833a0cd0f343879a1e549951]) [64, 77] (up (fE2 )) ((default, default, 0), 0) fun de =>
    .fin 2 []) fun N K p d1 d2 d3 d4 d5 d6 d7 d8 d9 d10 de => .mk' [(.builtin "str.count" ⟨[.str (strOf (joinL [13, 10] [sent w1, sent v1, sent [35], sent [99]])) d3.1.1, .str ⟨#[13, 10]⟩ (d10.1.2.2.2.2 + 1)], []⟩, .int 3)]
    [(none, .builtin "list.__iadd__" ⟨[.ref (N + 226 + 8), .ref (N + 226 + 19)], []⟩, [(N + 226 + 8, listO [rowV (w1, q1')] 1), (N + 226 + 19, listO [rowV (v1, z1)] 1)]),
     (none, .builtin "str.join" ⟨[.str (strOf e) et, .ref (d1.2 + 226 + 0)], []⟩, [(d1.2 + 226 + 0, (listO (wsV [(w1, q1'), (v1, z1), ([35], b1), ([99], b2)]) 0))]),
     (some (σ.inT (N + 226) ⟨98, 11, 98, 44⟩).tl, .call (.ref 55) ⟨[.str (strOf (joinL e [w1, v1, [35], [99]])) d2.1.1], []⟩, []),
     (none, .builtin "str.__iter__" ⟨[.str (strOf (joinL [13, 10] [sent w1, sent v1, sent [35], sent [99]])) d3.1.1], []⟩, []),
     (none, .builtin "list.extend.loop" ⟨[.ref (d3.2 + 226 + 0), .ref d4.1.2.1, .none], []⟩, [(d3.2 + 226 + 0, listO [] 0), (d4.1.2.1, strItO (strOf (joinL [13, 10] [sent w1, sent v1, sent [35], sent [99]])) d4.1.1 0)]),
     (some (σ.inF (N + 226) (d5.2 + 226 + 13) ⟨102, 28, 102, 46⟩ ⟨100, 13, 100, 29⟩).list, .call (.ref 167) ⟨[.ref (d5.2 + 226 + 9)], []⟩, (gR (d3.2 + 226) (d5.2 + 226) d5.1.2.2.2).eight w.params 1 (d5.1.2.2.2 + 17) (d5.1.1.1.map chV) d5.1.2.1 0),
     (some (σ.inF (N + 226) (d5.2 + 226 + 13) ⟨104, 26, 104, 44⟩ ⟨100, 13, 100, 29⟩).list, .call (.ref 167) ⟨[.ref (d5.2 + 226 + 9)], []⟩, (gR (d3.2 + 226) (d5.2 + 226) d5.1.2.2.2).eight w.params 1 d6.1.1 (d6.1.2.2.2.1.1.map chV) d6.1.2.2.1 0),
     (some (σ.inC (N + 226) (d7.2 + 226 + 6) (d7.2 + 226 + 7) (d7.2 + 226 + 8) ⟨105, 12, 105, 30⟩ ⟨105, 43, 105, 55⟩).list, .call (.ref 167) ⟨[.ref (d5.2 + 226 + 9)], []⟩, (gR (d3.2 + 226) (d5.2 + 226) d5.1.2.2.2).eight w.params 2 d7.1.1 (d7.1.2.2.2.1.1.map chV) d7.1.2.2.1 0),
     (some (σ.inC (N + 226) (d7.2 + 226 + 6) (d7.2 + 226 + 7) (d7.2 + 226 + 8) ⟨105, 12, 105, 30⟩ ⟨105, 43, 105, 55⟩).list, .call (.ref 167) ⟨[.ref (d5.2 + 226 + 9)], []⟩, (gR (d3.2 + 226) (d5.2 + 226) d5.1.2.2.2).eight w.params 3 d8.1.1 (d8.1.2.2.2.1.1.map chV) d8.1.2.2.1 0),
     (some (σ.inC (N + 226) (d7.2 + 226 + 6) (d7.2 + 226 + 7) (d7.2 + 226 + 8) ⟨105, 12, 105, 30⟩ ⟨105, 43, 105, 55⟩).list, .call (.ref 167) ⟨[.ref (d5.2 + 226 + 9)], []⟩, (gR (d3.2 + 226) (d5.2 + 226) d5.1.2.2.2).eight w.params 4 d9.1.1 (d9.1.2.2.2.1.1.map chV) d9.1.2.2.1 0),
     (none, .builtin "list.__eq__" ⟨[.ref (d10.2 + 226 + 3), .ref (d10.2 + 226 + 16)], []⟩, [(d10.2 + 226 + 3, listO [.str (strOf (sent [35])) d8.1.2.1, .str (strOf (sent [99])) d9.1.2.1, .str ⟨#[]⟩ d10.1.2.1, .int 4 d10.1.1, .int 3 (d10.1.2.2.2.2 + 2)] 0), (d10.2 + 226 + 16, listO [.str (strOf [35]) b1, .str (strOf [99]) b2, .str ⟨#[]⟩ (d10.1.2.2.2.2 + 7), .int 4 (d10.1.2.2.2.2 + 5), .int 3 (d10.1.2.2.2.2 + 11)] 0)])]
    (⟨[(sent w1, d6.1.2.1)], rfl⟩, ⟨[⟨d7.2 + 226 + 1, d6.1.2.2.2.2 + 9, (sent v1, d7.1.2.1)⟩], rfl⟩, (e1 + 2), (e2 + 2), de.2 + 226, de.1.2.2) (de.2 + 226, 0) (de.1.2.2, 0) [0, 1, 2, 3, 4, 5, 6, 7, 53] (by kernel_rfl)
    (oneG (gives_count [sent w1, sent v1, sent [35], sent [99]] d3.1.1 _ (fun x hx => (S.ok x hx).plain)))
    ⟨fun b => up_iadd w b _ _ _ _ _ _ (by simp) (by simp),
      fun b => up_join w b e et _ [(w1, q1'), (v1, z1), ([35], b1), ([99], b2)] _ he (fun x hx => hs x hx) (by simp),
      up_quoted w (σ.inT (N + 226) ⟨98, 11, 98, 44⟩) e he3 [w1, v1, [35], [99]] hw hs hn d2.1.1,
      fun b => up_iter w b (joinL [13, 10] [sent w1, sent v1, sent [35], sent [99]]) d3.1.1 (words_ascii [sent w1, sent v1, sent [35], sent [99]] S.ok),
      fun b => up_extend w b (joinL [13, 10] [sent w1, sent v1, sent [35], sent [99]]) d4.1.1 _ _ (words_len [sent w1, sent v1, sent [35], sent [99]] S.sm S.le),
      up_first w (σ.inF (N + 226) (d5.2 + 226 + 13) ⟨102, 28, 102, 46⟩ ⟨100, 13, 100, 29⟩) (gR (d3.2 + 226) (d5.2 + 226) d5.1.2.2.2) 1 (d5.1.2.2.2 + 17) d5.1.2.1 (sent w1) [sent v1, sent [35], sent [99]] d5.1.1 S,
      up_next w (σ.inF (N + 226) (d5.2 + 226 + 13) ⟨104, 26, 104, 44⟩ ⟨100, 13, 100, 29⟩) (gR (d3.2 + 226) (d5.2 + 226) d5.1.2.2.2) 1 d6.1.1 d6.1.2.2.1 (sent v1) [sent [35], sent [99]] d6.1.2.2.2.1 S.tail,
      up_next w (σ.inC (N + 226) (d7.2 + 226 + 6) (d7.2 + 226 + 7) (d7.2 + 226 + 8) ⟨105, 12, 105, 30⟩ ⟨105, 43, 105, 55⟩) (gR (d3.2 + 226) (d5.2 + 226) d5.1.2.2.2) 2 d7.1.1 d7.1.2.2.1 (sent [35]) [sent [99]] d7.1.2.2.2.1 S.tail.tail,
      up_next w (σ.inC (N + 226) (d7.2 + 226 + 6) (d7.2 + 226 + 7) (d7.2 + 226 + 8) ⟨105, 12, 105, 30⟩ ⟨105, 43, 105, 55⟩) (gR (d3.2 + 226) (d5.2 + 226) d5.1.2.2.2) 3 d8.1.1 d8.1.2.2.1 (sent [99]) [] d8.1.2.2.2.1 S.tail.tail.tail,
      up_none w (σ.inC (N + 226) (d7.2 + 226 + 6) (d7.2 + 226 + 7) (d7.2 + 226 + 8) ⟨105, 12, 105, 30⟩ ⟨105, 43, 105, 55⟩) (gR (d3.2 + 226) (d5.2 + 226) d5.1.2.2.2) 4 d9.1.1 d9.1.2.2.1 d9.1.2.2.2.1,
      fun b => up_eq w b _ _ _ _ _ _ (eqlC (EqG.str' rfl) (eqlC (EqG.str' rfl) (eqlC (EqG.str' rfl) (eqlC (EqG.int' rfl) (eqlC (EqG.int' rfl) eqlN))))), trivial⟩ rfl rfl rfl rfl
end Mine
end
noncomputable section
namespace Mine
open PySem PySem.W PySem.W.X

theorem tick_1_3 (w : WK) (σ : Sv) (T : LP) (ah : Addr) (e : List Nat) (et : Tok) (e1 e2 e3 : Nat) (w1 v1 : List Nat) (q1' z1 u1 : Tok) (a1 : Addr) (b1 b2 b3 : Tok)
    (he3 : e = [13] ∨ e = [10] ∨ e = [13, 10]) (hw : ∀ x ∈ ([w1, v1, [98, 34], [35], [99]] : List (List Nat)), okWord x) (hs : small [w1, v1, [98, 34], [35], [99]]) :
    Ctr (E2 w) σ.bt (.call (.ref 193) ⟨[.ref 228, .ref 232, .ref ah, .str (strOf e) et], []⟩) ((L0 T ah).seven w.params [(w1, q1')] [⟨a1, u1, (v1, z1)⟩] [([98, 34], b1), ([35], b2), ([99], b3)] e1 e2 e3 ++ tups [⟨a1, u1, (v1, z1)⟩]) (QF (fTkk (L0 T ah) w.params [(w1, q1')] [⟨a1, u1, (v1, z1)⟩] [([98, 34], b1), ([35], b2), ([99], b3)] e3)) := by
  have he : e.length ≤ 2 := by rcases he3 with rfl | rfl | rfl <;> decide
  have hn : ([w1, v1, [98, 34], [35], [99]] : List (List Nat)).length ≤ 12 := Nat.le_of_ble_eq_true rfl
  have S : Sent [sent w1, sent v1, sent [98, 34], sent [35], sent [99]] := sent_of [w1, v1, [98, 34], [35], [99]] hw hs hn
  exact Ctr.runU (E := E2 w) den_eq rfl 100000 (fun N K p => .ent 58 (hx [0x280000028000002890000008120040900204801228000, 0x2c60000000060a9]) (pcC (N + 226 + 3)) (pcAlt (N + 226 + 3)) (pcSub _) <|
    .dat 510 (hx [0x68d1a3468c1a3068c1a00285003468d000060000000000204080, 0x24080c040880f1e3c780000478f1e3c78f0a387000a0000d, 0x1820000000040000004000000428892003c80f20408102040810, 0x8984081020406001020000002000000226009130000000, 0x4090054810204081120448840610204081020406001020000002, 0xa960054b0000000000c140000000280000028000002891244912, 0x50014b162a580052e5cb972e0028000002800a000000a58b00, 0x1366c602046cc000004c182c142050a64c9a3468d1a0014000, 0xf1e3c78e9e1078f1e3c784000004408106cd1b306cd9b366cd80, 0x111a3660d9b366ce1b3870e9c3a00e1d0080e9e1078f1e3c74f08, 0x11384489c3a74e1d3aa]) [16, 27] (up (fIadd (N + 226 + 8) [rowV (w1, q1')] [rowV (v1, z1)] (listO [rowV (v1, z1)] 1))) ((0, 0), 0) fun d1 =>
    .dat 36 (hx [0x7221c8910e44489120040900e]) [34] (up (fJ (joinL e [w1, v1, [98, 34], [35], [99]]))) ((0, default, 0), 0) fun d2 =>
    .dat 4 [0] [] (up (fStr (joinL [13, 10] [sent w1, sent v1, sent [98, 34], sent [35], sent [99]]))) ((0, 0), 0) fun d3 =>
    .dat 37 (hx [0x5223489122448240000000409012]) [] (up (fIt (joinL [13, 10] [sent w1, sent v1, sent [98, 34], sent [35], sent [99]]))) ((0, 0, 0), 0) fun d4 =>
    .dat 2 [37] [35, 36] (up (fEx (joinL [13, 10] [sent w1, sent v1, sent [98, 34], sent [35], sent [99]]))) ((exL (joinL [13, 10] [sent w1, sent v1, sent [98, 34], sent [35], sent [99]]), 0, default, 0), 0) fun d5 =>
    .dat 579 (hx [0x264e00000, 0x2900a400000a550052a80295400000000000052014800000000, 0x14275000029000002900a4029000002954a942750000290000029, 0x2900a4029000002954a13a800014800001480520148000014aa, 0x14800001480520148000014a600000010095300509d40000a4000, 0x13284ea0000, 0x17805e0178000017b000bd8005ec0000000000000bc02f0000000, 0x182e5ab80005e000005e017805e000005ec182e5ab80005e00000, 0x5e017805e000005ec172d5c0002f000002f00bc02f000002f, 0x193264c800002c993264c99112244480000000a16b96ae0001780, 0x20000002140000122448890000488120193364cd9b366cd9b3, 0x5cbc00000017800001780000178b0608000000010001a]) [46, 45, 40, 39, 44, 38, 35, 48] (up (fTk (gR (d3.2 + 226) (d5.2 + 226) d5.1.2.2.2) w.params (strOf (sent w1)) 1 (after [sent v1, sent [98, 34], sent [35], sent [99]]))) ((0, 0, 0, exL (after [sent v1, sent [98, 34], sent [35], sent [99]]), 0), 0) fun d6 =>
    .dat 155 (hx [0x2046810204080c0020400000040000004d003368019b40000000, 0x280000028900000912244480002440900c99b266cd9b366cc203, 0x2e5e0000000bc00000bc00000bc5860a00000001400001b]) [46, 45, 40, 39, 44, 38, 35, 48] (up (fTk (gR (d3.2 + 226) (d5.2 + 226) d5.1.2.2.2) w.params (strOf (sent v1)) 2 (after [sent [98, 34], sent [35], sent [99]]))) ((0, 0, 0, exL (after [sent [98, 34], sent [35], sent [99]]), 0), 0) fun d7 =>
    .dat 149 (hx [0x1ab50c14000001400000140000015a8068d40346a01a350000000, 0x1d8c0409dba00000ba74e43b90e1dc8712e19b366cd9850814005, 0x17800001780000178b78f403a76e9dbb76eddbb00000bb, 0x2e5e3]) [46, 45, 40, 39, 44, 38, 35, 48] (up (fTk (gR (d3.2 + 226) (d5.2 + 226) d5.1.2.2.2) w.params (strOf (sent [98, 34])) 3 (after [sent [35], sent [99]]))) ((0, 0, 0, exL (after [sent [35], sent [99]]), 0), 0) fun d8 =>
    .dat 48 (hx [0x172f00000005e000005e000005e2de3d00e9dba76eddbb78ede3c, 0x1]) [46, 45, 40, 39, 44, 38, 35, 48] (up (fTk (gR (d3.2 + 226) (d5.2 + 226) d5.1.2.2.2) w.params (strOf (sent [35])) 4 (after [sent [99]]))) ((0, 0, 0, exL (after [sent [99]]), 0), 0) fun d9 =>
    .dat 48 (hx [0x172f00000005e000005e000005e2de3d00e9dba76eddbb78ede3c, 0x1]) [46, 45, 40, 39, 44, 38, 35, 48] (up (fTk (gR (d3.2 + 226) (d5.2 + 226) d5.1.2.2.2) w.params (strOf (sent [99])) 5 (after []))) ((0, 0, 0, exL (after []), 0), 0) fun d10 =>
    .dat 48 (hx [0x172f00000005e000005e000005e2de3d00e9dba76eddbb78ede3c, 0x1]) [46, 45, 40, 39, 44, 38, 35, 48] (up (fTk (gR (d3.2 + 226) (d5.2 + 226) d5.1.2.2.2) w.params ⟨#[]⟩ 5 [])) ((0, 0, 0, exL [], 0), 0) fun d11 =>
    .pur 58 (hx [0x12b802f5e000005e000005e2de3d7afdd3b74eddbb76f1dbc79d]) (.int 4) <|
    .dat 264 (hx [0x91220480850a107221c8910e4448900004090101e4078f203c, 0x187121c489122458b122c3890e24489122c48600001870c480, 0x24c9932a4c800000c890240008b122c787121c489122458b12280, 0x264893224c9932654a932800003224c893264c9952a4ca9126449, 0x8200001833a0cd0f343879a1e549951]) [64, 77] (up (fE2 )) ((default, default, 0), 0) fun de =>
    .fin 2 []) fun N K p d1 d2 d3 d4 d5 d6 d7 d8 d9 d10 d11 de => .mk' [(.builtin "str.count" ⟨[.str (strOf (joinL [13, 10] [sent w1, sent v1, sent [98, 34], sent [35], sent [99]])) d3.1.1, .str ⟨#[13, 10]⟩ (d11.1.2.2.2.2 + 1)], []⟩, .int 4)]
    [(none, .builtin "list.__iadd__" ⟨[.ref (N + 226 + 8), .ref (N + 226 + 19)], []⟩, [(N + 226 + 8, listO [rowV (w1, q1')] 1), (N + 226 + 19, listO [rowV (v1, z1)] 1)]),
     (none, .builtin "str.join" ⟨[.str (strOf e) et, .ref (d1.2 + 226 + 0)], []⟩, [(d1.2 + 226 + 0, (listO (wsV [(w1, q1'), (v1, z1), ([98, 34], b1), ([35], b2), ([99], b3)]) 0))]),
     (some (σ.inT (N + 226) ⟨98, 11, 98, 44⟩).tl, .call (.ref 55) ⟨[.str (strOf (joinL e [w1, v1, [98, 34], [35], [99]])) d2.1.1], []⟩, []),
     (none, .builtin "str.__iter__" ⟨[.str (strOf (joinL [13, 10] [sent w1, sent v1, sent [98, 34], sent [35], sent [99]])) d3.1.1], []⟩, []),
     (none, .builtin "list.extend.loop" ⟨[.ref (d3.2 + 226 + 0), .ref d4.1.2.1, .none], []⟩, [(d3.2 + 226 + 0, listO [] 0), (d4.1.2.1, strItO (strOf (joinL [13, 10] [sent w1, sent v1, sent [98, 34], sent [35], sent [99]])) d4.1.1 0)]),
     (some (σ.inF (N + 226) (d5.2 + 226 + 13) ⟨102, 28, 102, 46⟩ ⟨100, 13, 100, 29⟩).list, .call (.ref 167) ⟨[.ref (d5.2 + 226 + 9)], []⟩, (gR (d3.2 + 226) (d5.2 + 226) d5.1.2.2.2).eight w.params 1 (d5.1.2.2.2 + 17) (d5.1.1.1.map chV) d5.1.2.1 0),
     (some (σ.inF (N + 226) (d5.2 + 226 + 13) ⟨104, 26, 104, 44⟩ ⟨100, 13, 100, 29⟩).list, .call (.ref 167) ⟨[.ref (d5.2 + 226 + 9)], []⟩, (gR (d3.2 + 226) (d5.2 + 226) d5.1.2.2.2).eight w.params 1 d6.1.1 (d6.1.2.2.2.1.1.map chV) d6.1.2.2.1 0),
     (some (σ.inC (N + 226) (d7.2 + 226 + 6) (d7.2 + 226 + 7) (d7.2 + 226 + 8) ⟨105, 12, 105, 30⟩ ⟨105, 43, 105, 55⟩).list, .call (.ref 167) ⟨[.ref (d5.2 + 226 + 9)], []⟩, (gR (d3.2 + 226) (d5.2 + 226) d5.1.2.2.2).eight w.params 2 d7.1.1 (d7.1.2.2.2.1.1.map chV) d7.1.2.2.1 0),
     (some (σ.inC (N + 226) (d7.2 + 226 + 6) (d7.2 + 226 + 7) (d7.2 + 226 + 8) ⟨105, 12, 105, 30⟩ ⟨105, 43, 105, 55⟩).list, .call (.ref 167) ⟨[.ref (d5.2 + 226 + 9)], []⟩, (gR (d3.2 + 226) (d5.2 + 226) d5.1.2.2.2).eight w.params 3 d8.1.1 (d8.1.2.2.2.1.1.map chV) d8.1.2.2.1 0),
     (some (σ.inC (N + 226) (d7.2 + 226 + 6) (d7.2 + 226 + 7) (d7.2 + 226 + 8) ⟨105, 12, 105, 30⟩ ⟨105, 43, 105, 55⟩).list, .call (.ref 167) ⟨[.ref (d5.2 + 226 + 9)], []⟩, (gR (d3.2 + 226) (d5.2 + 226) d5.1.2.2.2).eight w.params 4 d9.1.1 (d9.1.2.2.2.1.1.map chV) d9.1.2.2.1 0),
     (some (σ.inC (N + 226) (d7.2 + 226 + 6) (d7.2 + 226 + 7) (d7.2 + 226 + 8) ⟨105, 12, 105, 30⟩ ⟨105, 43, 105, 55⟩).list, .call (.ref 167) ⟨[.ref (d5.2 + 226 + 9)], []⟩, (gR (d3.2 + 226) (d5.2 + 226) d5.1.2.2.2).eight w.params 5 d10.1.1 (d10.1.2.2.2.1.1.map chV) d10.1.2.2.1 0),
     (none, .builtin "list.__eq__" ⟨[.ref (d11.2 + 226 + 3), .ref (d11.2 + 226 + 16)], []⟩, [(d11.2 + 226 + 3, listO [.str (strOf (sent [98, 34])) d8.1.2.1, .str (strOf (sent [35])) d9.1.2.1, .str (strOf (sent [99])) d10.1.2.1, .str ⟨#[]⟩ d11.1.2.1, .int 5 d11.1.1, .int 4 (d11.1.2.2.2.2 + 2)] 0), (d11.2 + 226 + 16, listO [.str (strOf [98, 34]) b1, .str (strOf [35]) b2, .str (strOf [99]) b3, .str ⟨#[]⟩ (d11.1.2.2.2.2 + 7), .int 5 (d11.1.2.2.2.2 + 5), .int 4 (d11.1.2.2.2.2 + 11)] 0)])]
    (⟨[(sent w1, d6.1.2.1)], rfl⟩, ⟨[⟨d7.2 + 226 + 1, d6.1.2.2.2.2 + 9, (sent v1, d7.1.2.1)⟩], rfl⟩, (e1 + 2), (e2 + 2), de.2 + 226, de.1.2.2) (de.2 + 226, 0) (de.1.2.2, 0) [0, 1, 2, 3, 4, 5, 6, 7, 53] (by kernel_rfl)
    (oneG (gives_count [sent w1, sent v1, sent [98, 34], sent [35], sent [99]] d3.1.1 _ (fun x hx => (S.ok x hx).plain)))
    ⟨fun b => up_iadd w b _ _ _ _ _ _ (by simp) (by simp),
      fun b => up_join w b e et _ [(w1, q1'), (v1, z1), ([98, 34], b1), ([35], b2), ([99], b3)] _ he (fun x hx => hs x hx) (by simp),
      up_quoted w (σ.inT (N + 226) ⟨98, 11, 98, 44⟩) e he3 [w1, v1, [98, 34], [35], [99]] hw hs hn d2.1.1,
      fun b => up_iter w b (joinL [13, 10] [sent w1, sent v1, sent [98, 34], sent [35], sent [99]]) d3.1.1 (words_ascii [sent w1, sent v1, sent [98, 34], sent [35], sent [99]] S.ok),
      fun b => up_extend w b (joinL [13, 10] [sent w1, sent v1, sent [98, 34], sent [35], sent [99]]) d4.1.1 _ _ (words_len [sent w1, sent v1, sent [98, 34], sent [35], sent [99]] S.sm S.le),
      up_first w (σ.inF (N + 226) (d5.2 + 226 + 13) ⟨102, 28, 102, 46⟩ ⟨100, 13, 100, 29⟩) (gR (d3.2 + 226) (d5.2 + 226) d5.1.2.2.2) 1 (d5.1.2.2.2 + 17) d5.1.2.1 (sent w1) [sent v1, sent [98, 34], sent [35], sent [99]] d5.1.1 S,
      up_next w (σ.inF (N + 226) (d5.2 + 226 + 13) ⟨104, 26, 104, 44⟩ ⟨100, 13, 100, 29⟩) (gR (d3.2 + 226) (d5.2 + 226) d5.1.2.2.2) 1 d6.1.1 d6.1.2.2.1 (sent v1) [sent [98, 34], sent [35], sent [99]] d6.1.2.2.2.1 S.tail,
      up_next w (σ.inC (N + 226) (d7.2 + 226 + 6) (d7.2 + 226 + 7) (d7.2 + 226 + 8) ⟨105, 12, 105, 30⟩ ⟨105, 43, 105, 55⟩) (gR (d3.2 + 226) (d5.2 + 226) d5.1.2.2.2) 2 d7.1.1 d7.1.2.2.1 (sent [98, 34]) [sent [35], sent [99]] d7.1.2.2.2.1 S.tail.tail,
      up_next w (σ.inC (N + 226) (d7.2 + 226 + 6) (d7.2 + 226 + 7) (d7.2 + 226 + 8) ⟨105, 12, 105, 30⟩ ⟨105, 43, 105, 55⟩) (gR (d3.2 + 226) (d5.2 + 226) d5.1.2.2.2) 3 d8.1.1 d8.1.2.2.1 (sent [35]) [sent [99]] d8.1.2.2.2.1 S.tail.tail.tail,
      up_next w (σ.inC (N + 226) (d7.2 + 226 + 6) (d7.2 + 226 + 7) (d7.2 + 226 + 8) ⟨105, 12, 105, 30⟩ ⟨105, 43, 105, 55⟩) (gR (d3.2 + 226) (d5.2 + 226) d5.1.2.2.2) 4 d9.1.1 d9.1.2.2.1 (sent [99]) [] d9.1.2.2.2.1 S.tail.tail.tail.tail,
      up_none w (σ.inC (N + 226) (d7.2 + 226 + 6) (d7.2 + 226 + 7) (d7.2 + 226 + 8) ⟨105, 12, 105, 30⟩ ⟨105, 43, 105, 55⟩) (gR (d3.2 + 226) (d5.2 + 226) d5.1.2.2.2) 5 d10.1.1 d10.1.2.2.1 d10.1.2.2.2.1,
      fun b => up_eq w b _ _ _ _ _ _ (eqlC (EqG.str' rfl) (eqlC (EqG.str' rfl) (eqlC (EqG.str' rfl) (eqlC (EqG.str' rfl) (eqlC (EqG.int' rfl) (eqlC (EqG.int' rfl) eqlN)))))), trivial⟩ rfl rfl rfl rfl
end Mine
end
noncomputable section
namespace Mine
open PySem PySem.W PySem.W.X

theorem tick_2_0 (w : WK) (σ : Sv) (T : LP) (ah : Addr) (e : List Nat) (et : Tok) (e1 e2 e3 : Nat) (w1 w2 v1 v2 : List Nat) (q1' z1 u1 q2' z2 u2 : Tok) (a1 a2 : Addr)
    (he3 : e = [13] ∨ e = [10] ∨ e = [13, 10]) (hw : ∀ x ∈ ([w1, w2, v1, v2] : List (List Nat)), okWord x) (hs : small [w1, w2, v1, v2]) :
    Ctr (E2 w) σ.bt (.call (.ref 193) ⟨[.ref 228, .ref 232, .ref ah, .str (strOf e) et], []⟩) ((L0 T ah).seven w.params [(w1, q1'), (w2, q2')] [⟨a1, u1, (v1, z1)⟩, ⟨a2, u2, (v2, z2)⟩] [] e1 e2 e3 ++ tups [⟨a1, u1, (v1, z1)⟩, ⟨a2, u2, (v2, z2)⟩]) (QF (fTkk (L0 T ah) w.params [(w1, q1'), (w2, q2')] [⟨a1, u1, (v1, z1)⟩, ⟨a2, u2, (v2, z2)⟩] [] e3)) := by
  have he : e.length ≤ 2 := by rcases he3 with rfl | rfl | rfl <;> decide
  have hn : ([w1, w2, v1, v2] : List (List Nat)).length ≤ 12 := Nat.le_of_ble_eq_true rfl
  have S : Sent [sent w1, sent w2, sent v1, sent v2] := sent_of [w1, w2, v1, v2] hw hs hn
  exact Ctr.runU (E := E2 w) den_eq rfl 100000 (fun N K p => .ent 58 (hx [0x2800000280000028a0000009140048a0024500142c000, 0x3068000000060a9]) (pcC (N + 226 + 3)) (pcAlt (N + 226 + 3)) (pcSub _) <|
    .dat 728 (hx [0x70e1c3870d1c3470d1c00285003870e000068000000000204080, 0x24488c04088902040800000481020408100a3c7800a0000e, 0x182000000004000000400000042c913004089022448912244891, 0x8a04081020406001020000002000000228009940000000, 0x8112044891224489222489040610204081020406001020000002, 0x4540142a00000000c1000000002000000200000021648980, 0x204080c002040000004000000454204081020300081000000100, 0x50000005142891326245002e44891224491124482030810204, 0x500140000014c18005cc002e6000000000060a000000014000, 0xd9b3870e1c380028000002800a60c1730002993264c990014000, 0xe9c3a68e9d3a74e9d000009d3a301023a680000268d180a10285, 0x111f40210204080fa01081020407d008408102040200000220408, 0x11a3468c48000044891274e1d3474e9d3a78e9e3c7cf1f0078f80, 0xf1d3c78f9e3e00f1f0095123128d1a34689189468d1a3448c4a3, 0x123c4891e3e7cf1f3e9ce1d3474e9d3b2]) [17, 29] (up (fIadd (N + 226 + 8) [rowV (w1, q1'), rowV (w2, q2')] [rowV (v1, z1), rowV (v2, z2)] (listO [rowV (v1, z1), rowV (v2, z2)] 2))) ((0, 0), 0) fun d1 =>
    .dat 36 (hx [0x7241c9120e4850a140048a00e]) [39] (up (fJ (joinL e [w1, w2, v1, v2]))) ((0, default, 0), 0) fun d2 =>
    .dat 4 [0] [] (up (fStr (joinL [13, 10] [sent w1, sent w2, sent v1, sent v2]))) ((0, 0), 0) fun d3 =>
    .dat 37 (hx [0x54a852a54a95228000000048a012]) [] (up (fIt (joinL [13, 10] [sent w1, sent w2, sent v1, sent v2]))) ((0, 0, 0), 0) fun d4 =>
    .dat 2 [42] [40, 41] (up (fEx (joinL [13, 10] [sent w1, sent w2, sent v1, sent v2]))) ((exL (joinL [13, 10] [sent w1, sent w2, sent v1, sent v2]), 0, default, 0), 0) fun d5 =>
    .dat 579 (hx [0x2b5800000, 0x2e00b800000b97805cbc02e5e0000000000005c017000000000, 0x16ac5a0002e000002e00b802e000002e5ebd6ac5a0002e000002e, 0x2e00b802e000002e5eb562d000170000017005c01700000172f, 0x170000017005c01700000172b000000100a95805ab168000b8000, 0x15ad58b4000, 0x1a006801a000001a3500d1a8068d4000000000000d00340000000, 0x1ab364cc00068000006801a00680000068d5ab364cc0006800000, 0x6801a00680000068d59b26600034000003400d00340000034, 0x1bb76edc00002ddbb76eddb922448500000000b18cd9330001a00, 0x200000021600001244890a00005091401bb86ee1c3870e1c38, 0x66d00000001a000001a000001a0c0608000000010001a]) [51, 50, 45, 44, 49, 43, 40, 53] (up (fTk (gR (d3.2 + 226) (d5.2 + 226) d5.1.2.2.2) w.params (strOf (sent w1)) 1 (after [sent w2, sent v1, sent v2]))) ((0, 0, 0, exL (after [sent w2, sent v1, sent v2]), 0), 0) fun d6 =>
    .dat 154 (hx [0x2047210204080c0020400000040000004e40387201c390000000, 0x100000010b00000922448500002848a00ddc3770e1c3870e0203, 0x33680000000d000000d000000d06030400000000800001b]) [51, 50, 45, 44, 49, 43, 40, 53] (up (fTk (gR (d3.2 + 226) (d5.2 + 226) d5.1.2.2.2) w.params (strOf (sent w2)) 2 (after [sent v1, sent v2]))) ((0, 0, 0, exL (after [sent v1, sent v2]), 0), 0) fun d7 =>
    .dat 155 (hx [0x2047410204080c0020400000040000004e80397401cba0000000, 0x280000028a00000922448500002848a00ddc3770e1c3870e0203, 0x33680000000d000000d000000d06060a00000001400001b]) [51, 50, 45, 44, 49, 43, 40, 53] (up (fTk (gR (d3.2 + 226) (d5.2 + 226) d5.1.2.2.2) w.params (strOf (sent v1)) 3 (after [sent v2]))) ((0, 0, 0, exL (after [sent v2]), 0), 0) fun d8 =>
    .dat 157 (hx [0x1dbb0c14000001400000140000015d8074ec03a7601d3b0000000, 0x51400001244890a00005091401bb86ee1c3870e1c050814005, 0x66d00000001a000001a000001a0c0c140000000280000028001e]) [51, 50, 45, 44, 49, 43, 40, 53] (up (fTk (gR (d3.2 + 226) (d5.2 + 226) d5.1.2.2.2) w.params (strOf (sent v2)) 4 (after []))) ((0, 0, 0, exL (after []), 0), 0) fun d9 =>
    .dat 149 (hx [0x1ebd0c14000001400000140000015e8078f403c7a01e3d0000000, 0x218c040a1c200000c285043c10e1e0871501c3870e1c050814005, 0x1a000001a000001a0c8914042870a1c3870e1c300000c3, 0x33683]) [51, 50, 45, 44, 49, 43, 40, 53] (up (fTk (gR (d3.2 + 226) (d5.2 + 226) d5.1.2.2.2) w.params ⟨#[]⟩ 4 [])) ((0, 0, 0, exL [], 0), 0) fun d10 =>
    .pur 58 (hx [0x14cc0346800000680000068322458b1e143850e1c387121c489d]) (.int 3) <|
    .dat 264 (hx [0xa1424500952a507241c9120e4850a000048a01222488912444, 0x197325cc993264d9b326cb992e64c99326cc9600001972c500, 0x28d1a34a8d000000d0a0280009b326cf97325cc993264d9b32680, 0x2a50a3428d1a346952a34800003428d0a3468d1a54a8d2a146851, 0x9200001935a4d50f54387aa1e951a51]) [72, 85] (up (fE2 )) ((default, default, 0), 0) fun de =>
    .fin 2 []) fun N K p d1 d2 d3 d4 d5 d6 d7 d8 d9 d10 de => .mk' [(.builtin "str.count" ⟨[.str (strOf (joinL [13, 10] [sent w1, sent w2, sent v1, sent v2])) d3.1.1, .str ⟨#[13, 10]⟩ (d10.1.2.2.2.2 + 1)], []⟩, .int 3)]
    [(none, .builtin "list.__iadd__" ⟨[.ref (N + 226 + 8), .ref (N + 226 + 20)], []⟩, [(N + 226 + 8, listO [rowV (w1, q1'), rowV (w2, q2')] 2), (N + 226 + 20, listO [rowV (v1, z1), rowV (v2, z2)] 2)]),
     (none, .builtin "str.join" ⟨[.str (strOf e) et, .ref (d1.2 + 226 + 0)], []⟩, [(d1.2 + 226 + 0, (listO (wsV [(w1, q1'), (w2, q2'), (v1, z1), (v2, z2)]) 0))]),
     (some (σ.inT (N + 226) ⟨98, 11, 98, 44⟩).tl, .call (.ref 55) ⟨[.str (strOf (joinL e [w1, w2, v1, v2])) d2.1.1], []⟩, []),
     (none, .builtin "str.__iter__" ⟨[.str (strOf (joinL [13, 10] [sent w1, sent w2, sent v1, sent v2])) d3.1.1], []⟩, []),
     (none, .builtin "list.extend.loop" ⟨[.ref (d3.2 + 226 + 0), .ref d4.1.2.1, .none], []⟩, [(d3.2 + 226 + 0, listO [] 0), (d4.1.2.1, strItO (strOf (joinL [13, 10] [sent w1, sent w2, sent v1, sent v2])) d4.1.1 0)]),
     (some (σ.inF (N + 226) (d5.2 + 226 + 13) ⟨102, 28, 102, 46⟩ ⟨100, 13, 100, 29⟩).list, .call (.ref 167) ⟨[.ref (d5.2 + 226 + 9)], []⟩, (gR (d3.2 + 226) (d5.2 + 226) d5.1.2.2.2).eight w.params 1 (d5.1.2.2.2 + 17) (d5.1.1.1.map chV) d5.1.2.1 0),
     (some (σ.inF (N + 226) (d5.2 + 226 + 13) ⟨102, 28, 102, 46⟩ ⟨100, 13, 100, 29⟩).list, .call (.ref 167) ⟨[.ref (d5.2 + 226 + 9)], []⟩, (gR (d3.2 + 226) (d5.2 + 226) d5.1.2.2.2).eight w.params 1 d6.1.1 (d6.1.2.2.2.1.1.map chV) d6.1.2.2.1 0),
     (some (σ.inF (N + 226) (d5.2 + 226 + 13) ⟨104, 26, 104, 44⟩ ⟨100, 13, 100, 29⟩).list, .call (.ref 167) ⟨[.ref (d5.2 + 226 + 9)], []⟩, (gR (d3.2 + 226) (d5.2 + 226) d5.1.2.2.2).eight w.params 2 d7.1.1 (d7.1.2.2.2.1.1.map chV) d7.1.2.2.1 0),
     (some (σ.inF (N + 226) (d5.2 + 226 + 13) ⟨104, 26, 104, 44⟩ ⟨100, 13, 100, 29⟩).list, .call (.ref 167) ⟨[.ref (d5.2 + 226 + 9)], []⟩, (gR (d3.2 + 226) (d5.2 + 226) d5.1.2.2.2).eight w.params 3 d8.1.1 (d8.1.2.2.2.1.1.map chV) d8.1.2.2.1 0),
     (some (σ.inC (N + 226) (d9.2 + 226 + 6) (d9.2 + 226 + 7) (d9.2 + 226 + 8) ⟨105, 12, 105, 30⟩ ⟨105, 43, 105, 55⟩).list, .call (.ref 167) ⟨[.ref (d5.2 + 226 + 9)], []⟩, (gR (d3.2 + 226) (d5.2 + 226) d5.1.2.2.2).eight w.params 4 d9.1.1 (d9.1.2.2.2.1.1.map chV) d9.1.2.2.1 0),
     (none, .builtin "list.__eq__" ⟨[.ref (d10.2 + 226 + 3), .ref (d10.2 + 226 + 16)], []⟩, [(d10.2 + 226 + 3, listO [.str ⟨#[]⟩ d10.1.2.1, .int 4 d10.1.1, .int 3 (d10.1.2.2.2.2 + 2)] 0), (d10.2 + 226 + 16, listO [.str ⟨#[]⟩ (d10.1.2.2.2.2 + 7), .int 4 (d10.1.2.2.2.2 + 5), .int 3 (d10.1.2.2.2.2 + 11)] 0)])]
    (⟨[(sent w1, d6.1.2.1), (sent w2, d7.1.2.1)], rfl⟩, ⟨[⟨d8.2 + 226 + 1, d7.1.2.2.2.2 + 9, (sent v1, d8.1.2.1)⟩, ⟨d9.2 + 226 + 1, d8.1.2.2.2.2 + 9, (sent v2, d9.1.2.1)⟩], rfl⟩, (e1 + 4), (e2 + 3), de.2 + 226, de.1.2.2) (de.2 + 226, 0) (de.1.2.2, 0) [0, 1, 2, 3, 4, 5, 6, 7, 8, 59, 61] (by kernel_rfl)
    (oneG (gives_count [sent w1, sent w2, sent v1, sent v2] d3.1.1 _ (fun x hx => (S.ok x hx).plain)))
    ⟨fun b => up_iadd w b _ _ _ _ _ _ (by simp) (by simp),
      fun b => up_join w b e et _ [(w1, q1'), (w2, q2'), (v1, z1), (v2, z2)] _ he (fun x hx => hs x hx) (by simp),
      up_quoted w (σ.inT (N + 226) ⟨98, 11, 98, 44⟩) e he3 [w1, w2, v1, v2] hw hs hn d2.1.1,
      fun b => up_iter w b (joinL [13, 10] [sent w1, sent w2, sent v1, sent v2]) d3.1.1 (words_ascii [sent w1, sent w2, sent v1, sent v2] S.ok),
      fun b => up_extend w b (joinL [13, 10] [sent w1, sent w2, sent v1, sent v2]) d4.1.1 _ _ (words_len [sent w1, sent w2, sent v1, sent v2] S.sm S.le),
      up_first w (σ.inF (N + 226) (d5.2 + 226 + 13) ⟨102, 28, 102, 46⟩ ⟨100, 13, 100, 29⟩) (gR (d3.2 + 226) (d5.2 + 226) d5.1.2.2.2) 1 (d5.1.2.2.2 + 17) d5.1.2.1 (sent w1) [sent w2, sent v1, sent v2] d5.1.1 S,
      up_next w (σ.inF (N + 226) (d5.2 + 226 + 13) ⟨102, 28, 102, 46⟩ ⟨100, 13, 100, 29⟩) (gR (d3.2 + 226) (d5.2 + 226) d5.1.2.2.2) 1 d6.1.1 d6.1.2.2.1 (sent w2) [sent v1, sent v2] d6.1.2.2.2.1 S.tail,
      up_next w (σ.inF (N + 226) (d5.2 + 226 + 13) ⟨104, 26, 104, 44⟩ ⟨100, 13, 100, 29⟩) (gR (d3.2 + 226) (d5.2 + 226) d5.1.2.2.2) 2 d7.1.1 d7.1.2.2.1 (sent v1) [sent v2] d7.1.2.2.2.1 S.tail.tail,
      up_next w (σ.inF (N + 226) (d5.2 + 226 + 13) ⟨104, 26, 104, 44⟩ ⟨100, 13, 100, 29⟩) (gR (d3.2 + 226) (d5.2 + 226) d5.1.2.2.2) 3 d8.1.1 d8.1.2.2.1 (sent v2) [] d8.1.2.2.2.1 S.tail.tail.tail,
      up_none w (σ.inC (N + 226) (d9.2 + 226 + 6) (d9.2 + 226 + 7) (d9.2 + 226 + 8) ⟨105, 12, 105, 30⟩ ⟨105, 43, 105, 55⟩) (gR (d3.2 + 226) (d5.2 + 226) d5.1.2.2.2) 4 d9.1.1 d9.1.2.2.1 d9.1.2.2.2.1,
      fun b => up_eq w b _ _ _ _ _ _ (eqlC (EqG.str' rfl) (eqlC (EqG.int' rfl) (eqlC (EqG.int' rfl) eqlN))), trivial⟩ rfl rfl rfl rfl
end Mine
end
noncomputable section
namespace Mine
open PySem PySem.W PySem.W.X

theorem tick_2_1 (w : WK) (σ : Sv) (T : LP) (ah : Addr) (e : List Nat) (et : Tok) (e1 e2 e3 : Nat) (w1 w2 v1 v2 : List Nat) (q1' z1 u1 q2' z2 u2 : Tok) (a1 a2 : Addr) (b1 : Tok)
    (he3 : e = [13] ∨ e = [10] ∨ e = [13, 10]) (hw : ∀ x ∈ ([w1, w2, v1, v2, [99]] : List (List Nat)), okWord x) (hs : small [w1, w2, v1, v2, [99]]) :
    Ctr (E2 w) σ.bt (.call (.ref 193) ⟨[.ref 228, .ref 232, .ref ah, .str (strOf e) et], []⟩) ((L0 T ah).seven w.params [(w1, q1'), (w2, q2')] [⟨a1, u1, (v1, z1)⟩, ⟨a2, u2, (v2, z2)⟩] [([99], b1)] e1 e2 e3 ++ tups [⟨a1, u1, (v1, z1)⟩, ⟨a2, u2, (v2, z2)⟩]) (QF (fTkk (L0 T ah) w.params [(w1, q1'), (w2, q2')] [⟨a1, u1, (v1, z1)⟩, ⟨a2, u2, (v2, z2)⟩] [([99], b1)] e3)) := by
  have he : e.length ≤ 2 := by rcases he3 with rfl | rfl | rfl <;> decide
  have hn : ([w1, w2, v1, v2, [99]] : List (List Nat)).length ≤ 12 := Nat.le_of_ble_eq_true rfl
  have S : Sent [sent w1, sent w2, sent v1, sent v2, sent [99]] := sent_of [w1, w2, v1, v2, [99]] hw hs hn
  exact Ctr.runU (E := E2 w) den_eq rfl 100000 (fun N K p => .ent 58 (hx [0x2800000280000028a0000009140048a0024500142c000, 0x3068000000060a9]) (pcC (N + 226 + 3)) (pcAlt (N + 226 + 3)) (pcSub _) <|
    .dat 728 (hx [0x70e1c3870d1c3470d1c00285003870e000068000000000204080, 0x24488c04088902040800000481020408100a3c7800a0000e, 0x182000000004000000400000042c913004089022448912244891, 0x8a04081020406001020000002000000228009940000000, 0x8112044891224489222489040610204081020406001020000002, 0x4540142a00000000c1000000002000000200000021648980, 0x204080c002040000004000000454204081020300081000000100, 0x50000005142891326245002e44891224491124482030810204, 0x500140000014c18005cc002e6000000000060a000000014000, 0xd9b3870e1c380028000002800a60c1730002993264c990014000, 0xe9c3a68e9d3a74e9d000009d3a301023a680000268d180a10285, 0x111f40210204080fa01081020407d008408102040200000220408, 0x11a3468c48000044891274e1d3474e9d3a78e9e3c7cf1f0078f80, 0xf1d3c78f9e3e00f1f0095123128d1a34689189468d1a3448c4a3, 0x123c4891e3e7cf1f3e9ce1d3474e9d3b2]) [17, 29] (up (fIadd (N + 226 + 8) [rowV (w1, q1'), rowV (w2, q2')] [rowV (v1, z1), rowV (v2, z2)] (listO [rowV (v1, z1), rowV (v2, z2)] 2))) ((0, 0), 0) fun d1 =>
    .dat 36 (hx [0x7241c9120e4850a140048a00e]) [39] (up (fJ (joinL e [w1, w2, v1, v2, [99]]))) ((0, default, 0), 0) fun d2 =>
    .dat 4 [0] [] (up (fStr (joinL [13, 10] [sent w1, sent w2, sent v1, sent v2, sent [99]]))) ((0, 0), 0) fun d3 =>
    .dat 37 (hx [0x54a852a54a95228000000048a012]) [] (up (fIt (joinL [13, 10] [sent w1, sent w2, sent v1, sent v2, sent [99]]))) ((0, 0, 0), 0) fun d4 =>
    .dat 2 [42] [40, 41] (up (fEx (joinL [13, 10] [sent w1, sent w2, sent v1, sent v2, sent [99]]))) ((exL (joinL [13, 10] [sent w1, sent w2, sent v1, sent v2, sent [99]]), 0, default, 0), 0) fun d5 =>
    .dat 579 (hx [0x2b5800000, 0x2e00b800000b97805cbc02e5e0000000000005c017000000000, 0x16ac5a0002e000002e00b802e000002e5ebd6ac5a0002e000002e, 0x2e00b802e000002e5eb562d000170000017005c01700000172f, 0x170000017005c01700000172b000000100a95805ab168000b8000, 0x15ad58b4000, 0x1a006801a000001a3500d1a8068d4000000000000d00340000000, 0x1ab364cc00068000006801a00680000068d5ab364cc0006800000, 0x6801a00680000068d59b26600034000003400d00340000034, 0x1bb76edc00002ddbb76eddb922448500000000b18cd9330001a00, 0x200000021600001244890a00005091401bb86ee1c3870e1c38, 0x66d00000001a000001a000001a0c0608000000010001a]) [51, 50, 45, 44, 49, 43, 40, 53] (up (fTk (gR (d3.2 + 226) (d5.2 + 226) d5.1.2.2.2) w.params (strOf (sent w1)) 1 (after [sent w2, sent v1, sent v2, sent [99]]))) ((0, 0, 0, exL (after [sent w2, sent v1, sent v2, sent [99]]), 0), 0) fun d6 =>
    .dat 154 (hx [0x2047210204080c0020400000040000004e40387201c390000000, 0x100000010b00000922448500002848a00ddc3770e1c3870e0203, 0x33680000000d000000d000000d06030400000000800001b]) [51, 50, 45, 44, 49, 43, 40, 53] (up (fTk (gR (d3.2 + 226) (d5.2 + 226) d5.1.2.2.2) w.params (strOf (sent w2)) 2 (after [sent v1, sent v2, sent [99]]))) ((0, 0, 0, exL (after [sent v1, sent v2, sent [99]]), 0), 0) fun d7 =>
    .dat 155 (hx [0x2047410204080c0020400000040000004e80397401cba0000000, 0x280000028a00000922448500002848a00ddc3770e1c3870e0203, 0x33680000000d000000d000000d06060a00000001400001b]) [51, 50, 45, 44, 49, 43, 40, 53] (up (fTk (gR (d3.2 + 226) (d5.2 + 226) d5.1.2.2.2) w.params (strOf (sent v1)) 3 (after [sent v2, sent [99]]))) ((0, 0, 0, exL (after [sent v2, sent [99]]), 0), 0) fun d8 =>
    .dat 157 (hx [0x1dbb0c14000001400000140000015d8074ec03a7601d3b0000000, 0x51400001244890a00005091401bb86ee1c3870e1c050814005, 0x66d00000001a000001a000001a0c0c140000000280000028001e]) [51, 50, 45, 44, 49, 43, 40, 53] (up (fTk (gR (d3.2 + 226) (d5.2 + 226) d5.1.2.2.2) w.params (strOf (sent v2)) 4 (after [sent [99]]))) ((0, 0, 0, exL (after [sent [99]]), 0), 0) fun d9 =>
    .dat 149 (hx [0x1ebd0c14000001400000140000015e8078f403c7a01e3d0000000, 0x218c040a1c200000c285043c10e1e0871501c3870e1c050814005, 0x1a000001a000001a0c8914042870a1c3870e1c300000c3, 0x33683]) [51, 50, 45, 44, 49, 43, 40, 53] (up (fTk (gR (d3.2 + 226) (d5.2 + 226) d5.1.2.2.2) w.params (strOf (sent [99])) 5 (after []))) ((0, 0, 0, exL (after []), 0), 0) fun d10 =>
    .dat 48 (hx [0x19b40000000680000068000006832245010a1c2870e1c3890e244, 0x1]) [51, 50, 45, 44, 49, 43, 40, 53] (up (fTk (gR (d3.2 + 226) (d5.2 + 226) d5.1.2.2.2) w.params ⟨#[]⟩ 5 [])) ((0, 0, 0, exL [], 0), 0) fun d11 =>
    .pur 58 (hx [0x14cc0346800000680000068322458b1e143850e1c387121c489d]) (.int 4) <|
    .dat 264 (hx [0xa1424500952a507241c9120e4850a000048a01222488912444, 0x197325cc993264d9b326cb992e64c99326cc9600001972c500, 0x28d1a34a8d000000d0a0280009b326cf97325cc993264d9b32680, 0x2a50a3428d1a346952a34800003428d0a3468d1a54a8d2a146851, 0x9200001935a4d50f54387aa1e951a51]) [72, 85] (up (fE2 )) ((default, default, 0), 0) fun de =>
    .fin 2 []) fun N K p d1 d2 d3 d4 d5 d6 d7 d8 d9 d10 d11 de => .mk' [(.builtin "str.count" ⟨[.str (strOf (joinL [13, 10] [sent w1, sent w2, sent v1, sent v2, sent [99]])) d3.1.1, .str ⟨#[13, 10]⟩ (d11.1.2.2.2.2 + 1)], []⟩, .int 4)]
    [(none, .builtin "list.__iadd__" ⟨[.ref (N + 226 + 8), .ref (N + 226 + 20)], []⟩, [(N + 226 + 8, listO [rowV (w1, q1'), rowV (w2, q2')] 2), (N + 226 + 20, listO [rowV (v1, z1), rowV (v2, z2)] 2)]),
     (none, .builtin "str.join" ⟨[.str (strOf e) et, .ref (d1.2 + 226 + 0)], []⟩, [(d1.2 + 226 + 0, (listO (wsV [(w1, q1'), (w2, q2'), (v1, z1), (v2, z2), ([99], b1)]) 0))]),
     (some (σ.inT (N + 226) ⟨98, 11, 98, 44⟩).tl, .call (.ref 55) ⟨[.str (strOf (joinL e [w1, w2, v1, v2, [99]])) d2.1.1], []⟩, []),
     (none, .builtin "str.__iter__" ⟨[.str (strOf (joinL [13, 10] [sent w1, sent w2, sent v1, sent v2, sent [99]])) d3.1.1], []⟩, []),
     (none, .builtin "list.extend.loop" ⟨[.ref (d3.2 + 226 + 0), .ref d4.1.2.1, .none], []⟩, [(d3.2 + 226 + 0, listO [] 0), (d4.1.2.1, strItO (strOf (joinL [13, 10] [sent w1, sent w2, sent v1, sent v2, sent [99]])) d4.1.1 0)]),
     (some (σ.inF (N + 226) (d5.2 + 226 + 13) ⟨102, 28, 102, 46⟩ ⟨100, 13, 100, 29⟩).list, .call (.ref 167) ⟨[.ref (d5.2 + 226 + 9)], []⟩, (gR (d3.2 + 226) (d5.2 + 226) d5.1.2.2.2).eight w.params 1 (d5.1.2.2.2 + 17) (d5.1.1.1.map chV) d5.1.2.1 0),
     (some (σ.inF (N + 226) (d5.2 + 226 + 13) ⟨102, 28, 102, 46⟩ ⟨100, 13, 100, 29⟩).list, .call (.ref 167) ⟨[.ref (d5.2 + 226 + 9)], []⟩, (gR (d3.2 + 226) (d5.2 + 226) d5.1.2.2.2).eight w.params 1 d6.1.1 (d6.1.2.2.2.1.1.map chV) d6.1.2.2.1 0),
     (some (σ.inF (N + 226) (d5.2 + 226 + 13) ⟨104, 26, 104, 44⟩ ⟨100, 13, 100, 29⟩).list, .call (.ref 167) ⟨[.ref (d5.2 + 226 + 9)], []⟩, (gR (d3.2 + 226) (d5.2 + 226) d5.1.2.2.2).eight w.params 2 d7.1.1 (d7.1.2.2.2.1.1.map chV) d7.1.2.2.1 0),
     (some (σ.inF (N + 226) (d5.2 + 226 + 13) ⟨104, 26, 104, 44⟩ ⟨100, 13, 100, 29⟩).list, .call (.ref 167) ⟨[.ref (d5.2 + 226 + 9)], []⟩, (gR (d3.2 + 226) (d5.2 + 226) d5.1.2.2.2).eight w.params 3 d8.1.1 (d8.1.2.2.2.1.1.map chV) d8.1.2.2.1 0),
     (some (σ.inC (N + 226) (d9.2 + 226 + 6) (d9.2 + 226 + 7) (d9.2 + 226 + 8) ⟨105, 12, 105, 30⟩ ⟨105, 43, 105, 55⟩).list, .call (.ref 167) ⟨[.ref (d5.2 + 226 + 9)], []⟩, (gR (d3.2 + 226) (d5.2 + 226) d5.1.2.2.2).eight w.params 4 d9.1.1 (d9.1.2.2.2.1.1.map chV) d9.1.2.2.1 0),
     (some (σ.inC (N + 226) (d9.2 + 226 + 6) (d9.2 + 226 + 7) (d9.2 + 226 + 8) ⟨105, 12, 105, 30⟩ ⟨105, 43, 105, 55⟩).list, .call (.ref 167) ⟨[.ref (d5.2 + 226 + 9)], []⟩, (gR (d3.2 + 226) (d5.2 + 226) d5.1.2.2.2).eight w.params 5 d10.1.1 (d10.1.2.2.2.1.1.map chV) d10.1.2.2.1 0),
     (none, .builtin "list.__eq__" ⟨[.ref (d11.2 + 226 + 3), .ref (d11.2 + 226 + 16)], []⟩, [(d11.2 + 226 + 3, listO [.str (strOf (sent [99])) d10.1.2.1, .str ⟨#[]⟩ d11.1.2.1, .int 5 d11.1.1, .int 4 (d11.1.2.2.2.2 + 2)] 0), (d11.2 + 226 + 16, listO [.str (strOf [99]) b1, .str ⟨#[]⟩ (d11.1.2.2.2.2 + 7), .int 5 (d11.1.2.2.2.2 + 5), .int 4 (d11.1.2.2.2.2 + 11)] 0)])]
    (⟨[(sent w1, d6.1.2.1), (sent w2, d7.1.2.1)], rfl⟩, ⟨[⟨d8.2 + 226 + 1, d7.1.2.2.2.2 + 9, (sent v1, d8.1.2.1)⟩, ⟨d9.2 + 226 + 1, d8.1.2.2.2.2 + 9, (sent v2, d9.1.2.1)⟩], rfl⟩, (e1 + 4), (e2 + 3), de.2 + 226, de.1.2.2) (de.2 + 226, 0) (de.1.2.2, 0) [0, 1, 2, 3, 4, 5, 6, 7, 8, 59, 61] (by kernel_rfl)
    (oneG (gives_count [sent w1, sent w2, sent v1, sent v2, sent [99]] d3.1.1 _ (fun x hx => (S.ok x hx).plain)))
    ⟨fun b => up_iadd w b _ _ _ _ _ _ (by simp) (by simp),
      fun b => up_join w b e et _ [(w1, q1'), (w2, q2'), (v1, z1), (v2, z2), ([99], b1)] _ he (fun x hx => hs x hx) (by simp),
      up_quoted w (σ.inT (N + 226) ⟨98, 11, 98, 44⟩) e he3 [w1, w2, v1, v2, [99]] hw hs hn d2.1.1,
      fun b => up_iter w b (joinL [13, 10] [sent w1, sent w2, sent v1, sent v2, sent [99]]) d3.1.1 (words_ascii [sent w1, sent w2, sent v1, sent v2, sent [99]] S.ok),
      fun b => up_extend w b (joinL [13, 10] [sent w1, sent w2, sent v1, sent v2, sent [99]]) d4.1.1 _ _ (words_len [sent w1, sent w2, sent v1, sent v2, sent [99]] S.sm S.le),
      up_first w (σ.inF (N + 226) (d5.2 + 226 + 13) ⟨102, 28, 102, 46⟩ ⟨100, 13, 100, 29⟩) (gR (d3.2 + 226) (d5.2 + 226) d5.1.2.2.2) 1 (d5.1.2.2.2 + 17) d5.1.2.1 (sent w1) [sent w2, sent v1, sent v2, sent [99]] d5.1.1 S,
      up_next w (σ.inF (N + 226) (d5.2 + 226 + 13) ⟨102, 28, 102, 46⟩ ⟨100, 13, 100, 29⟩) (gR (d3.2 + 226) (d5.2 + 226) d5.1.2.2.2) 1 d6.1.1 d6.1.2.2.1 (sent w2) [sent v1, sent v2, sent [99]] d6.1.2.2.2.1 S.tail,
      up_next w (σ.inF (N + 226) (d5.2 + 226 + 13) ⟨104, 26, 104, 44⟩ ⟨100, 13, 100, 29⟩) (gR (d3.2 + 226) (d5.2 + 226) d5.1.2.2.2) 2 d7.1.1 d7.1.2.2.1 (sent v1) [sent v2, sent [99]] d7.1.2.2.2.1 S.tail.tail,
      up_next w (σ.inF (N + 226) (d5.2 + 226 + 13) ⟨104, 26, 104, 44⟩ ⟨100, 13, 100, 29⟩) (gR (d3.2 + 226) (d5.2 + 226) d5.1.2.2.2) 3 d8.1.1 d8.1.2.2.1 (sent v2) [sent [99]] d8.1.2.2.2.1 S.tail.tail.tail,
      up_next w (σ.inC (N + 226) (d9.2 + 226 + 6) (d9.2 + 226 + 7) (d9.2 + 226 + 8) ⟨105, 12, 105, 30⟩ ⟨105, 43, 105, 55⟩) (gR (d3.2 + 226) (d5.2 + 226) d5.1.2.2.2) 4 d9.1.1 d9.1.2.2.1 (sent [99]) [] d9.1.2.2.2.1 S.tail.tail.tail.tail,
      up_none w (σ.inC (N + 226) (d9.2 + 226 + 6) (d9.2 + 226 + 7) (d9.2 + 226 + 8) ⟨105, 12, 105, 30⟩ ⟨105, 43, 105, 55⟩) (gR (d3.2 + 226) (d5.2 + 226) d5.1.2.2.2) 5 d10.1.1 d10.1.2.2.1 d10.1.2.2.2.1,
      fun b => up_eq w b _ _ _ _ _ _ (eqlC (EqG.str' rfl) (eqlC (EqG.str' rfl) (eqlC (EqG.int' rfl) (eqlC (EqG.int' rfl) eqlN)))), trivial⟩ rfl rfl rfl rfl
end Mine
end
noncomputable section
namespace Mine
open PySem PySem.W PySem.W.X

theorem tick_2_2 (w : WK) (σ : Sv) (T : LP) (ah : Addr) (e : List Nat) (et : Tok) (e1 e2 e3 : Nat) (w1 w2 v1 v2 : List Nat) (q1' z1 u1 q2' z2 u2 : Tok) (a1 a2 : Addr) (b1 b2 : Tok)
    (he3 : e = [13] ∨ e = [10] ∨ e = [13, 10]) (hw : ∀ x ∈ ([w1, w2, v1, v2, [35], [99]] : List (List Nat)), okWord x) (hs : small [w1, w2, v1, v2, [35], [99]]) :
    Ctr (E2 w) σ.bt (.call (.ref 193) ⟨[.ref 228, .ref 232, .ref ah, .str (strOf e) et], []⟩) ((L0 T ah).seven w.params [(w1, q1'), (w2, q2')] [⟨a1, u1, (v1, z1)⟩, ⟨a2, u2, (v2, z2)⟩] [([35], b1), ([99], b2)] e1 e2 e3 ++ tups [⟨a1, u1, (v1, z1)⟩, ⟨a2, u2, (v2, z2)⟩]) (QF (fTkk (L0 T ah) w.params [(w1, q1'), (w2, q2')] [⟨a1, u1, (v1, z1)⟩, ⟨a2, u2, (v2, z2)⟩] [([35], b1), ([99], b2)] e3)) := by
  have he : e.length ≤ 2 := by rcases he3 with rfl | rfl | rfl <;> decide
  have hn : ([w1, w2, v1, v2, [35], [99]] : List (List Nat)).length ≤ 12 := Nat.le_of_ble_eq_true rfl
  have S : Sent [sent w1, sent w2, sent v1, sent v2, sent [35], sent [99]] := sent_of [w1, w2, v1, v2, [35], [99]] hw hs hn
  exact Ctr.runU (E := E2 w) den_eq rfl 100000 (fun N K p => .ent 58 (hx [0x2800000280000028a0000009140048a0024500142c000, 0x3068000000060a9]) (pcC (N + 226 + 3)) (pcAlt (N + 226 + 3)) (pcSub _) <|
    .dat 728 (hx [0x70e1c3870d1c3470d1c00285003870e000068000000000204080, 0x24488c04088902040800000481020408100a3c7800a0000e, 0x182000000004000000400000042c913004089022448912244891, 0x8a04081020406001020000002000000228009940000000, 0x8112044891224489222489040610204081020406001020000002, 0x4540142a00000000c1000000002000000200000021648980, 0x204080c002040000004000000454204081020300081000000100, 0x50000005142891326245002e44891224491124482030810204, 0x500140000014c18005cc002e6000000000060a000000014000, 0xd9b3870e1c380028000002800a60c1730002993264c990014000, 0xe9c3a68e9d3a74e9d000009d3a301023a680000268d180a10285, 0x111f40210204080fa01081020407d008408102040200000220408, 0x11a3468c48000044891274e1d3474e9d3a78e9e3c7cf1f0078f80, 0xf1d3c78f9e3e00f1f0095123128d1a34689189468d1a3448c4a3, 0x123c4891e3e7cf1f3e9ce1d3474e9d3b2]) [17, 29] (up (fIadd (N + 226 + 8) [rowV (w1, q1'), rowV (w2, q2')] [rowV (v1, z1), rowV (v2, z2)] (listO [rowV (v1, z1), rowV (v2, z2)] 2))) ((0, 0), 0) fun d1 =>
    .dat 36 (hx [0x7241c9120e4850a140048a00e]) [39] (up (fJ (joinL e [w1, w2, v1, v2, [35], [99]]))) ((0, default, 0), 0) fun d2 =>
    .dat 4 [0] [] (up (fStr (joinL [13, 10] [sent w1, sent w2, sent v1, sent v2, sent [35], sent [99]]))) ((0, 0), 0) fun d3 =>
    .dat 37 (hx [0x54a852a54a95228000000048a012]) [] (up (fIt (joinL [13, 10] [sent w1, sent w2, sent v1, sent v2, sent [35], sent [99]]))) ((0, 0, 0), 0) fun d4 =>
    .dat 2 [42] [40, 41] (up (fEx (joinL [13, 10] [sent w1, sent w2, sent v1, sent v2, sent [35], sent [99]]))) ((exL (joinL [13, 10] [sent w1, sent w2, sent v1, sent v2, sent [35], sent [99]]), 0, default, 0), 0) fun d5 =>
    .dat 579 (hx [0x2b5800000, 0x2e00b800000b97805cbc02e5e0000000000005c017000000000, 0x16ac5a0002e000002e00b802e000002e5ebd6ac5a0002e000002e, 0x2e00b802e000002e5eb562d000170000017005c01700000172f, 0x170000017005c01700000172b000000100a95805ab168000b8000, 0x15ad58b4000, 0x1a006801a000001a3500d1a8068d4000000000000d00340000000, 0x1ab364cc00068000006801a00680000068d5ab364cc0006800000, 0x6801a00680000068d59b26600034000003400d00340000034, 0x1bb76edc00002ddbb76eddb922448500000000b18cd9330001a00, 0x200000021600001244890a00005091401bb86ee1c3870e1c38, 0x66d00000001a000001a000001a0c0608000000010001a]) [51, 50, 45, 44, 49, 43, 40, 53] (up (fTk (gR (d3.2 + 226) (d5.2 + 226) d5.1.2.2.2) w.params (strOf (sent w1)) 1 (after [sent w2, sent v1, sent v2, sent [35], sent [99]]))) ((0, 0, 0, exL (after [sent w2, sent v1, sent v2, sent [35], sent [99]]), 0), 0) fun d6 =>
    .dat 154 (hx [0x2047210204080c0020400000040000004e40387201c390000000, 0x100000010b00000922448500002848a00ddc3770e1c3870e0203, 0x33680000000d000000d000000d06030400000000800001b]) [51, 50, 45, 44, 49, 43, 40, 53] (up (fTk (gR (d3.2 + 226) (d5.2 + 226) d5.1.2.2.2) w.params (strOf (sent w2)) 2 (after [sent v1, sent v2, sent [35], sent [99]]))) ((0, 0, 0, exL (after [sent v1, sent v2, sent [35], sent [99]]), 0), 0) fun d7 =>
    .dat 155 (hx [0x2047410204080c0020400000040000004e80397401cba0000000, 0x280000028a00000922448500002848a00ddc3770e1c3870e0203, 0x33680000000d000000d000000d06060a00000001400001b]) [51, 50, 45, 44, 49, 43, 40, 53] (up (fTk (gR (d3.2 + 226) (d5.2 + 226) d5.1.2.2.2) w.params (strOf (sent v1)) 3 (after [sent v2, sent [35], sent [99]]))) ((0, 0, 0, exL (after [sent v2, sent [35], sent [99]]), 0), 0) fun d8 =>
    .dat 157 (hx [0x1dbb0c14000001400000140000015d8074ec03a7601d3b0000000, 0x51400001244890a00005091401bb86ee1c3870e1c050814005, 0x66d00000001a000001a000001a0c0c140000000280000028001e]) [51, 50, 45, 44, 49, 43, 40, 53] (up (fTk (gR (d3.2 + 226) (d5.2 + 226) d5.1.2.2.2) w.params (strOf (sent v2)) 4 (after [sent [35], sent [99]]))) ((0, 0, 0, exL (after [sent [35], sent [99]]), 0), 0) fun d9 =>
    .dat 149 (hx [0x1ebd0c14000001400000140000015e8078f403c7a01e3d0000000, 0x218c040a1c200000c285043c10e1e0871501c3870e1c050814005, 0x1a000001a000001a0c8914042870a1c3870e1c300000c3, 0x33683]) [51, 50, 45, 44, 49, 43, 40, 53] (up (fTk (gR (d3.2 + 226) (d5.2 + 226) d5.1.2.2.2) w.params (strOf (sent [35])) 5 (after [sent [99]]))) ((0, 0, 0, exL (after [sent [99]]), 0), 0) fun d10 =>
    .dat 48 (hx [0x19b40000000680000068000006832245010a1c2870e1c3890e244, 0x1]) [51, 50, 45, 44, 49, 43, 40, 53] (up (fTk (gR (d3.2 + 226) (d5.2 + 226) d5.1.2.2.2) w.params (strOf (sent [99])) 6 (after []))) ((0, 0, 0, exL (after []), 0), 0) fun d11 =>
    .dat 48 (hx [0x19b40000000680000068000006832245010a1c2870e1c3890e244, 0x1]) [51, 50, 45, 44, 49, 43, 40, 53] (up (fTk (gR (d3.2 + 226) (d5.2 + 226) d5.1.2.2.2) w.params ⟨#[]⟩ 6 [])) ((0, 0, 0, exL [], 0), 0) fun d12 =>
    .pur 58 (hx [0x14cc0346800000680000068322458b1e143850e1c387121c489d]) (.int 5) <|
    .dat 264 (hx [0xa1424500952a507241c9120e4850a000048a01222488912444, 0x197325cc993264d9b326cb992e64c99326cc9600001972c500, 0x28d1a34a8d000000d0a0280009b326cf97325cc993264d9b32680, 0x2a50a3428d1a346952a34800003428d0a3468d1a54a8d2a146851, 0x9200001935a4d50f54387aa1e951a51]) [72, 85] (up (fE2 )) ((default, default, 0), 0) fun de =>
    .fin 2 []) fun N K p d1 d2 d3 d4 d5 d6 d7 d8 d9 d10 d11 d12 de => .mk' [(.builtin "str.count" ⟨[.str (strOf (joinL [13, 10] [sent w1, sent w2, sent v1, sent v2, sent [35], sent [99]])) d3.1.1, .str ⟨#[13, 10]⟩ (d12.1.2.2.2.2 + 1)], []⟩, .int 5)]
    [(none, .builtin "list.__iadd__" ⟨[.ref (N + 226 + 8), .ref (N + 226 + 20)], []⟩, [(N + 226 + 8, listO [rowV (w1, q1'), rowV (w2, q2')] 2), (N + 226 + 20, listO [rowV (v1, z1), rowV (v2, z2)] 2)]),
     (none, .builtin "str.join" ⟨[.str (strOf e) et, .ref (d1.2 + 226 + 0)], []⟩, [(d1.2 + 226 + 0, (listO (wsV [(w1, q1'), (w2, q2'), (v1, z1), (v2, z2), ([35], b1), ([99], b2)]) 0))]),
     (some (σ.inT (N + 226) ⟨98, 11, 98, 44⟩).tl, .call (.ref 55) ⟨[.str (strOf (joinL e [w1, w2, v1, v2, [35], [99]])) d2.1.1], []⟩, []),
     (none, .builtin "str.__iter__" ⟨[.str (strOf (joinL [13, 10] [sent w1, sent w2, sent v1, sent v2, sent [35], sent [99]])) d3.1.1], []⟩, []),
     (none, .builtin "list.extend.loop" ⟨[.ref (d3.2 + 226 + 0), .ref d4.1.2.1, .none], []⟩, [(d3.2 + 226 + 0, listO [] 0), (d4.1.2.1, strItO (strOf (joinL [13, 10] [sent w1, sent w2, sent v1, sent v2, sent [35], sent [99]])) d4.1.1 0)]),
     (some (σ.inF (N + 226) (d5.2 + 226 + 13) ⟨102, 28, 102, 46⟩ ⟨100, 13, 100, 29⟩).list, .call (.ref 167) ⟨[.ref (d5.2 + 226 + 9)], []⟩, (gR (d3.2 + 226) (d5.2 + 226) d5.1.2.2.2).eight w.params 1 (d5.1.2.2.2 + 17) (d5.1.1.1.map chV) d5.1.2.1 0),
     (some (σ.inF (N + 226) (d5.2 + 226 + 13) ⟨102, 28, 102, 46⟩ ⟨100, 13, 100, 29⟩).list, .call (.ref 167) ⟨[.ref (d5.2 + 226 + 9)], []⟩, (gR (d3.2 + 226) (d5.2 + 226) d5.1.2.2.2).eight w.params 1 d6.1.1 (d6.1.2.2.2.1.1.map chV) d6.1.2.2.1 0),
     (some (σ.inF (N + 226) (d5.2 + 226 + 13) ⟨104, 26, 104, 44⟩ ⟨100, 13, 100, 29⟩).list, .call (.ref 167) ⟨[.ref (d5.2 + 226 + 9)], []⟩, (gR (d3.2 + 226) (d5.2 + 226) d5.1.2.2.2).eight w.params 2 d7.1.1 (d7.1.2.2.2.1.1.map chV) d7.1.2.2.1 0),
     (some (σ.inF (N + 226) (d5.2 + 226 + 13) ⟨104, 26, 104, 44⟩ ⟨100, 13, 100, 29⟩).list, .call (.ref 167) ⟨[.ref (d5.2 + 226 + 9)], []⟩, (gR (d3.2 + 226) (d5.2 + 226) d5.1.2.2.2).eight w.params 3 d8.1.1 (d8.1.2.2.2.1.1.map chV) d8.1.2.2.1 0),
     (some (σ.inC (N + 226) (d9.2 + 226 + 6) (d9.2 + 226 + 7) (d9.2 + 226 + 8) ⟨105, 12, 105, 30⟩ ⟨105, 43, 105, 55⟩).list, .call (.ref 167) ⟨[.ref (d5.2 + 226 + 9)], []⟩, (gR (d3.2 + 226) (d5.2 + 226) d5.1.2.2.2).eight w.params 4 d9.1.1 (d9.1.2.2.2.1.1.map chV) d9.1.2.2.1 0),
     (some (σ.inC (N + 226) (d9.2 + 226 + 6) (d9.2 + 226 + 7) (d9.2 + 226 + 8) ⟨105, 12, 105, 30⟩ ⟨105, 43, 105, 55⟩).list, .call (.ref 167) ⟨[.ref (d5.2 + 226 + 9)], []⟩, (gR (d3.2 + 226) (d5.2 + 226) d5.1.2.2.2).eight w.params 5 d10.1.1 (d10.1.2.2.2.1.1.map chV) d10.1.2.2.1 0),
     (some (σ.inC (N + 226) (d9.2 + 226 + 6) (d9.2 + 226 + 7) (d9.2 + 226 + 8) ⟨105, 12, 105, 30⟩ ⟨105, 43, 105, 55⟩).list, .call (.ref 167) ⟨[.ref (d5.2 + 226 + 9)], []⟩, (gR (d3.2 + 226) (d5.2 + 226) d5.1.2.2.2).eight w.params 6 d11.1.1 (d11.1.2.2.2.1.1.map chV) d11.1.2.2.1 0),
     (none, .builtin "list.__eq__" ⟨[.ref (d12.2 + 226 + 3), .ref (d12.2 + 226 + 16)], []⟩, [(d12.2 + 226 + 3, listO [.str (strOf (sent [35])) d10.1.2.1, .str (strOf (sent [99])) d11.1.2.1, .str ⟨#[]⟩ d12.1.2.1, .int 6 d12.1.1, .int 5 (d12.1.2.2.2.2 + 2)] 0), (d12.2 + 226 + 16, listO [.str (strOf [35]) b1, .str (strOf [99]) b2, .str ⟨#[]⟩ (d12.1.2.2.2.2 + 7), .int 6 (d12.1.2.2.2.2 + 5), .int 5 (d12.1.2.2.2.2 + 11)] 0)])]
    (⟨[(sent w1, d6.1.2.1), (sent w2, d7.1.2.1)], rfl⟩, ⟨[⟨d8.2 + 226 + 1, d7.1.2.2.2.2 + 9, (sent v1, d8.1.2.1)⟩, ⟨d9.2 + 226 + 1, d8.1.2.2.2.2 + 9, (sent v2, d9.1.2.1)⟩], rfl⟩, (e1 + 4), (e2 + 3), de.2 + 226, de.1.2.2) (de.2 + 226, 0) (de.1.2.2, 0) [0, 1, 2, 3, 4, 5, 6, 7, 8, 59, 61] (by kernel_rfl)
    (oneG (gives_count [sent w1, sent w2, sent v1, sent v2, sent [35], sent [99]] d3.1.1 _ (fun x hx => (S.ok x hx).plain)))
    ⟨fun b => up_iadd w b _ _ _ _ _ _ (by simp) (by simp),
      fun b => up_join w b e et _ [(w1, q1'), (w2, q2'), (v1, z1), (v2, z2), ([35], b1), ([99], b2)] _ he (fun x hx => hs x hx) (by simp),
      up_quoted w (σ.inT (N + 226) ⟨98, 11, 98, 44⟩) e he3 [w1, w2, v1, v2, [35], [99]] hw hs hn d2.1.1,
      fun b => up_iter w b (joinL [13, 10] [sent w1, sent w2, sent v1, sent v2, sent [35], sent [99]]) d3.1.1 (words_ascii [sent w1, sent w2, sent v1, sent v2, sent [35], sent [99]] S.ok),
      fun b => up_extend w b (joinL [13, 10] [sent w1, sent w2, sent v1, sent v2, sent [35], sent [99]]) d4.1.1 _ _ (words_len [sent w1, sent w2, sent v1, sent v2, sent [35], sent [99]] S.sm S.le),
      up_first w (σ.inF (N + 226) (d5.2 + 226 + 13) ⟨102, 28, 102, 46⟩ ⟨100, 13, 100, 29⟩) (gR (d3.2 + 226) (d5.2 + 226) d5.1.2.2.2) 1 (d5.1.2.2.2 + 17) d5.1.2.1 (sent w1) [sent w2, sent v1, sent v2, sent [35], sent [99]] d5.1.1 S,
      up_next w (σ.inF (N + 226) (d5.2 + 226 + 13) ⟨102, 28, 102, 46⟩ ⟨100, 13, 100, 29⟩) (gR (d3.2 + 226) (d5.2 + 226) d5.1.2.2.2) 1 d6.1.1 d6.1.2.2.1 (sent w2) [sent v1, sent v2, sent [35], sent [99]] d6.1.2.2.2.1 S.tail,
      up_next w (σ.inF (N + 226) (d5.2 + 226 + 13) ⟨104, 26, 104, 44⟩ ⟨100, 13, 100, 29⟩) (gR (d3.2 + 226) (d5.2 + 226) d5.1.2.2.2) 2 d7.1.1 d7.1.2.2.1 (sent v1) [sent v2, sent [35], sent [99]] d7.1.2.2.2.1 S.tail.tail,
      up_next w (σ.inF (N + 226) (d5.2 + 226 + 13) ⟨104, 26, 104, 44⟩ ⟨100, 13, 100, 29⟩) (gR (d3.2 + 226) (d5.2 + 226) d5.1.2.2.2) 3 d8.1.1 d8.1.2.2.1 (sent v2) [sent [35], sent [99]] d8.1.2.2.2.1 S.tail.tail.tail,
      up_next w (σ.inC (N + 226) (d9.2 + 226 + 6) (d9.2 + 226 + 7) (d9.2 + 226 + 8) ⟨105, 12, 105, 30⟩ ⟨105, 43, 105, 55⟩) (gR (d3.2 + 226) (d5.2 + 226) d5.1.2.2.2) 4 d9.1.1 d9.1.2.2.1 (sent [35]) [sent [99]] d9.1.2.2.2.1 S.tail.tail.tail.tail,
      up_next w (σ.inC (N + 226) (d9.2 + 226 + 6) (d9.2 + 226 + 7) (d9.2 + 226 + 8) ⟨105, 12, 105, 30⟩ ⟨105, 43, 105, 55⟩) (gR (d3.2 + 226) (d5.2 + 226) d5.1.2.2.2) 5 d10.1.1 d10.1.2.2.1 (sent [99]) [] d10.1.2.2.2.1 S.tail.tail.tail.tail.tail,
      up_none w (σ.inC (N + 226) (d9.2 + 226 + 6) (d9.2 + 226 + 7) (d9.2 + 226 + 8) ⟨105, 12, 105, 30⟩ ⟨105, 43, 105, 55⟩) (gR (d3.2 + 226) (d5.2 + 226) d5.1.2.2.2) 6 d11.1.1 d11.1.2.2.1 d11.1.2.2.2.1,
      fun b => up_eq w b _ _ _ _ _ _ (eqlC (EqG.str' rfl) (eqlC (EqG.str' rfl) (eqlC (EqG.str' rfl) (eqlC (EqG.int' rfl) (eqlC (EqG.int' rfl) eqlN))))), trivial⟩ rfl rfl rfl rfl
end Mine
end
noncomputable section
namespace Mine
open PySem PySem.W PySem.W.X

theorem tick_3_0 (w : WK) (σ : Sv) (T : LP) (ah : Addr) (e : List Nat) (et : Tok) (e1 e2 e3 : Nat) (w1 w2 w3 v1 v2 v3 : List Nat) (q1' z1 u1 q2' z2 u2 q3' z3 u3 : Tok) (a1 a2 a3 : Addr)
    (he3 : e = [13] ∨ e = [10] ∨ e = [13, 10]) (hw : ∀ x ∈ ([w1, w2, w3, v1, v2, v3] : List (List Nat)), okWord x) (hs : small [w1, w2, w3, v1, v2, v3]) :
    Ctr (E2 w) σ.bt (.call (.ref 193) ⟨[.ref 228, .ref 232, .ref ah, .str (strOf e) et], []⟩) ((L0 T ah).seven w.params [(w1, q1'), (w2, q2'), (w3, q3')] [⟨a1, u1, (v1, z1)⟩, ⟨a2, u2, (v2, z2)⟩, ⟨a3, u3, (v3, z3)⟩] [] e1 e2 e3 ++ tups [⟨a1, u1, (v1, z1)⟩, ⟨a2, u2, (v2, z2)⟩, ⟨a3, u3, (v3, z3)⟩]) (QF (fTkk (L0 T ah) w.params [(w1, q1'), (w2, q2'), (w3, q3')] [⟨a1, u1, (v1, z1)⟩, ⟨a2, u2, (v2, z2)⟩, ⟨a3, u3, (v3, z3)⟩] [] e3)) := by
  have he : e.length ≤ 2 := by rcases he3 with rfl | rfl | rfl <;> decide
  have hn : ([w1, w2, w3, v1, v2, v3] : List (List Nat)).length ≤ 12 := Nat.le_of_ble_eq_true rfl
  have S : Sent [sent w1, sent w2, sent w3, sent v1, sent v2, sent v3] := sent_of [w1, w2, w3, v1, v2, v3] hw hs hn
  exact Ctr.runU (E := E2 w) den_eq rfl 100000 (fun N K p => .ent 58 (hx [0x2800000280000028b000000a160050b00285801630000, 0x3470000000060a9]) (pcC (N + 226 + 3)) (pcAlt (N + 226 + 3)) (pcSub _) <|
    .dat 946 (hx [0x78f1e3c78e1e3878e1e00285003c78f000070000000000204080, 0x24890c04089112244880000489122448910a408000a0000f, 0x1820000000040000004000000430994004491124489122448912, 0x8a8408102040600102000000200000022a00a150000000, 0x89222489122448913244c9840610204081020406001020000002, 0x4580152c00000000c100000000200000020000002184ca00, 0x204080c002040000004000000458204081020300081000000100, 0x4000000430994004491124489122448992264c2030810204, 0x2040600102000000200000022e00b17000000006080000000100, 0x913244c984061020408102040600102000000200000022e10204, 0xc1400000002800000280000028b164ca14142c0192448912, 0x5366cd9b360028000002800a000000a68d0032680193400000, 0xe000004e1c34142050a74e9e3c78f1e001400000140053468c9a, 0x112244884000004408107cf1f387cf9f3e7cf800004f9f180811f, 0x101f40810a0420102100910a21089122448510844891224288422, 0x122512952a54a912894a952a54a2400002244893e78f9c3e7cf9f, 0x50a147cf1f387cf9f3e80fa0408502100810804e912894a952a5, 0x102100a93a814a1428509d40a50a14284ea052850a14281400001, 0x13404c9a0428502142b0f1f387cf9f3e80fa0408502101a]) [18, 31] (up (fIadd (N + 226 + 8) [rowV (w1, q1'), rowV (w2, q2'), rowV (w3, q3')] [rowV (v1, z1), rowV (v2, z2), rowV (v3, z3)] (listO [rowV (v1, z1), rowV (v2, z2), rowV (v3, z3)] 3))) ((0, 0), 0) fun d1 =>
    .dat 36 (hx [0x7261c9930e4c58b160050b00e]) [44] (up (fJ (joinL e [w1, w2, w3, v1, v2, v3]))) ((0, default, 0), 0) fun d2 =>
    .dat 4 [0] [] (up (fStr (joinL [13, 10] [sent w1, sent w2, sent w3, sent v1, sent v2, sent v3]))) ((0, 0), 0) fun d3 =>
    .dat 37 (hx [0x572d5cb972e5c2c000000050b012]) [] (up (fIt (joinL [13, 10] [sent w1, sent w2, sent w3, sent v1, sent v2, sent v3]))) ((0, 0, 0), 0) fun d4 =>
    .dat 2 [47] [45, 46] (up (fEx (joinL [13, 10] [sent w1, sent w2, sent w3, sent v1, sent v2, sent v3]))) ((exL (joinL [13, 10] [sent w1, sent w2, sent w3, sent v1, sent v2, sent v3]), 0, default, 0), 0) fun d5 =>
    .dat 579 (hx [0x306200000, 0x3300cc00000cda0066d00336800000000000066019800000000, 0x19316400033000003300cc033000003368d193164000330000033, 0x3300cc033000003368c98b200019800001980660198000019b4, 0x19800001980660198000019b0000000100bd80064c590000cc000, 0x183262c8000, 0x1c807201c800001cba00e5d0072e8000000000000e40390000000, 0x1d386ee000072000007201c80720000072e9d386ee00007200000, 0x7201c80720000072e9c377000039000003900e40390000039, 0x1e3c78f000002f1e3c78f1e13264c580000000c1ae1bb80001c80, 0x200000021800001264c98b000058a1601e3d78f5ebd7af5ebd, 0x70e40000001c800001c800001c8d0608000000010001a]) [56, 55, 50, 49, 54, 48, 45, 58] (up (fTk (gR (d3.2 + 226) (d5.2 + 226) d5.1.2.2.2) w.params (strOf (sent w1)) 1 (after [sent w2, sent w3, sent v1, sent v2, sent v3]))) ((0, 0, 0, exL (after [sent w2, sent w3, sent v1, sent v2, sent v3]), 0), 0) fun d6 =>
    .dat 154 (hx [0x2047c10204080c0020400000040000004f803d7c01ebe0000000, 0x100000010c0000093264c580002c50b00f1ebc7af5ebd7af4203, 0x38720000000e400000e400000e46830400000000800001b]) [56, 55, 50, 49, 54, 48, 45, 58] (up (fTk (gR (d3.2 + 226) (d5.2 + 226) d5.1.2.2.2) w.params (strOf (sent w2)) 2 (after [sent w3, sent v1, sent v2, sent v3]))) ((0, 0, 0, exL (after [sent w3, sent v1, sent v2, sent v3]), 0), 0) fun d7 =>
    .dat 154 (hx [0x2047e10204080c0020400000040000004fc03e7e01f3f0000000, 0x100000010c0000093264c580002c50b00f1ebc7af5ebd7af4203, 0x38720000000e400000e400000e46830400000000800001b]) [56, 55, 50, 49, 54, 48, 45, 58] (up (fTk (gR (d3.2 + 226) (d5.2 + 226) d5.1.2.2.2) w.params (strOf (sent w3)) 3 (after [sent v1, sent v2, sent v3]))) ((0, 0, 0, exL (after [sent v1, sent v2, sent v3]), 0), 0) fun d8 =>
    .dat 155 (hx [0x2048010204080c00204000000400000050003f8001fc00000000, 0x280000028b0000093264c580002c50b00f1ebc7af5ebd7af4203, 0x38720000000e400000e400000e46860a00000001400001b]) [56, 55, 50, 49, 54, 48, 45, 58] (up (fTk (gR (d3.2 + 226) (d5.2 + 226) d5.1.2.2.2) w.params (strOf (sent v1)) 4 (after [sent v2, sent v3]))) ((0, 0, 0, exL (after [sent v2, sent v3]), 0), 0) fun d9 =>
    .dat 157 (hx [0x20c10c14000001400000140000016080810404082020410000000, 0x51600001264c98b000058a1601e3d78f5ebd7af5e850814005, 0x70e40000001c800001c800001c8d0c140000000280000028001e]) [56, 55, 50, 49, 54, 48, 45, 58] (up (fTk (gR (d3.2 + 226) (d5.2 + 226) d5.1.2.2.2) w.params (strOf (sent v2)) 5 (after [sent v3]))) ((0, 0, 0, exL (after [sent v3]), 0), 0) fun d10 =>
    .dat 157 (hx [0x21c30c14000001400000140000016180850c04286021430000000, 0x51600001264c98b000058a1601e3d78f5ebd7af5e850814005, 0x70e40000001c800001c800001c8d0c140000000280000028001e]) [56, 55, 50, 49, 54, 48, 45, 58] (up (fTk (gR (d3.2 + 226) (d5.2 + 226) d5.1.2.2.2) w.params (strOf (sent v3)) 6 (after []))) ((0, 0, 0, exL (after []), 0), 0) fun d11 =>
    .dat 149 (hx [0x22c50c1400000140000014000001628089140448a022450000000, 0x258c040a5ca00000ca95243c90e1e4871721ebd7af5e850814005, 0x1c800001c800001c8d993404a972a5cb972e5cb00000cb, 0x38723]) [56, 55, 50, 49, 54, 48, 45, 58] (up (fTk (gR (d3.2 + 226) (d5.2 + 226) d5.1.2.2.2) w.params ⟨#[]⟩ 6 [])) ((0, 0, 0, exL [], 0), 0) fun d12 =>
    .pur 58 (hx [0x16e003972000007200000723664d9b3e54b952e5cb97325cc99d]) (.int 5) <|
    .dat 264 (hx [0xb1628580a54a907261c9930e4c58b000050b0142650993284c, 0x1a7529d4a952a55ab52ad3a94ea54a952ad4a600001a74c580, 0x2cd9b36acd800000d8b02c000ab52ad7a7529d4a952a55ab52a80, 0x2e58b362cd9b366d5ab3680000362cd8b366cd9b56acdab166c59, 0xa200001a37a8dd0f74387ba1ed59b51]) [80, 93] (up (fE2 )) ((default, default, 0), 0) fun de =>
    .fin 2 []) fun N K p d1 d2 d3 d4 d5 d6 d7 d8 d9 d10 d11 d12 de => .mk' [(.builtin "str.count" ⟨[.str (strOf (joinL [13, 10] [sent w1, sent w2, sent w3, sent v1, sent v2, sent v3])) d3.1.1, .str ⟨#[13, 10]⟩ (d12.1.2.2.2.2 + 1)], []⟩, .int 5)]
    [(none, .builtin "list.__iadd__" ⟨[.ref (N + 226 + 8), .ref (N + 226 + 21)], []⟩, [(N + 226 + 8, listO [rowV (w1, q1'), rowV (w2, q2'), rowV (w3, q3')] 3), (N + 226 + 21, listO [rowV (v1, z1), rowV (v2, z2), rowV (v3, z3)] 3)]),
     (none, .builtin "str.join" ⟨[.str (strOf e) et, .ref (d1.2 + 226 + 0)], []⟩, [(d1.2 + 226 + 0, (listO (wsV [(w1, q1'), (w2, q2'), (w3, q3'), (v1, z1), (v2, z2), (v3, z3)]) 0))]),
     (some (σ.inT (N + 226) ⟨98, 11, 98, 44⟩).tl, .call (.ref 55) ⟨[.str (strOf (joinL e [w1, w2, w3, v1, v2, v3])) d2.1.1], []⟩, []),
     (none, .builtin "str.__iter__" ⟨[.str (strOf (joinL [13, 10] [sent w1, sent w2, sent w3, sent v1, sent v2, sent v3])) d3.1.1], []⟩, []),
     (none, .builtin "list.extend.loop" ⟨[.ref (d3.2 + 226 + 0), .ref d4.1.2.1, .none], []⟩, [(d3.2 + 226 + 0, listO [] 0), (d4.1.2.1, strItO (strOf (joinL [13, 10] [sent w1, sent w2, sent w3, sent v1, sent v2, sent v3])) d4.1.1 0)]),
     (some (σ.inF (N + 226) (d5.2 + 226 + 13) ⟨102, 28, 102, 46⟩ ⟨100, 13, 100, 29⟩).list, .call (.ref 167) ⟨[.ref (d5.2 + 226 + 9)], []⟩, (gR (d3.2 + 226) (d5.2 + 226) d5.1.2.2.2).eight w.params 1 (d5.1.2.2.2 + 17) (d5.1.1.1.map chV) d5.1.2.1 0),
     (some (σ.inF (N + 226) (d5.2 + 226 + 13) ⟨102, 28, 102, 46⟩ ⟨100, 13, 100, 29⟩).list, .call (.ref 167) ⟨[.ref (d5.2 + 226 + 9)], []⟩, (gR (d3.2 + 226) (d5.2 + 226) d5.1.2.2.2).eight w.params 1 d6.1.1 (d6.1.2.2.2.1.1.map chV) d6.1.2.2.1 0),
     (some (σ.inF (N + 226) (d5.2 + 226 + 13) ⟨102, 28, 102, 46⟩ ⟨100, 13, 100, 29⟩).list, .call (.ref 167) ⟨[.ref (d5.2 + 226 + 9)], []⟩, (gR (d3.2 + 226) (d5.2 + 226) d5.1.2.2.2).eight w.params 2 d7.1.1 (d7.1.2.2.2.1.1.map chV) d7.1.2.2.1 0),
     (some (σ.inF (N + 226) (d5.2 + 226 + 13) ⟨104, 26, 104, 44⟩ ⟨100, 13, 100, 29⟩).list, .call (.ref 167) ⟨[.ref (d5.2 + 226 + 9)], []⟩, (gR (d3.2 + 226) (d5.2 + 226) d5.1.2.2.2).eight w.params 3 d8.1.1 (d8.1.2.2.2.1.1.map chV) d8.1.2.2.1 0),
     (some (σ.inF (N + 226) (d5.2 + 226 + 13) ⟨104, 26, 104, 44⟩ ⟨100, 13, 100, 29⟩).list, .call (.ref 167) ⟨[.ref (d5.2 + 226 + 9)], []⟩, (gR (d3.2 + 226) (d5.2 + 226) d5.1.2.2.2).eight w.params 4 d9.1.1 (d9.1.2.2.2.1.1.map chV) d9.1.2.2.1 0),
     (some (σ.inF (N + 226) (d5.2 + 226 + 13) ⟨104, 26, 104, 44⟩ ⟨100, 13, 100, 29⟩).list, .call (.ref 167) ⟨[.ref (d5.2 + 226 + 9)], []⟩, (gR (d3.2 + 226) (d5.2 + 226) d5.1.2.2.2).eight w.params 5 d10.1.1 (d10.1.2.2.2.1.1.map chV) d10.1.2.2.1 0),
     (some (σ.inC (N + 226) (d11.2 + 226 + 6) (d11.2 + 226 + 7) (d11.2 + 226 + 8) ⟨105, 12, 105, 30⟩ ⟨105, 43, 105, 55⟩).list, .call (.ref 167) ⟨[.ref (d5.2 + 226 + 9)], []⟩, (gR (d3.2 + 226) (d5.2 + 226) d5.1.2.2.2).eight w.params 6 d11.1.1 (d11.1.2.2.2.1.1.map chV) d11.1.2.2.1 0),
     (none, .builtin "list.__eq__" ⟨[.ref (d12.2 + 226 + 3), .ref (d12.2 + 226 + 16)], []⟩, [(d12.2 + 226 + 3, listO [.str ⟨#[]⟩ d12.1.2.1, .int 6 d12.1.1, .int 5 (d12.1.2.2.2.2 + 2)] 0), (d12.2 + 226 + 16, listO [.str ⟨#[]⟩ (d12.1.2.2.2.2 + 7), .int 6 (d12.1.2.2.2.2 + 5), .int 5 (d12.1.2.2.2.2 + 11)] 0)])]
    (⟨[(sent w1, d6.1.2.1), (sent w2, d7.1.2.1), (sent w3, d8.1.2.1)], rfl⟩, ⟨[⟨d9.2 + 226 + 1, d8.1.2.2.2.2 + 9, (sent v1, d9.1.2.1)⟩, ⟨d10.2 + 226 + 1, d9.1.2.2.2.2 + 9, (sent v2, d10.1.2.1)⟩, ⟨d11.2 + 226 + 1, d10.1.2.2.2.2 + 9, (sent v3, d11.1.2.1)⟩], rfl⟩, (e1 + 6), (e2 + 4), de.2 + 226, de.1.2.2) (de.2 + 226, 0) (de.1.2.2, 0) [0, 1, 2, 3, 4, 5, 6, 7, 8, 9, 65, 67, 69] (by kernel_rfl)
    (oneG (gives_count [sent w1, sent w2, sent w3, sent v1, sent v2, sent v3] d3.1.1 _ (fun x hx => (S.ok x hx).plain)))
    ⟨fun b => up_iadd w b _ _ _ _ _ _ (by simp) (by simp),
      fun b => up_join w b e et _ [(w1, q1'), (w2, q2'), (w3, q3'), (v1, z1), (v2, z2), (v3, z3)] _ he (fun x hx => hs x hx) (by simp),
      up_quoted w (σ.inT (N + 226) ⟨98, 11, 98, 44⟩) e he3 [w1, w2, w3, v1, v2, v3] hw hs hn d2.1.1,
      fun b => up_iter w b (joinL [13, 10] [sent w1, sent w2, sent w3, sent v1, sent v2, sent v3]) d3.1.1 (words_ascii [sent w1, sent w2, sent w3, sent v1, sent v2, sent v3] S.ok),
      fun b => up_extend w b (joinL [13, 10] [sent w1, sent w2, sent w3, sent v1, sent v2, sent v3]) d4.1.1 _ _ (words_len [sent w1, sent w2, sent w3, sent v1, sent v2, sent v3] S.sm S.le),
      up_first w (σ.inF (N + 226) (d5.2 + 226 + 13) ⟨102, 28, 102, 46⟩ ⟨100, 13, 100, 29⟩) (gR (d3.2 + 226) (d5.2 + 226) d5.1.2.2.2) 1 (d5.1.2.2.2 + 17) d5.1.2.1 (sent w1) [sent w2, sent w3, sent v1, sent v2, sent v3] d5.1.1 S,
      up_next w (σ.inF (N + 226) (d5.2 + 226 + 13) ⟨102, 28, 102, 46⟩ ⟨100, 13, 100, 29⟩) (gR (d3.2 + 226) (d5.2 + 226) d5.1.2.2.2) 1 d6.1.1 d6.1.2.2.1 (sent w2) [sent w3, sent v1, sent v2, sent v3] d6.1.2.2.2.1 S.tail,
      up_next w (σ.inF (N + 226) (d5.2 + 226 + 13) ⟨102, 28, 102, 46⟩ ⟨100, 13, 100, 29⟩) (gR (d3.2 + 226) (d5.2 + 226) d5.1.2.2.2) 2 d7.1.1 d7.1.2.2.1 (sent w3) [sent v1, sent v2, sent v3] d7.1.2.2.2.1 S.tail.tail,
      up_next w (σ.inF (N + 226) (d5.2 + 226 + 13) ⟨104, 26, 104, 44⟩ ⟨100, 13, 100, 29⟩) (gR (d3.2 + 226) (d5.2 + 226) d5.1.2.2.2) 3 d8.1.1 d8.1.2.2.1 (sent v1) [sent v2, sent v3] d8.1.2.2.2.1 S.tail.tail.tail,
      up_next w (σ.inF (N + 226) (d5.2 + 226 + 13) ⟨104, 26, 104, 44⟩ ⟨100, 13, 100, 29⟩) (gR (d3.2 + 226) (d5.2 + 226) d5.1.2.2.2) 4 d9.1.1 d9.1.2.2.1 (sent v2) [sent v3] d9.1.2.2.2.1 S.tail.tail.tail.tail,
      up_next w (σ.inF (N + 226) (d5.2 + 226 + 13) ⟨104, 26, 104, 44⟩ ⟨100, 13, 100, 29⟩) (gR (d3.2 + 226) (d5.2 + 226) d5.1.2.2.2) 5 d10.1.1 d10.1.2.2.1 (sent v3) [] d10.1.2.2.2.1 S.tail.tail.tail.tail.tail,
      up_none w (σ.inC (N + 226) (d11.2 + 226 + 6) (d11.2 + 226 + 7) (d11.2 + 226 + 8) ⟨105, 12, 105, 30⟩ ⟨105, 43, 105, 55⟩) (gR (d3.2 + 226) (d5.2 + 226) d5.1.2.2.2) 6 d11.1.1 d11.1.2.2.1 d11.1.2.2.2.1,
      fun b => up_eq w b _ _ _ _ _ _ (eqlC (EqG.str' rfl) (eqlC (EqG.int' rfl) (eqlC (EqG.int' rfl) eqlN))), trivial⟩ rfl rfl rfl rfl
end Mine
end
noncomputable section
namespace Mine
open PySem PySem.W PySem.W.X

theorem tick_3_1 (w : WK) (σ : Sv) (T : LP) (ah : Addr) (e : List Nat) (et : Tok) (e1 e2 e3 : Nat) (w1 w2 w3 v1 v2 v3 : List Nat) (q1' z1 u1 q2' z2 u2 q3' z3 u3 : Tok) (a1 a2 a3 : Addr) (b1 : Tok)
    (he3 : e = [13] ∨ e = [10] ∨ e = [13, 10]) (hw : ∀ x ∈ ([w1, w2, w3, v1, v2, v3, [99]] : List (List Nat)), okWord x) (hs : small [w1, w2, w3, v1, v2, v3, [99]]) :
    Ctr (E2 w) σ.bt (.call (.ref 193) ⟨[.ref 228, .ref 232, .ref ah, .str (strOf e) et], []⟩) ((L0 T ah).seven w.params [(w1, q1'), (w2, q2'), (w3, q3')] [⟨a1, u1, (v1, z1)⟩, ⟨a2, u2, (v2, z2)⟩, ⟨a3, u3, (v3, z3)⟩] [([99], b1)] e1 e2 e3 ++ tups [⟨a1, u1, (v1, z1)⟩, ⟨a2, u2, (v2, z2)⟩, ⟨a3, u3, (v3, z3)⟩]) (QF (fTkk (L0 T ah) w.params [(w1, q1'), (w2, q2'), (w3, q3')] [⟨a1, u1, (v1, z1)⟩, ⟨a2, u2, (v2, z2)⟩, ⟨a3, u3, (v3, z3)⟩] [([99], b1)] e3)) := by
  have he : e.length ≤ 2 := by rcases he3 with rfl | rfl | rfl <;> decide
  have hn : ([w1, w2, w3, v1, v2, v3, [99]] : List (List Nat)).length ≤ 12 := Nat.le_of_ble_eq_true rfl
  have S : Sent [sent w1, sent w2, sent w3, sent v1, sent v2, sent v3, sent [99]] := sent_of [w1, w2, w3, v1, v2, v3, [99]] hw hs hn
  exact Ctr.runU (E := E2 w) den_eq rfl 100000 (fun N K p => .ent 58 (hx [0x2800000280000028b000000a160050b00285801630000, 0x3470000000060a9]) (pcC (N + 226 + 3)) (pcAlt (N + 226 + 3)) (pcSub _) <|
    .dat 946 (hx [0x78f1e3c78e1e3878e1e00285003c78f000070000000000204080, 0x24890c04089112244880000489122448910a408000a0000f, 0x1820000000040000004000000430994004491124489122448912, 0x8a8408102040600102000000200000022a00a150000000, 0x89222489122448913244c9840610204081020406001020000002, 0x4580152c00000000c100000000200000020000002184ca00, 0x204080c002040000004000000458204081020300081000000100, 0x4000000430994004491124489122448992264c2030810204, 0x2040600102000000200000022e00b17000000006080000000100, 0x913244c984061020408102040600102000000200000022e10204, 0xc1400000002800000280000028b164ca14142c0192448912, 0x5366cd9b360028000002800a000000a68d0032680193400000, 0xe000004e1c34142050a74e9e3c78f1e001400000140053468c9a, 0x112244884000004408107cf1f387cf9f3e7cf800004f9f180811f, 0x101f40810a0420102100910a21089122448510844891224288422, 0x122512952a54a912894a952a54a2400002244893e78f9c3e7cf9f, 0x50a147cf1f387cf9f3e80fa0408502100810804e912894a952a5, 0x102100a93a814a1428509d40a50a14284ea052850a14281400001, 0x13404c9a0428502142b0f1f387cf9f3e80fa0408502101a]) [18, 31] (up (fIadd (N + 226 + 8) [rowV (w1, q1'), rowV (w2, q2'), rowV (w3, q3')] [rowV (v1, z1), rowV (v2, z2), rowV (v3, z3)] (listO [rowV (v1, z1), rowV (v2, z2), rowV (v3, z3)] 3))) ((0, 0), 0) fun d1 =>
    .dat 36 (hx [0x7261c9930e4c58b160050b00e]) [44] (up (fJ (joinL e [w1, w2, w3, v1, v2, v3, [99]]))) ((0, default, 0), 0) fun d2 =>
    .dat 4 [0] [] (up (fStr (joinL [13, 10] [sent w1, sent w2, sent w3, sent v1, sent v2, sent v3, sent [99]]))) ((0, 0), 0) fun d3 =>
    .dat 37 (hx [0x572d5cb972e5c2c000000050b012]) [] (up (fIt (joinL [13, 10] [sent w1, sent w2, sent w3, sent v1, sent v2, sent v3, sent [99]]))) ((0, 0, 0), 0) fun d4 =>
    .dat 2 [47] [45, 46] (up (fEx (joinL [13, 10] [sent w1, sent w2, sent w3, sent v1, sent v2, sent v3, sent [99]]))) ((exL (joinL [13, 10] [sent w1, sent w2, sent w3, sent v1, sent v2, sent v3, sent [99]]), 0, default, 0), 0) fun d5 =>
    .dat 579 (hx [0x306200000, 0x3300cc00000cda0066d00336800000000000066019800000000, 0x19316400033000003300cc033000003368d193164000330000033, 0x3300cc033000003368c98b200019800001980660198000019b4, 0x19800001980660198000019b0000000100bd80064c590000cc000, 0x183262c8000, 0x1c807201c800001cba00e5d0072e8000000000000e40390000000, 0x1d386ee000072000007201c80720000072e9d386ee00007200000, 0x7201c80720000072e9c377000039000003900e40390000039, 0x1e3c78f000002f1e3c78f1e13264c580000000c1ae1bb80001c80, 0x200000021800001264c98b000058a1601e3d78f5ebd7af5ebd, 0x70e40000001c800001c800001c8d0608000000010001a]) [56, 55, 50, 49, 54, 48, 45, 58] (up (fTk (gR (d3.2 + 226) (d5.2 + 226) d5.1.2.2.2) w.params (strOf (sent w1)) 1 (after [sent w2, sent w3, sent v1, sent v2, sent v3, sent [99]]))) ((0, 0, 0, exL (after [sent w2, sent w3, sent v1, sent v2, sent v3, sent [99]]), 0), 0) fun d6 =>
    .dat 154 (hx [0x2047c10204080c0020400000040000004f803d7c01ebe0000000, 0x100000010c0000093264c580002c50b00f1ebc7af5ebd7af4203, 0x38720000000e400000e400000e46830400000000800001b]) [56, 55, 50, 49, 54, 48, 45, 58] (up (fTk (gR (d3.2 + 226) (d5.2 + 226) d5.1.2.2.2) w.params (strOf (sent w2)) 2 (after [sent w3, sent v1, sent v2, sent v3, sent [99]]))) ((0, 0, 0, exL (after [sent w3, sent v1, sent v2, sent v3, sent [99]]), 0), 0) fun d7 =>
    .dat 154 (hx [0x2047e10204080c0020400000040000004fc03e7e01f3f0000000, 0x100000010c0000093264c580002c50b00f1ebc7af5ebd7af4203, 0x38720000000e400000e400000e46830400000000800001b]) [56, 55, 50, 49, 54, 48, 45, 58] (up (fTk (gR (d3.2 + 226) (d5.2 + 226) d5.1.2.2.2) w.params (strOf (sent w3)) 3 (after [sent v1, sent v2, sent v3, sent [99]]))) ((0, 0, 0, exL (after [sent v1, sent v2, sent v3, sent [99]]), 0), 0) fun d8 =>
    .dat 155 (hx [0x2048010204080c00204000000400000050003f8001fc00000000, 0x280000028b0000093264c580002c50b00f1ebc7af5ebd7af4203, 0x38720000000e400000e400000e46860a00000001400001b]) [56, 55, 50, 49, 54, 48, 45, 58] (up (fTk (gR (d3.2 + 226) (d5.2 + 226) d5.1.2.2.2) w.params (strOf (sent v1)) 4 (after [sent v2, sent v3, sent [99]]))) ((0, 0, 0, exL (after [sent v2, sent v3, sent [99]]), 0), 0) fun d9 =>
    .dat 157 (hx [0x20c10c14000001400000140000016080810404082020410000000, 0x51600001264c98b000058a1601e3d78f5ebd7af5e850814005, 0x70e40000001c800001c800001c8d0c140000000280000028001e]) [56, 55, 50, 49, 54, 48, 45, 58] (up (fTk (gR (d3.2 + 226) (d5.2 + 226) d5.1.2.2.2) w.params (strOf (sent v2)) 5 (after [sent v3, sent [99]]))) ((0, 0, 0, exL (after [sent v3, sent [99]]), 0), 0) fun d10 =>
    .dat 157 (hx [0x21c30c14000001400000140000016180850c04286021430000000, 0x51600001264c98b000058a1601e3d78f5ebd7af5e850814005, 0x70e40000001c800001c800001c8d0c140000000280000028001e]) [56, 55, 50, 49, 54, 48, 45, 58] (up (fTk (gR (d3.2 + 226) (d5.2 + 226) d5.1.2.2.2) w.params (strOf (sent v3)) 6 (after [sent [99]]))) ((0, 0, 0, exL (after [sent [99]]), 0), 0) fun d11 =>
    .dat 149 (hx [0x22c50c1400000140000014000001628089140448a022450000000, 0x258c040a5ca00000ca95243c90e1e4871721ebd7af5e850814005, 0x1c800001c800001c8d993404a972a5cb972e5cb00000cb, 0x38723]) [56, 55, 50, 49, 54, 48, 45, 58] (up (fTk (gR (d3.2 + 226) (d5.2 + 226) d5.1.2.2.2) w.params (strOf (sent [99])) 7 (after []))) ((0, 0, 0, exL (after []), 0), 0) fun d12 =>
    .dat 48 (hx [0x1c39000000072000007200000723664d012a5ca972e5cb992e64c, 0x1]) [56, 55, 50, 49, 54, 48, 45, 58] (up (fTk (gR (d3.2 + 226) (d5.2 + 226) d5.1.2.2.2) w.params ⟨#[]⟩ 7 [])) ((0, 0, 0, exL [], 0), 0) fun d13 =>
    .pur 58 (hx [0x16e003972000007200000723664d9b3e54b952e5cb97325cc99d]) (.int 6) <|
    .dat 264 (hx [0xb1628580a54a907261c9930e4c58b000050b0142650993284c, 0x1a7529d4a952a55ab52ad3a94ea54a952ad4a600001a74c580, 0x2cd9b36acd800000d8b02c000ab52ad7a7529d4a952a55ab52a80, 0x2e58b362cd9b366d5ab3680000362cd8b366cd9b56acdab166c59, 0xa200001a37a8dd0f74387ba1ed59b51]) [80, 93] (up (fE2 )) ((default, default, 0), 0) fun de =>
    .fin 2 []) fun N K p d1 d2 d3 d4 d5 d6 d7 d8 d9 d10 d11 d12 d13 de => .mk' [(.builtin "str.count" ⟨[.str (strOf (joinL [13, 10] [sent w1, sent w2, sent w3, sent v1, sent v2, sent v3, sent [99]])) d3.1.1, .str ⟨#[13, 10]⟩ (d13.1.2.2.2.2 + 1)], []⟩, .int 6)]
    [(none, .builtin "list.__iadd__" ⟨[.ref (N + 226 + 8), .ref (N + 226 + 21)], []⟩, [(N + 226 + 8, listO [rowV (w1, q1'), rowV (w2, q2'), rowV (w3, q3')] 3), (N + 226 + 21, listO [rowV (v1, z1), rowV (v2, z2), rowV (v3, z3)] 3)]),
     (none, .builtin "str.join" ⟨[.str (strOf e) et, .ref (d1.2 + 226 + 0)], []⟩, [(d1.2 + 226 + 0, (listO (wsV [(w1, q1'), (w2, q2'), (w3, q3'), (v1, z1), (v2, z2), (v3, z3), ([99], b1)]) 0))]),
     (some (σ.inT (N + 226) ⟨98, 11, 98, 44⟩).tl, .call (.ref 55) ⟨[.str (strOf (joinL e [w1, w2, w3, v1, v2, v3, [99]])) d2.1.1], []⟩, []),
     (none, .builtin "str.__iter__" ⟨[.str (strOf (joinL [13, 10] [sent w1, sent w2, sent w3, sent v1, sent v2, sent v3, sent [99]])) d3.1.1], []⟩, []),
     (none, .builtin "list.extend.loop" ⟨[.ref (d3.2 + 226 + 0), .ref d4.1.2.1, .none], []⟩, [(d3.2 + 226 + 0, listO [] 0), (d4.1.2.1, strItO (strOf (joinL [13, 10] [sent w1, sent w2, sent w3, sent v1, sent v2, sent v3, sent [99]])) d4.1.1 0)]),
     (some (σ.inF (N + 226) (d5.2 + 226 + 13) ⟨102, 28, 102, 46⟩ ⟨100, 13, 100, 29⟩).list, .call (.ref 167) ⟨[.ref (d5.2 + 226 + 9)], []⟩, (gR (d3.2 + 226) (d5.2 + 226) d5.1.2.2.2).eight w.params 1 (d5.1.2.2.2 + 17) (d5.1.1.1.map chV) d5.1.2.1 0),
     (some (σ.inF (N + 226) (d5.2 + 226 + 13) ⟨102, 28, 102, 46⟩ ⟨100, 13, 100, 29⟩).list, .call (.ref 167) ⟨[.ref (d5.2 + 226 + 9)], []⟩, (gR (d3.2 + 226) (d5.2 + 226) d5.1.2.2.2).eight w.params 1 d6.1.1 (d6.1.2.2.2.1.1.map chV) d6.1.2.2.1 0),
     (some (σ.inF (N + 226) (d5.2 + 226 + 13) ⟨102, 28, 102, 46⟩ ⟨100, 13, 100, 29⟩).list, .call (.ref 167) ⟨[.ref (d5.2 + 226 + 9)], []⟩, (gR (d3.2 + 226) (d5.2 + 226) d5.1.2.2.2).eight w.params 2 d7.1.1 (d7.1.2.2.2.1.1.map chV) d7.1.2.2.1 0),
     (some (σ.inF (N + 226) (d5.2 + 226 + 13) ⟨104, 26, 104, 44⟩ ⟨100, 13, 100, 29⟩).list, .call (.ref 167) ⟨[.ref (d5.2 + 226 + 9)], []⟩, (gR (d3.2 + 226) (d5.2 + 226) d5.1.2.2.2).eight w.params 3 d8.1.1 (d8.1.2.2.2.1.1.map chV) d8.1.2.2.1 0),
     (some (σ.inF (N + 226) (d5.2 + 226 + 13) ⟨104, 26, 104, 44⟩ ⟨100, 13, 100, 29⟩).list, .call (.ref 167) ⟨[.ref (d5.2 + 226 + 9)], []⟩, (gR (d3.2 + 226) (d5.2 + 226) d5.1.2.2.2).eight w.params 4 d9.1.1 (d9.1.2.2.2.1.1.map chV) d9.1.2.2.1 0),
     (some (σ.inF (N + 226) (d5.2 + 226 + 13) ⟨104, 26, 104, 44⟩ ⟨100, 13, 100, 29⟩).list, .call (.ref 167) ⟨[.ref (d5.2 + 226 + 9)], []⟩, (gR (d3.2 + 226) (d5.2 + 226) d5.1.2.2.2).eight w.params 5 d10.1.1 (d10.1.2.2.2.1.1.map chV) d10.1.2.2.1 0),
     (some (σ.inC (N + 226) (d11.2 + 226 + 6) (d11.2 + 226 + 7) (d11.2 + 226 + 8) ⟨105, 12, 105, 30⟩ ⟨105, 43, 105, 55⟩).list, .call (.ref 167) ⟨[.ref (d5.2 + 226 + 9)], []⟩, (gR (d3.2 + 226) (d5.2 + 226) d5.1.2.2.2).eight w.params 6 d11.1.1 (d11.1.2.2.2.1.1.map chV) d11.1.2.2.1 0),
     (some (σ.inC (N + 226) (d11.2 + 226 + 6) (d11.2 + 226 + 7) (d11.2 + 226 + 8) ⟨105, 12, 105, 30⟩ ⟨105, 43, 105, 55⟩).list, .call (.ref 167) ⟨[.ref (d5.2 + 226 + 9)], []⟩, (gR (d3.2 + 226) (d5.2 + 226) d5.1.2.2.2).eight w.params 7 d12.1.1 (d12.1.2.2.2.1.1.map chV) d12.1.2.2.1 0),
     (none, .builtin "list.__eq__" ⟨[.ref (d13.2 + 226 + 3), .ref (d13.2 + 226 + 16)], []⟩, [(d13.2 + 226 + 3, listO [.str (strOf (sent [99])) d12.1.2.1, .str ⟨#[]⟩ d13.1.2.1, .int 7 d13.1.1, .int 6 (d13.1.2.2.2.2 + 2)] 0), (d13.2 + 226 + 16, listO [.str (strOf [99]) b1, .str ⟨#[]⟩ (d13.1.2.2.2.2 + 7), .int 7 (d13.1.2.2.2.2 + 5), .int 6 (d13.1.2.2.2.2 + 11)] 0)])]
    (⟨[(sent w1, d6.1.2.1), (sent w2, d7.1.2.1), (sent w3, d8.1.2.1)], rfl⟩, ⟨[⟨d9.2 + 226 + 1, d8.1.2.2.2.2 + 9, (sent v1, d9.1.2.1)⟩, ⟨d10.2 + 226 + 1, d9.1.2.2.2.2 + 9, (sent v2, d10.1.2.1)⟩, ⟨d11.2 + 226 + 1, d10.1.2.2.2.2 + 9, (sent v3, d11.1.2.1)⟩], rfl⟩, (e1 + 6), (e2 + 4), de.2 + 226, de.1.2.2) (de.2 + 226, 0) (de.1.2.2, 0) [0, 1, 2, 3, 4, 5, 6, 7, 8, 9, 65, 67, 69] (by kernel_rfl)
    (oneG (gives_count [sent w1, sent w2, sent w3, sent v1, sent v2, sent v3, sent [99]] d3.1.1 _ (fun x hx => (S.ok x hx).plain)))
    ⟨fun b => up_iadd w b _ _ _ _ _ _ (by simp) (by simp),
      fun b => up_join w b e et _ [(w1, q1'), (w2, q2'), (w3, q3'), (v1, z1), (v2, z2), (v3, z3), ([99], b1)] _ he (fun x hx => hs x hx) (by simp),
      up_quoted w (σ.inT (N + 226) ⟨98, 11, 98, 44⟩) e he3 [w1, w2, w3, v1, v2, v3, [99]] hw hs hn d2.1.1,
      fun b => up_iter w b (joinL [13, 10] [sent w1, sent w2, sent w3, sent v1, sent v2, sent v3, sent [99]]) d3.1.1 (words_ascii [sent w1, sent w2, sent w3, sent v1, sent v2, sent v3, sent [99]] S.ok),
      fun b => up_extend w b (joinL [13, 10] [sent w1, sent w2, sent w3, sent v1, sent v2, sent v3, sent [99]]) d4.1.1 _ _ (words_len [sent w1, sent w2, sent w3, sent v1, sent v2, sent v3, sent [99]] S.sm S.le),
      up_first w (σ.inF (N + 226) (d5.2 + 226 + 13) ⟨102, 28, 102, 46⟩ ⟨100, 13, 100, 29⟩) (gR (d3.2 + 226) (d5.2 + 226) d5.1.2.2.2) 1 (d5.1.2.2.2 + 17) d5.1.2.1 (sent w1) [sent w2, sent w3, sent v1, sent v2, sent v3, sent [99]] d5.1.1 S,
      up_next w (σ.inF (N + 226) (d5.2 + 226 + 13) ⟨102, 28, 102, 46⟩ ⟨100, 13, 100, 29⟩) (gR (d3.2 + 226) (d5.2 + 226) d5.1.2.2.2) 1 d6.1.1 d6.1.2.2.1 (sent w2) [sent w3, sent v1, sent v2, sent v3, sent [99]] d6.1.2.2.2.1 S.tail,
      up_next w (σ.inF (N + 226) (d5.2 + 226 + 13) ⟨102, 28, 102, 46⟩ ⟨100, 13, 100, 29⟩) (gR (d3.2 + 226) (d5.2 + 226) d5.1.2.2.2) 2 d7.1.1 d7.1.2.2.1 (sent w3) [sent v1, sent v2, sent v3, sent [99]] d7.1.2.2.2.1 S.tail.tail,
      up_next w (σ.inF (N + 226) (d5.2 + 226 + 13) ⟨104, 26, 104, 44⟩ ⟨100, 13, 100, 29⟩) (gR (d3.2 + 226) (d5.2 + 226) d5.1.2.2.2) 3 d8.1.1 d8.1.2.2.1 (sent v1) [sent v2, sent v3, sent [99]] d8.1.2.2.2.1 S.tail.tail.tail,
      up_next w (σ.inF (N + 226) (d5.2 + 226 + 13) ⟨104, 26, 104, 44⟩ ⟨100, 13, 100, 29⟩) (gR (d3.2 + 226) (d5.2 + 226) d5.1.2.2.2) 4 d9.1.1 d9.1.2.2.1 (sent v2) [sent v3, sent [99]] d9.1.2.2.2.1 S.tail.tail.tail.tail,
      up_next w (σ.inF (N + 226) (d5.2 + 226 + 13) ⟨104, 26, 104, 44⟩ ⟨100, 13, 100, 29⟩) (gR (d3.2 + 226) (d5.2 + 226) d5.1.2.2.2) 5 d10.1.1 d10.1.2.2.1 (sent v3) [sent [99]] d10.1.2.2.2.1 S.tail.tail.tail.tail.tail,
      up_next w (σ.inC (N + 226) (d11.2 + 226 + 6) (d11.2 + 226 + 7) (d11.2 + 226 + 8) ⟨105, 12, 105, 30⟩ ⟨105, 43, 105, 55⟩) (gR (d3.2 + 226) (d5.2 + 226) d5.1.2.2.2) 6 d11.1.1 d11.1.2.2.1 (sent [99]) [] d11.1.2.2.2.1 S.tail.tail.tail.tail.tail.tail,
      up_none w (σ.inC (N + 226) (d11.2 + 226 + 6) (d11.2 + 226 + 7) (d11.2 + 226 + 8) ⟨105, 12, 105, 30⟩ ⟨105, 43, 105, 55⟩) (gR (d3.2 + 226) (d5.2 + 226) d5.1.2.2.2) 7 d12.1.1 d12.1.2.2.1 d12.1.2.2.2.1,
      fun b => up_eq w b _ _ _ _ _ _ (eqlC (EqG.str' rfl) (eqlC (EqG.str' rfl) (eqlC (EqG.int' rfl) (eqlC (EqG.int' rfl) eqlN)))), trivial⟩ rfl rfl rfl rfl
end Mine
end
noncomputable section
namespace Mine
open PySem PySem.W PySem.W.X

theorem tick_4_0 (w : WK) (σ : Sv) (T : LP) (ah : Addr) (e : List Nat) (et : Tok) (e1 e2 e3 : Nat) (w1 w2 w3 w4 v1 v2 v3 v4 : List Nat) (q1' z1 u1 q2' z2 u2 q3' z3 u3 q4' z4 u4 : Tok) (a1 a2 a3 a4 : Addr)
    (he3 : e = [13] ∨ e = [10] ∨ e = [13, 10]) (hw : ∀ x ∈ ([w1, w2, w3, w4, v1, v2, v3, v4] : List (List Nat)), okWord x) (hs : small [w1, w2, w3, w4, v1, v2, v3, v4]) :
    Ctr (E2 w) σ.bt (.call (.ref 193) ⟨[.ref 228, .ref 232, .ref ah, .str (strOf e) et], []⟩) ((L0 T ah).seven w.params [(w1, q1'), (w2, q2'), (w3, q3'), (w4, q4')] [⟨a1, u1, (v1, z1)⟩, ⟨a2, u2, (v2, z2)⟩, ⟨a3, u3, (v3, z3)⟩, ⟨a4, u4, (v4, z4)⟩] [] e1 e2 e3 ++ tups [⟨a1, u1, (v1, z1)⟩, ⟨a2, u2, (v2, z2)⟩, ⟨a3, u3, (v3, z3)⟩, ⟨a4, u4, (v4, z4)⟩]) (QF (fTkk (L0 T ah) w.params [(w1, q1'), (w2, q2'), (w3, q3'), (w4, q4')] [⟨a1, u1, (v1, z1)⟩, ⟨a2, u2, (v2, z2)⟩, ⟨a3, u3, (v3, z3)⟩, ⟨a4, u4, (v4, z4)⟩] [] e3)) := by
  have he : e.length ≤ 2 := by rcases he3 with rfl | rfl | rfl <;> decide
  have hn : ([w1, w2, w3, w4, v1, v2, v3, v4] : List (List Nat)).length ≤ 12 := Nat.le_of_ble_eq_true rfl
  have S : Sent [sent w1, sent w2, sent w3, sent w4, sent v1, sent v2, sent v3, sent v4] := sent_of [w1, w2, w3, w4, v1, v2, v3, v4] hw hs hn
  exact Ctr.runU (E := E2 w) den_eq rfl 100000 (fun N K p => .ent 58 (hx [0x2800000280000028c000000b180058c002c6001834000, 0x3878000000060a9]) (pcC (N + 226 + 3)) (pcAlt (N + 226 + 3)) (pcSub _) <|
    .dat 1164 (hx [0x810204080f203c80f20002850040810000078000000000204080, 0x24c98c04089922448900000491224489120a448800a00010, 0x1820000000040000004000000434a150048992264c993264c993, 0x8b0408102040600102000000200000022c00a960000000, 0x913244c993264c9942650a040610204081020406001020000002, 0x45c0162e00000000c1000000002000000200000021a50a80, 0x204080c00204000000400000045c204081020300081000000100, 0x4000000434a150048992264c993264ca1328502030810204, 0x2040600102000000200000023000b98000000006080000000100, 0x9942650a04061020408102040600102000000200000023010204, 0xc1000000002000000200000021a50a80244c913264c993, 0x400000046420408102030008100000010000001190060c80, 0xa152a2c600364c993264ca132850203081020408102030008100, 0xe1c006ce00367000000000060a0000000140000014000001460c, 0x28000002800a70e1b380029d3a74e9d001400000140050000005, 0x10a100000a1423010242780000278f1c0a102853e7d0204081000, 0x11a41091224488d208489122448200000220408428109e42850a1, 0x48912850213c850a142890a2448d12300891804c8d2084891224, 0x112300a5327129d3a74e993894e9d3a74c9c4a74e9d3a71200001, 0x150a54a952a5428000022850a428109e42850a144851224689180, 0x10a142890a2448d123008918058a550a54a952a52a852a54a9529, 0x16ad5ab168b5ab56ad58b45ad5ab56ad1600001162c5a14084f21, 0x112346891a3628109e42850a144851224689180448c02f58b45ad, 0x51114284]) [19, 33] (up (fIadd (N + 226 + 8) [rowV (w1, q1'), rowV (w2, q2'), rowV (w3, q3'), rowV (w4, q4')] [rowV (v1, z1), rowV (v2, z2), rowV (v3, z3), rowV (v4, z4)] (listO [rowV (v1, z1), rowV (v2, z2), rowV (v3, z3), rowV (v4, z4)] 4))) ((0, 0), 0) fun d1 =>
    .dat 36 (hx [0x7281ca140e5060c180058c00e]) [49] (up (fJ (joinL e [w1, w2, w3, w4, v1, v2, v3, v4]))) ((0, default, 0), 0) fun d2 =>
    .dat 4 [0] [] (up (fStr (joinL [13, 10] [sent w1, sent w2, sent w3, sent w4, sent v1, sent v2, sent v3, sent v4]))) ((0, 0), 0) fun d3 =>
    .dat 37 (hx [0x59b266cd9b36630000000058c012]) [] (up (fIt (joinL [13, 10] [sent w1, sent w2, sent w3, sent w4, sent v1, sent v2, sent v3, sent v4]))) ((0, 0, 0), 0) fun d4 =>
    .dat 2 [52] [50, 51] (up (fEx (joinL [13, 10] [sent w1, sent w2, sent w3, sent w4, sent v1, sent v2, sent v3, sent v4]))) ((exL (joinL [13, 10] [sent w1, sent w2, sent w3, sent w4, sent v1, sent v2, sent v3, sent v4]), 0, default, 0), 0) fun d5 =>
    .dat 579 (hx [0x356c00000, 0x3800e000000e1c8070e4038720000000000007001c000000000, 0x1bb66e00038000003800e0038000003872e5bb66e000380000038, 0x3800e0038000003872ddb370001c000001c007001c000001c39, 0x1c000001c007001c000001c35000000100d1a806ed9b8000e0000, 0x1ab76cdc000, 0x1f007c01f000001f3f00f9f807cfc000000000000f803e0000000, 0x1fbd78f40007c000007c01f007c000007cfdfbd78f40007c00000, 0x7c01f007c000007cfdebc7a0003e000003e00f803e000003e, 0x20c1830400003060c183060942850600000000d1cf5e3d0001f00, 0x200000021a000012850a0c000060b18020c2830a142850a142, 0x7af80000001f000001f000001f0e0608000000010001a]) [61, 60, 55, 54, 59, 53, 50, 63] (up (fTk (gR (d3.2 + 226) (d5.2 + 226) d5.1.2.2.2) w.params (strOf (sent w1)) 1 (after [sent w2, sent w3, sent w4, sent v1, sent v2, sent v3, sent v4]))) ((0, 0, 0, exL (after [sent w2, sent w3, sent w4, sent v1, sent v2, sent v3, sent v4]), 0), 0) fun d6 =>
    .dat 154 (hx [0x2048610204080c00204000000400000050c04286021430000000, 0x100000010d00000942850600003058c0106141850a1428508203, 0x3d7c0000000f800000f800000f87030400000000800001b]) [61, 60, 55, 54, 59, 53, 50, 63] (up (fTk (gR (d3.2 + 226) (d5.2 + 226) d5.1.2.2.2) w.params (strOf (sent w2)) 2 (after [sent w3, sent w4, sent v1, sent v2, sent v3, sent v4]))) ((0, 0, 0, exL (after [sent w3, sent w4, sent v1, sent v2, sent v3, sent v4]), 0), 0) fun d7 =>
    .dat 154 (hx [0x2048810204080c00204000000400000051004388021c40000000, 0x100000010d00000942850600003058c0106141850a1428508203, 0x3d7c0000000f800000f800000f87030400000000800001b]) [61, 60, 55, 54, 59, 53, 50, 63] (up (fTk (gR (d3.2 + 226) (d5.2 + 226) d5.1.2.2.2) w.params (strOf (sent w3)) 3 (after [sent w4, sent v1, sent v2, sent v3, sent v4]))) ((0, 0, 0, exL (after [sent w4, sent v1, sent v2, sent v3, sent v4]), 0), 0) fun d8 =>
    .dat 154 (hx [0x2048a10204080c0020400000040000005140448a022450000000, 0x100000010d00000942850600003058c0106141850a1428508203, 0x3d7c0000000f800000f800000f87030400000000800001b]) [61, 60, 55, 54, 59, 53, 50, 63] (up (fTk (gR (d3.2 + 226) (d5.2 + 226) d5.1.2.2.2) w.params (strOf (sent w4)) 4 (after [sent v1, sent v2, sent v3, sent v4]))) ((0, 0, 0, exL (after [sent v1, sent v2, sent v3, sent v4]), 0), 0) fun d9 =>
    .dat 155 (hx [0x2048c10204080c0020400000040000005180458c022c60000000, 0x280000028c00000942850600003058c0106141850a1428508203, 0x3d7c0000000f800000f800000f87060a00000001400001b]) [61, 60, 55, 54, 59, 53, 50, 63] (up (fTk (gR (d3.2 + 226) (d5.2 + 226) d5.1.2.2.2) w.params (strOf (sent v1)) 5 (after [sent v2, sent v3, sent v4]))) ((0, 0, 0, exL (after [sent v2, sent v3, sent v4]), 0), 0) fun d10 =>
    .dat 157 (hx [0x23c70c140000014000001400000163808d1c0468e023470000000, 0x518000012850a0c000060b18020c2830a142850a1050814005, 0x7af80000001f000001f000001f0e0c140000000280000028001e]) [61, 60, 55, 54, 59, 53, 50, 63] (up (fTk (gR (d3.2 + 226) (d5.2 + 226) d5.1.2.2.2) w.params (strOf (sent v2)) 6 (after [sent v3, sent v4]))) ((0, 0, 0, exL (after [sent v3, sent v4]), 0), 0) fun d11 =>
    .dat 157 (hx [0x24c90c14000001400000140000016480912404892024490000000, 0x518000012850a0c000060b18020c2830a142850a1050814005, 0x7af80000001f000001f000001f0e0c140000000280000028001e]) [61, 60, 55, 54, 59, 53, 50, 63] (up (fTk (gR (d3.2 + 226) (d5.2 + 226) d5.1.2.2.2) w.params (strOf (sent v3)) 7 (after [sent v4]))) ((0, 0, 0, exL (after [sent v4]), 0), 0) fun d12 =>
    .dat 157 (hx [0x25cb0c14000001400000140000016580952c04a960254b0000000, 0x518000012850a0c000060b18020c2830a142850a1050814005, 0x7af80000001f000001f000001f0e0c140000000280000028001e]) [61, 60, 55, 54, 59, 53, 50, 63] (up (fTk (gR (d3.2 + 226) (d5.2 + 226) d5.1.2.2.2) w.params (strOf (sent v4)) 8 (after []))) ((0, 0, 0, exL (after []), 0), 0) fun d13 =>
    .dat 149 (hx [0x26cd0c14000001400000140000016680993404c9a0264d0000000, 0x298c040a9d200000d2a5443d10e1e8871942142850a1050814005, 0x1f000001f000001f0ea954052a74a9d3a74e9d300000d3, 0x3d7c3]) [61, 60, 55, 54, 59, 53, 50, 63] (up (fTk (gR (d3.2 + 226) (d5.2 + 226) d5.1.2.2.2) w.params ⟨#[]⟩ 8 [])) ((0, 0, 0, exL [], 0), 0) fun d14 =>
    .pur 58 (hx [0x18f403e7c000007c000007c3aa55ab5e953a54e9d3a7529d4a9d]) (.int 7) <|
    .dat 264 (hx [0xc182c600b56ad07281ca140e5060c000058c0162a58a952c54, 0x1b772ddcb972e5dbb72edbb96ee5cb972edcb600001b76c600, 0x30e1c38b0e000000e0c030000bb72edfb772ddcb972e5dbb72e80, 0x3260c3830e1c387162c38800003830e0c3870e1c58b0e2c187061, 0xb200001b39ace50f94387ca1f161c51]) [88, 101] (up (fE2 )) ((default, default, 0), 0) fun de =>
    .fin 2 []) fun N K p d1 d2 d3 d4 d5 d6 d7 d8 d9 d10 d11 d12 d13 d14 de => .mk' [(.builtin "str.count" ⟨[.str (strOf (joinL [13, 10] [sent w1, sent w2, sent w3, sent w4, sent v1, sent v2, sent v3, sent v4])) d3.1.1, .str ⟨#[13, 10]⟩ (d14.1.2.2.2.2 + 1)], []⟩, .int 7)]
    [(none, .builtin "list.__iadd__" ⟨[.ref (N + 226 + 8), .ref (N + 226 + 22)], []⟩, [(N + 226 + 8, listO [rowV (w1, q1'), rowV (w2, q2'), rowV (w3, q3'), rowV (w4, q4')] 4), (N + 226 + 22, listO [rowV (v1, z1), rowV (v2, z2), rowV (v3, z3), rowV (v4, z4)] 4)]),
     (none, .builtin "str.join" ⟨[.str (strOf e) et, .ref (d1.2 + 226 + 0)], []⟩, [(d1.2 + 226 + 0, (listO (wsV [(w1, q1'), (w2, q2'), (w3, q3'), (w4, q4'), (v1, z1), (v2, z2), (v3, z3), (v4, z4)]) 0))]),
     (some (σ.inT (N + 226) ⟨98, 11, 98, 44⟩).tl, .call (.ref 55) ⟨[.str (strOf (joinL e [w1, w2, w3, w4, v1, v2, v3, v4])) d2.1.1], []⟩, []),
     (none, .builtin "str.__iter__" ⟨[.str (strOf (joinL [13, 10] [sent w1, sent w2, sent w3, sent w4, sent v1, sent v2, sent v3, sent v4])) d3.1.1], []⟩, []),
     (none, .builtin "list.extend.loop" ⟨[.ref (d3.2 + 226 + 0), .ref d4.1.2.1, .none], []⟩, [(d3.2 + 226 + 0, listO [] 0), (d4.1.2.1, strItO (strOf (joinL [13, 10] [sent w1, sent w2, sent w3, sent w4, sent v1, sent v2, sent v3, sent v4])) d4.1.1 0)]),
     (some (σ.inF (N + 226) (d5.2 + 226 + 13) ⟨102, 28, 102, 46⟩ ⟨100, 13, 100, 29⟩).list, .call (.ref 167) ⟨[.ref (d5.2 + 226 + 9)], []⟩, (gR (d3.2 + 226) (d5.2 + 226) d5.1.2.2.2).eight w.params 1 (d5.1.2.2.2 + 17) (d5.1.1.1.map chV) d5.1.2.1 0),
     (some (σ.inF (N + 226) (d5.2 + 226 + 13) ⟨102, 28, 102, 46⟩ ⟨100, 13, 100, 29⟩).list, .call (.ref 167) ⟨[.ref (d5.2 + 226 + 9)], []⟩, (gR (d3.2 + 226) (d5.2 + 226) d5.1.2.2.2).eight w.params 1 d6.1.1 (d6.1.2.2.2.1.1.map chV) d6.1.2.2.1 0),
     (some (σ.inF (N + 226) (d5.2 + 226 + 13) ⟨102, 28, 102, 46⟩ ⟨100, 13, 100, 29⟩).list, .call (.ref 167) ⟨[.ref (d5.2 + 226 + 9)], []⟩, (gR (d3.2 + 226) (d5.2 + 226) d5.1.2.2.2).eight w.params 2 d7.1.1 (d7.1.2.2.2.1.1.map chV) d7.1.2.2.1 0),
     (some (σ.inF (N + 226) (d5.2 + 226 + 13) ⟨102, 28, 102, 46⟩ ⟨100, 13, 100, 29⟩).list, .call (.ref 167) ⟨[.ref (d5.2 + 226 + 9)], []⟩, (gR (d3.2 + 226) (d5.2 + 226) d5.1.2.2.2).eight w.params 3 d8.1.1 (d8.1.2.2.2.1.1.map chV) d8.1.2.2.1 0),
     (some (σ.inF (N + 226) (d5.2 + 226 + 13) ⟨104, 26, 104, 44⟩ ⟨100, 13, 100, 29⟩).list, .call (.ref 167) ⟨[.ref (d5.2 + 226 + 9)], []⟩, (gR (d3.2 + 226) (d5.2 + 226) d5.1.2.2.2).eight w.params 4 d9.1.1 (d9.1.2.2.2.1.1.map chV) d9.1.2.2.1 0),
     (some (σ.inF (N + 226) (d5.2 + 226 + 13) ⟨104, 26, 104, 44⟩ ⟨100, 13, 100, 29⟩).list, .call (.ref 167) ⟨[.ref (d5.2 + 226 + 9)], []⟩, (gR (d3.2 + 226) (d5.2 + 226) d5.1.2.2.2).eight w.params 5 d10.1.1 (d10.1.2.2.2.1.1.map chV) d10.1.2.2.1 0),
     (some (σ.inF (N + 226) (d5.2 + 226 + 13) ⟨104, 26, 104, 44⟩ ⟨100, 13, 100, 29⟩).list, .call (.ref 167) ⟨[.ref (d5.2 + 226 + 9)], []⟩, (gR (d3.2 + 226) (d5.2 + 226) d5.1.2.2.2).eight w.params 6 d11.1.1 (d11.1.2.2.2.1.1.map chV) d11.1.2.2.1 0),
     (some (σ.inF (N + 226) (d5.2 + 226 + 13) ⟨104, 26, 104, 44⟩ ⟨100, 13, 100, 29⟩).list, .call (.ref 167) ⟨[.ref (d5.2 + 226 + 9)], []⟩, (gR (d3.2 + 226) (d5.2 + 226) d5.1.2.2.2).eight w.params 7 d12.1.1 (d12.1.2.2.2.1.1.map chV) d12.1.2.2.1 0),
     (some (σ.inC (N + 226) (d13.2 + 226 + 6) (d13.2 + 226 + 7) (d13.2 + 226 + 8) ⟨105, 12, 105, 30⟩ ⟨105, 43, 105, 55⟩).list, .call (.ref 167) ⟨[.ref (d5.2 + 226 + 9)], []⟩, (gR (d3.2 + 226) (d5.2 + 226) d5.1.2.2.2).eight w.params 8 d13.1.1 (d13.1.2.2.2.1.1.map chV) d13.1.2.2.1 0),
     (none, .builtin "list.__eq__" ⟨[.ref (d14.2 + 226 + 3), .ref (d14.2 + 226 + 16)], []⟩, [(d14.2 + 226 + 3, listO [.str ⟨#[]⟩ d14.1.2.1, .int 8 d14.1.1, .int 7 (d14.1.2.2.2.2 + 2)] 0), (d14.2 + 226 + 16, listO [.str ⟨#[]⟩ (d14.1.2.2.2.2 + 7), .int 8 (d14.1.2.2.2.2 + 5), .int 7 (d14.1.2.2.2.2 + 11)] 0)])]
    (⟨[(sent w1, d6.1.2.1), (sent w2, d7.1.2.1), (sent w3, d8.1.2.1), (sent w4, d9.1.2.1)], rfl⟩, ⟨[⟨d10.2 + 226 + 1, d9.1.2.2.2.2 + 9, (sent v1, d10.1.2.1)⟩, ⟨d11.2 + 226 + 1, d10.1.2.2.2.2 + 9, (sent v2, d11.1.2.1)⟩, ⟨d12.2 + 226 + 1, d11.1.2.2.2.2 + 9, (sent v3, d12.1.2.1)⟩, ⟨d13.2 + 226 + 1, d12.1.2.2.2.2 + 9, (sent v4, d13.1.2.1)⟩], rfl⟩, (e1 + 8), (e2 + 5), de.2 + 226, de.1.2.2) (de.2 + 226, 0) (de.1.2.2, 0) [0, 1, 2, 3, 4, 5, 6, 7, 8, 9, 10, 71, 73, 75, 77] (by kernel_rfl)
    (oneG (gives_count [sent w1, sent w2, sent w3, sent w4, sent v1, sent v2, sent v3, sent v4] d3.1.1 _ (fun x hx => (S.ok x hx).plain)))
    ⟨fun b => up_iadd w b _ _ _ _ _ _ (by simp) (by simp),
      fun b => up_join w b e et _ [(w1, q1'), (w2, q2'), (w3, q3'), (w4, q4'), (v1, z1), (v2, z2), (v3, z3), (v4, z4)] _ he (fun x hx => hs x hx) (by simp),
      up_quoted w (σ.inT (N + 226) ⟨98, 11, 98, 44⟩) e he3 [w1, w2, w3, w4, v1, v2, v3, v4] hw hs hn d2.1.1,
      fun b => up_iter w b (joinL [13, 10] [sent w1, sent w2, sent w3, sent w4, sent v1, sent v2, sent v3, sent v4]) d3.1.1 (words_ascii [sent w1, sent w2, sent w3, sent w4, sent v1, sent v2, sent v3, sent v4] S.ok),
      fun b => up_extend w b (joinL [13, 10] [sent w1, sent w2, sent w3, sent w4, sent v1, sent v2, sent v3, sent v4]) d4.1.1 _ _ (words_len [sent w1, sent w2, sent w3, sent w4, sent v1, sent v2, sent v3, sent v4] S.sm S.le),
      up_first w (σ.inF (N + 226) (d5.2 + 226 + 13) ⟨102, 28, 102, 46⟩ ⟨100, 13, 100, 29⟩) (gR (d3.2 + 226) (d5.2 + 226) d5.1.2.2.2) 1 (d5.1.2.2.2 + 17) d5.1.2.1 (sent w1) [sent w2, sent w3, sent w4, sent v1, sent v2, sent v3, sent v4] d5.1.1 S,
      up_next w (σ.inF (N + 226) (d5.2 + 226 + 13) ⟨102, 28, 102, 46⟩ ⟨100, 13, 100, 29⟩) (gR (d3.2 + 226) (d5.2 + 226) d5.1.2.2.2) 1 d6.1.1 d6.1.2.2.1 (sent w2) [sent w3, sent w4, sent v1, sent v2, sent v3, sent v4] d6.1.2.2.2.1 S.tail,
      up_next w (σ.inF (N + 226) (d5.2 + 226 + 13) ⟨102, 28, 102, 46⟩ ⟨100, 13, 100, 29⟩) (gR (d3.2 + 226) (d5.2 + 226) d5.1.2.2.2) 2 d7.1.1 d7.1.2.2.1 (sent w3) [sent w4, sent v1, sent v2, sent v3, sent v4] d7.1.2.2.2.1 S.tail.tail,
      up_next w (σ.inF (N + 226) (d5.2 + 226 + 13) ⟨102, 28, 102, 46⟩ ⟨100, 13, 100, 29⟩) (gR (d3.2 + 226) (d5.2 + 226) d5.1.2.2.2) 3 d8.1.1 d8.1.2.2.1 (sent w4) [sent v1, sent v2, sent v3, sent v4] d8.1.2.2.2.1 S.tail.tail.tail,
      up_next w (σ.inF (N + 226) (d5.2 + 226 + 13) ⟨104, 26, 104, 44⟩ ⟨100, 13, 100, 29⟩) (gR (d3.2 + 226) (d5.2 + 226) d5.1.2.2.2) 4 d9.1.1 d9.1.2.2.1 (sent v1) [sent v2, sent v3, sent v4] d9.1.2.2.2.1 S.tail.tail.tail.tail,
      up_next w (σ.inF (N + 226) (d5.2 + 226 + 13) ⟨104, 26, 104, 44⟩ ⟨100, 13, 100, 29⟩) (gR (d3.2 + 226) (d5.2 + 226) d5.1.2.2.2) 5 d10.1.1 d10.1.2.2.1 (sent v2) [sent v3, sent v4] d10.1.2.2.2.1 S.tail.tail.tail.tail.tail,
      up_next w (σ.inF (N + 226) (d5.2 + 226 + 13) ⟨104, 26, 104, 44⟩ ⟨100, 13, 100, 29⟩) (gR (d3.2 + 226) (d5.2 + 226) d5.1.2.2.2) 6 d11.1.1 d11.1.2.2.1 (sent v3) [sent v4] d11.1.2.2.2.1 S.tail.tail.tail.tail.tail.tail,
      up_next w (σ.inF (N + 226) (d5.2 + 226 + 13) ⟨104, 26, 104, 44⟩ ⟨100, 13, 100, 29⟩) (gR (d3.2 + 226) (d5.2 + 226) d5.1.2.2.2) 7 d12.1.1 d12.1.2.2.1 (sent v4) [] d12.1.2.2.2.1 S.tail.tail.tail.tail.tail.tail.tail,
      up_none w (σ.inC (N + 226) (d13.2 + 226 + 6) (d13.2 + 226 + 7) (d13.2 + 226 + 8) ⟨105, 12, 105, 30⟩ ⟨105, 43, 105, 55⟩) (gR (d3.2 + 226) (d5.2 + 226) d5.1.2.2.2) 8 d13.1.1 d13.1.2.2.1 d13.1.2.2.2.1,
      fun b => up_eq w b _ _ _ _ _ _ (eqlC (EqG.str' rfl) (eqlC (EqG.int' rfl) (eqlC (EqG.int' rfl) eqlN))), trivial⟩ rfl rfl rfl rfl
end Mine
end
noncomputable section
namespace Mine
open PySem PySem.W PySem.W.X

/-! ## the frame of law -/
structure FT where
  (s1 s2 s3 s4 s5 s6 s7 s8 kc km kk kx kb ktk : Tok)
structure FV where
  (c : Int) (ct : Tok) (m : Int) (mt : Tok) (k : Int) (kt : Tok) (x : Int) (xt : Tok) (b : Bool) (tk : Option (Int × Tok))
noncomputable def S (s : String) : Str := Str.ofString s
noncomputable def lawE10 (P : Params) (F : FT) (V : FV) : List DictEntry :=
  [eD P (S "script") F.s1 (.ref 209), eD P (S "pile") F.s2 (.ref 232), eD P (S "line") F.s3 (.ref 228), eD P (S "names") F.s4 (.ref 240), eD P (S "deeds") F.s5 (.ref 241), eD P (S "gone") F.s6 (.ref 244), eD P (S "there") F.s7 (.ref 245), eD P (S "due") F.s8 (.ref 246),
   eD P (S "clock") F.kc (.int V.c V.ct), eD P (S "came") F.km (.int V.m V.mt)]
noncomputable def lawE3 (P : Params) (F : FT) (V : FV) : List DictEntry := [eD P (S "k") F.kk (.int V.k V.kt), eD P (S "x") F.kx (.int V.x V.xt), eD P (S "comes") F.kb (.bool V.b)]
noncomputable def lawF (P : Params) (F : FT) (V : FV) : Obj := ⟨.type "frame", none, match V.tk with
  | none => .dict (lawE10 P F V ++ lawE3 P F V).toArray 13
  | some t => .dict (lawE10 P F V ++ lawE3 P F V ++ [eD P (S "tick") F.ktk (.int t.1 t.2)]).toArray 14, #[]⟩
structure NT where
  (n1 n2 n3 n4 : Tok)
noncomputable def NT.at (N : NT) : List Wd := [([97], N.n1), ([98, 34], N.n2), ([35], N.n3), ([99], N.n4)]
noncomputable def namesO (N : NT) : Obj := listO (N.at.map rowV) 0
noncomputable def riO (i r : Int) : Obj := ⟨.type "range_iterator", none, .fields #[.int i 0, .int r 0, .int 1 0], #[]⟩
noncomputable def fLaw : Stmt := fTop 17
noncomputable def lawEnv : Env := { scope := fScope fLaw, locals := 210, globals := 3, cells := [(S "ways", 211)], qual := S "law.<locals>.", func := some 208, code := .ref 207, frame := some 210, builtins := 0 }
noncomputable def mainFor : Stmt := ((fBody fLaw)[4]?).getD (.Pass ⟨0, 0, 0, 0⟩)
noncomputable def tlFor : Stmt := ((forB mainFor)[4]?).getD (.Pass ⟨0, 0, 0, 0⟩)
noncomputable def tlC (it : Addr) : Code := .forLoop (forT tlFor) (.ref it) (forB tlFor) (forE tlFor) lawEnv
/-- the stack above which the tick loop stands -/
structure Su where
  (t3 : PySem.Expr) (v3 : Value) (b3 o3 s2 : List Stmt) (e4 e5 : Env) (p4 p5 p6 : Pos)
noncomputable def Su.list (u : Su) : List (Code × Pos) := [(.forLoop u.t3 u.v3 u.b3 u.o3 u.e4, u.p4), (.func u.s2 u.e5, u.p5), (.builtin "claim.caller" {}, u.p6)]
/-- the stack of a tick called from the loop -/
noncomputable def Su.sv (u : Su) (it : Addr) (p : Pos) : Sv := ⟨true, .Constant .none 0 ⟨0, 0, 0, 0⟩, forT tlFor, u.t3, [], default, ⟨0, 0, 0, 0⟩, 0, .none, .ref it, u.v3, .none, [], forB tlFor, u.b3, [], forE tlFor, u.o3, [], u.s2, default, default, lawEnv, u.e4, u.e5, ⟨0, 0, 0, 0⟩, ⟨0, 0, 0, 0⟩, p, u.p4, u.p5, u.p6⟩
noncomputable def tlPre (P : Params) (T : LP) (F : FT) (V : FV) (N : NT) (it : Addr) (io : Obj) (lr : List Wd) (pr : List PR) (e1 e2 : Nat) : List (Addr × Obj) :=
  [(210, lawF P F V), (it, io), (240, namesO N), (183, cacheO), (228, instO 177 227), (227, lexD P T.k0 T.k1 T.k2 T.k3 1 T.lt 216 T.wt 230), (230, listO (lr.map rowV) e1), (232, pileO 231 (pr.map PR.ref) e2), (231, pdO P (L0 T 0))] ++ tups pr
noncomputable def sentN : Nat → List Nat → List Nat
  | 0, w => w
  | n + 1, w => sentN n (sent w)
/-- behind `t` ticks; `lw`, `pw`: the words ahead of them -/
noncomputable def QTL (P : Params) (T : LP) (F : FT) (V : FV) (N : NT) (it : Addr) (lw pw : List (List Nat)) (n t : Nat) (o : Outc) : Prop :=
  ∃ (lr' : List Wd) (pr' : List PR) (us : List Obj) (e1 e2 top tok ct ktk : Nat) (tv : Int × Tok) (io : Obj), lr'.map (·.1) = lw.map (sentN t) ∧ pr'.map (·.x.1) = pw.map (sentN t) ∧ us.length = n ∧
    o = ⟨.ok .next, ((tlPre P T { F with ktk := ktk } { V with c := V.c + t, ct := ct, tk := some tv } N it io lr' pr' e1 e2).take 9).map (·.2) ++ us, tups pr', top, tok⟩
/-- the loop's end -/
noncomputable def QEndL (o : Outc) : Prop := ∃ io top tok, o = ⟨.ok .next, [io], [], top, tok⟩

theorem QTL.ex (P : Params) (T : LP) (F : FT) (V : FV) (N : NT) (it : Addr) (lw pw : List (List Nat)) (n t : Nat) : ∃ o, QTL P T F V N it lw pw n t o :=
  ⟨_, lw.map fun w => (sentN t w, 0), pw.map fun w => ⟨0, 0, (sentN t w, 0)⟩, List.replicate n default, 0, 0, 0, 0, 0, 0, (0, 0), default, by simp [Function.comp_def], by simp [Function.comp_def], by simp, rfl⟩
theorem QTick.ex (L : LP) (P : Params) (lr : List Wd) (pr : List PR) (ah : List Wd) (e3 : Nat) : ∃ o, QTick L P lr pr ah e3 o :=
  ⟨_, lr.map fun x => (sent x.1, 0), pr.map fun p => ⟨0, 0, (sent p.x.1, 0)⟩, 0, 0, 0, 0, by simp [Function.comp_def], by simp [Function.comp_def], rfl⟩
/-! ## lists of known words -/
theorem wds0 {l : List Wd} (h : l.map (·.1) = []) : l = [] := by simpa using h
theorem wdsC {l : List Wd} {w : List Nat} {ws : List (List Nat)} (h : l.map (·.1) = w :: ws) : ∃ t l', l = (w, t) :: l' ∧ l'.map (·.1) = ws := by
  cases l with
  | nil => cases h
  | cons a l =>
    simp only [List.map_cons, List.cons.injEq] at h
    obtain ⟨rfl, h⟩ := h
    exact ⟨a.2, l, rfl, h⟩
theorem prs0 {l : List PR} (h : l.map (·.x.1) = []) : l = [] := by simpa using h
theorem prsC {l : List PR} {w : List Nat} {ws : List (List Nat)} (h : l.map (·.x.1) = w :: ws) : ∃ a u t l', l = ⟨a, u, (w, t)⟩ :: l' ∧ l'.map (·.x.1) = ws := by
  cases l with
  | nil => cases h
  | cons p l =>
    simp only [List.map_cons, List.cons.injEq] at h
    obtain ⟨a, u, x, t⟩ := p
    obtain ⟨rfl, h⟩ := h
    exact ⟨a, u, t, l, rfl, h⟩
theorem obs0 {l : List Obj} (h : l.length = 0) : l = [] := by simpa using h
theorem obsC {l : List Obj} {n : Nat} (h : l.length = n + 1) : ∃ u l', l = u :: l' ∧ l'.length = n := by
  cases l with
  | nil => cases h
  | cons u l => exact ⟨u, l, rfl, by simpa using h⟩
end Mine
end
noncomputable section
namespace Mine
open PySem PySem.W PySem.W.X

theorem gives_iadd1 (a b : Int) (t u : Tok) : Gives (denote table (.builtin "int.__add__" ⟨[.int a t, .int b u], []⟩)) (.int (a + b)) ∧ MadeOk (.int (a + b)) :=
  ⟨by rw [den_builtin F.entry_int_add]; exact gives_int_add a b t u, trivial⟩
theorem gives_mod (a b : Int) (t u : Tok) (hb : b ≠ 0) : Gives (denote table (.builtin "int.__mod__" ⟨[.int a t, .int b u], []⟩)) (.int (a.fmod b)) ∧ MadeOk (.int (a.fmod b)) := by
  refine ⟨?_, trivial⟩
  rw [den_builtin F.entry_int_mod]
  have hb' : (b == 0) = false := beq_eq_false_iff_ne.mpr hb
  have e : Builtin.«int.__mod__» ⟨[.int a t, .int b u], []⟩ = retInt (a.fmod b) := by
    show (if (b == 0) = true then _ else retInt (a.fmod b)) = _
    rw [hb', if_neg (by decide)]
  rw [e]
  exact .of_eq rfl

/-! ## an item of the three ends -/
noncomputable def endsO (a b c : Tok) : Obj := listO [.str (strOf [13]) a, .str (strOf [10]) b, .str (strOf [13, 10]) c] 0
noncomputable def QE3 (ob : Obj) (o : Outc) : Prop := ∃ e et top tok, (e = [13] ∨ e = [10] ∨ e = [13, 10]) ∧ o = ⟨.ok (.ret (.str (strOf e) et)), [ob], [], top, tok⟩
theorem ctr_ends (w : WK) (bel : List (Code × Pos)) (l : Addr) (a b c : Tok) (r : Int) (rt : Tok) (hr : r = 0 ∨ r = 1 ∨ r = 2) : Ctr (E2 w) bel (.builtin "list.__getitem__" ⟨[.ref l, .int r rt], []⟩) [(l, endsO a b c)] (QE3 (endsO a b c)) := by
  refine ctr_intro (E2 w) den_eq 100000 _ _ _ _ (fun N K p => .fin 1 [1]) ?_
  intro N K p
  rcases hr with rfl | rfl | rfl
  · exact ⟨[], [], .ok (.ret (.str (strOf [13]) a)), [(l, endsO a b c)], [], (N, 0), (K, 0), [], ⟨by kernel_rfl, fun _ h => (nomatch h), trivial, rfl, rfl, ⟨_, _, _, _, .inl rfl, rfl⟩⟩⟩
  · exact ⟨[], [], .ok (.ret (.str (strOf [10]) b)), [(l, endsO a b c)], [], (N, 0), (K, 0), [], ⟨by kernel_rfl, fun _ h => (nomatch h), trivial, rfl, rfl, ⟨_, _, _, _, .inr (.inl rfl), rfl⟩⟩⟩
  · exact ⟨[], [], .ok (.ret (.str (strOf [13, 10]) c)), [(l, endsO a b c)], [], (N, 0), (K, 0), [], ⟨by kernel_rfl, fun _ h => (nomatch h), trivial, rfl, rfl, ⟨_, _, _, _, .inr (.inr rfl), rfl⟩⟩⟩
theorem fmod3 (a : Int) : a.fmod 3 = 0 ∨ a.fmod 3 = 1 ∨ a.fmod 3 = 2 := by
  rw [Int.fmod_eq_emod_of_nonneg _ (by decide)]
  omega

/-! ## the loop's end -/
theorem tlEnd (w : WK) (u : Su) (it : Addr) (i : Int) : Ctr (E2 w) u.list (tlC it) [(it, riO i 0)] QEndL := by
  refine ctr_intro (E2 w) den_eq 100000 _ _ _ _ (fun N K p => .fin 15 [1, 1, 1, 1, 1, 3]) ?_
  intro N K p
  refine ⟨[], [], .ok .next, [(it, riO i 0)], [], (N, 2), (K, 0), [], ⟨?_, fun _ h => (nomatch h), trivial, rfl, rfl, ⟨_, _, _, rfl⟩⟩⟩
  obtain ⟨t3, v3, b3, o3, s2, e4, e5, p4, p5, p6⟩ := u
  kernel_rfl

/-- a contract on the first object alone -/
theorem Ctr.head {E : En} {bel : List (Code × Pos)} {c : Code} {x : Addr × Obj} {extra : List (Addr × Obj)} {Q : Outc → Prop} (h : Ctr E bel c [x] Q) :
    Ctr E bel c (x :: extra) (fun o => ∃ o₁ u, Q o₁ ∧ o₁.upd = [u] ∧ o = ⟨o₁.r, u :: extra.map (·.2), o₁.new, o₁.top, o₁.tok⟩) := by
  intro rest p s hk hp hn hkn hr
  have hn' := List.nodup_cons.mp (by simpa using hn : (x.1 :: extra.map (·.1)).Nodup)
  refine wpCode_mono (fun r s' ⟨o, e, q, P⟩ => ?_) (h rest p s hk (fun y hy => by cases hy with | head => exact hp _ (.head _) | tail _ hy => cases hy) (by simp) (fun y hy => by cases hy with | head => exact hkn _ (.head _) | tail _ hy => cases hy) hr)
  obtain ⟨u, hu⟩ : ∃ u, o.upd = [u] := by
    have := P.upd
    match o.upd, this with
    | [u], _ => exact ⟨u, rfl⟩
    | [], this => exact this.elim
    | _ :: _ :: _, this => exact this.2.elim
  have hU := P.upd
  rw [hu] at hU
  refine ⟨⟨o.r, u :: extra.map (·.2), o.new, o.top, o.tok⟩, e, ⟨o, u, q, hu, rfl⟩, ⟨?_, P.new, P.nodup, fun b ob hb hbn => P.frame b ob hb fun hm => hbn ?_, P.top, P.le, P.tok, P.rest⟩⟩
  · refine ⟨hU.1, ?_⟩
    have : ∀ (l : List (Addr × Obj)), (∀ y ∈ l, y ∈ extra) → Upd s'.heap l (l.map (·.2)) := by
      intro l
      induction l with
      | nil => intro _; trivial
      | cons y l ih =>
        intro hl
        refine ⟨P.frame y.1 y.2 (hp _ (.tail _ (hl y (.head _)))) fun hm => ?_, ih fun z hz => hl z (.tail _ hz)⟩
        have hy : y.1 = x.1 := by simpa using hm
        exact hn'.1 (hy ▸ List.mem_map_of_mem (hl y (.head _)))
    exact this extra fun y hy => hy
  · have : b = x.1 := by simpa using hm
    rw [this]; simp

noncomputable def smallK (k : Nat) (ws : List (List Nat)) : Prop := ∀ w ∈ ws, w.length + k < 1000
theorem small0 {k : Nat} {ws : List (List Nat)} (h : smallK k ws) : small ws := fun w hw => by have := h w hw; omega
theorem small1 (ws : List (List Nat)) (h : smallK 1 ws) : small (ws.map sent) := fun x hx => by
  obtain ⟨v, hv, rfl⟩ := List.mem_map.mp hx
  have := h v hv
  have := sent_len v
  omega
end Mine
end
noncomputable section
namespace Mine
open PySem PySem.W PySem.W.X

/-! ## the main loop, as plain data -/
noncomputable def nm : Nat → List Nat
  | 0 => [97]
  | 1 => [98, 34]
  | 2 => [35]
  | 3 => [99]
  | _ => []
noncomputable def nms : List (List Nat) := [[97], [98, 34], [35], [99]]
structure AS where
  c : Int
  L : List (Nat × Int)
  Pl : List (Nat × Int)
  G0 : List (Nat × Int)
  G1 : List (Nat × Int)
  D : List (Bool × Int)
  m : Nat
noncomputable def wd (j : Nat) (d : Int) : List Nat := List.replicate d.toNat 46 ++ nm j
inductive Reach : AS → Prop
  | zero : Reach ⟨0, [], [], [], [], [], 0⟩
  | come (a : AS) (t : Int) : Reach a → a.m < 4 → 0 ≤ t → t ≤ 2 → Reach ⟨a.c + t, a.L ++ [(a.m, a.c)], a.Pl ++ [(a.m, a.c)], a.G0, a.G1, a.D ++ [(true, a.c)], a.m + 1⟩
  | go (a : AS) (t : Int) (x y : Nat × Int) (L' Pl' : List (Nat × Int)) : Reach a → a.L = x :: L' → a.Pl = Pl' ++ [y] → 0 ≤ t → t ≤ 2 →
      Reach ⟨a.c + t, L', Pl', a.G0 ++ [(x.1, a.c - x.2 + 1)], a.G1 ++ [(y.1, a.c - y.2 + 1)], a.D ++ [(false, a.c)], a.m⟩
structure Reach.Facts (a : AS) : Prop where
  c0 : 0 ≤ a.c
  c2 : a.c ≤ 2 * a.D.length
  m4 : a.m ≤ 4
  lp : a.L.length = a.Pl.length
  lg : a.G0.length = a.G1.length
  lm : a.G0.length + a.L.length = a.m
  ld : a.D.length = a.m + a.G0.length
  lL : ∀ x ∈ a.L, x.1 < a.m ∧ 0 ≤ x.2 ∧ x.2 ≤ a.c
  lPl : ∀ x ∈ a.Pl, x.1 < a.m ∧ 0 ≤ x.2 ∧ x.2 ≤ a.c
theorem Reach.facts {a : AS} (h : Reach a) : Reach.Facts a := by
  induction h with
  | zero => exact ⟨by decide, by decide, by decide, rfl, rfl, rfl, rfl, fun _ h => (nomatch h), fun _ h => (nomatch h)⟩
  | come a t hr hm h0 h2 ih =>
    obtain ⟨c0, c2, m4, lp, lg, lm, ld, lL, lPl⟩ := ih
    refine ⟨?_, ?_, ?_, ?_, ?_, ?_, ?_, ?_, ?_⟩ <;> dsimp only
    · omega
    · simp only [List.length_append, List.length_cons, List.length_nil]; omega
    · omega
    · simp only [List.length_append, List.length_cons, List.length_nil]; omega
    · omega
    · simp only [List.length_append, List.length_cons, List.length_nil]; omega
    · simp only [List.length_append, List.length_cons, List.length_nil]; omega
    · intro x hx
      rcases List.mem_append.mp hx with hx | hx
      · have := lL x hx; omega
      · have : x = (a.m, a.c) := by simpa using hx
        subst this; dsimp only; omega
    · intro x hx
      rcases List.mem_append.mp hx with hx | hx
      · have := lPl x hx; omega
      · have : x = (a.m, a.c) := by simpa using hx
        subst this; dsimp only; omega
  | go a t x y L' Pl' hr hL hPl h0 h2 ih =>
    obtain ⟨c0, c2, m4, lp, lg, lm, ld, lL, lPl⟩ := ih
    have e1 : a.L.length = L'.length + 1 := by rw [hL]; rfl
    have e2 : a.Pl.length = Pl'.length + 1 := by rw [hPl]; simp
    refine ⟨?_, ?_, ?_, ?_, ?_, ?_, ?_, ?_, ?_⟩ <;> dsimp only
    · omega
    · simp only [List.length_append, List.length_cons, List.length_nil]; omega
    · omega
    · omega
    · simp only [List.length_append, List.length_cons, List.length_nil]; omega
    · simp only [List.length_append, List.length_cons, List.length_nil]; omega
    · simp only [List.length_append, List.length_cons, List.length_nil]; omega
    · intro z hz
      have := lL z (by rw [hL]; exact .tail _ hz); omega
    · intro z hz
      have := lPl z (by rw [hPl]; exact List.mem_append_left _ hz); omega

/-! ## the words -/
theorem sentN_dot : ∀ (n k : Nat) (w : List Nat), sentN n (List.replicate (k + 1) 46 ++ w) = List.replicate (n + (k + 1)) 46 ++ w
  | 0, k, w => by rw [Nat.zero_add]; rfl
  | n + 1, k, w => by
    show sentN n (sent (46 :: (List.replicate k 46 ++ w))) = _
    show sentN n (46 :: 46 :: (List.replicate k 46 ++ w)) = _
    have := sentN_dot n (k + 1) w
    rw [show n + 1 + (k + 1) = n + (k + 1 + 1) by omega]
    exact this
theorem wd_tick (j : Nat) (d t : Int) (hd : 1 ≤ d) (ht : 0 ≤ t) : sentN t.toNat (wd j d) = wd j (d + t) := by
  unfold wd
  obtain ⟨k, hk⟩ : ∃ k, d.toNat = k + 1 := ⟨d.toNat - 1, by omega⟩
  rw [hk, sentN_dot, show (d + t).toNat = t.toNat + (k + 1) by omega]
theorem nm_ok (j : Nat) (hj : j < 4) : okWord (nm j) := by
  rcases (by omega : j = 0 ∨ j = 1 ∨ j = 2 ∨ j = 3) with rfl | rfl | rfl | rfl
  · exact ⟨97, [], rfl, by decide, by decide⟩
  · exact ⟨98, [34], rfl, by decide, by decide⟩
  · exact ⟨35, [], rfl, by decide, by decide⟩
  · exact ⟨99, [], rfl, by decide, by decide⟩
theorem dot_ok {w : List Nat} (h : okWord w) : okWord (46 :: w) := by
  obtain ⟨x, v, rfl, h0, h1⟩ := h
  refine ⟨46, x :: v, rfl, by decide, fun y hy => ?_⟩
  cases hy with
  | head =>
    have : ∀ z ∈ signs0, z ∈ signs := by decide
    exact this _ h0
  | tail _ hy => exact h1 y hy
theorem rep_ok {w : List Nat} (h : okWord w) : ∀ n, okWord (List.replicate n 46 ++ w)
  | 0 => h
  | n + 1 => dot_ok (rep_ok h n)
theorem wd_ok (j : Nat) (d : Int) (hj : j < 4) : okWord (wd j d) := rep_ok (nm_ok j hj) _
theorem nm_len (j : Nat) : (nm j).length ≤ 2 := by
  unfold nm
  split <;> decide
theorem wd_len (j : Nat) (d : Int) (h : d ≤ 500) : (wd j d).length + 2 < 1000 := by
  unfold wd
  have := nm_len j
  simp only [List.length_append, List.length_replicate]
  omega
end Mine
end
noncomputable section
namespace Mine
open PySem PySem.W PySem.W.X

/-! ## a tick, of lists -/
theorem byW0 {α : Type} {P : List α → Prop} (h : P []) (l : List α) (hl : l.length = 0) : P l := by
  obtain rfl := List.length_eq_zero_iff.mp hl
  exact h
theorem byW {α : Type} {n : Nat} {P : List α → Prop} (h : ∀ (x : α) (l : List α), l.length = n → P (x :: l)) (l : List α) (hl : l.length = n + 1) : P l := by
  cases l with
  | nil => cases hl
  | cons x l => exact h x l (Nat.succ.inj hl)
theorem rowsS {α β : Type} {n : Nat} {Q : List α → List β → Prop} (h : ∀ x y (l : List α) (m : List β), l.length = n → m.length = n → Q (x :: l) (y :: m)) (l : List α) (m : List β) (hl : l.length = n + 1) (hm : m.length = n + 1) : Q l m :=
  byW (P := fun l => Q l m) (fun x l' hl' => byW (P := fun m => Q (x :: l') m) (fun y m' hm' => h x y l' m' hl' hm') m hm) l hl
theorem rows0 {α β : Type} {Q : List α → List β → Prop} (h : Q [] []) (l : List α) (m : List β) (hl : l.length = 0) (hm : m.length = 0) : Q l m :=
  byW0 (P := fun l => Q l m) (byW0 (P := fun m => Q [] m) h m hm) l hl
theorem rows1 {α β : Type} {Q : List α → List β → Prop} (h : ∀ x y, Q [x] [y]) (l : List α) (m : List β) (hl : l.length = 1) (hm : m.length = 1) : Q l m :=
  rowsS (fun x y l m hl hm => rows0 (Q := fun l m => Q (x :: l) (y :: m)) (h x y) l m hl hm) l m hl hm
theorem rows2 {α β : Type} {Q : List α → List β → Prop} (h : ∀ x x2 y y2, Q [x, x2] [y, y2]) (l : List α) (m : List β) (hl : l.length = 2) (hm : m.length = 2) : Q l m :=
  rowsS (fun x y l m hl hm => rows1 (Q := fun l m => Q (x :: l) (y :: m)) (fun x2 y2 => h x x2 y y2) l m hl hm) l m hl hm
theorem rows3 {α β : Type} {Q : List α → List β → Prop} (h : ∀ x x2 x3 y y2 y3, Q [x, x2, x3] [y, y2, y3]) (l : List α) (m : List β) (hl : l.length = 3) (hm : m.length = 3) : Q l m :=
  rowsS (fun x y l m hl hm => rows2 (Q := fun l m => Q (x :: l) (y :: m)) (fun x2 x3 y2 y3 => h x x2 x3 y y2 y3) l m hl hm) l m hl hm
theorem rows4 {α β : Type} {Q : List α → List β → Prop} (h : ∀ x x2 x3 x4 y y2 y3 y4, Q [x, x2, x3, x4] [y, y2, y3, y4]) (l : List α) (m : List β) (hl : l.length = 4) (hm : m.length = 4) : Q l m :=
  rowsS (fun x y l m hl hm => rows3 (Q := fun l m => Q (x :: l) (y :: m)) (fun x2 x3 x4 y2 y3 y4 => h x x2 x3 x4 y y2 y3 y4) l m hl hm) l m hl hm
theorem upto1 {n : Nat} (h : n ≤ 1) : n = 0 ∨ n = 1 := by omega
theorem upto2 {n : Nat} (h : n ≤ 2) : n = 0 ∨ n = 1 ∨ n = 2 := by omega
theorem upto3 {n : Nat} (h : n ≤ 3) : n = 0 ∨ n = 1 ∨ n = 2 ∨ n = 3 := by omega
theorem upto4 {n : Nat} (h : n ≤ 4) : n = 0 ∨ n = 1 ∨ n = 2 ∨ n = 3 ∨ n = 4 := by omega
theorem from1 {n : Nat} (h : 1 ≤ n) (g : n ≤ 4) : n = 1 ∨ n = 2 ∨ n = 3 ∨ n = 4 := by omega
noncomputable def TickOk (w : WK) (σ : Sv) (T : LP) (ah : Addr) (e : List Nat) (et : Tok) (e1 e2 : Nat) (al : List Wd) (lr : List Wd) (pr : List PR) : Prop :=
  (∀ x ∈ lr.map (·.1) ++ pr.map (·.x.1) ++ al.map (·.1), okWord x) → small (lr.map (·.1) ++ pr.map (·.x.1) ++ al.map (·.1)) →
    Ctr (E2 w) σ.bt (.call (.ref 193) ⟨[.ref 228, .ref 232, .ref ah, .str (strOf e) et], []⟩) ((L0 T ah).seven w.params lr pr al e1 e2 0 ++ tups pr) (QF (fTkk (L0 T ah) w.params lr pr al 0))
section
variable (w : WK) (σ : Sv) (T : LP) (ah : Addr) (e : List Nat) (et : Tok) (e1 e2 : Nat) (he : e = [13] ∨ e = [10] ∨ e = [13, 10]) (J : NT)
include he
theorem tickAll (came n : Nat) (lr : List Wd) (pr : List PR) (h1 : 1 ≤ came) (h4 : came ≤ 4) (hnc : n ≤ came) (hl : lr.length = n) (hp : pr.length = n) : TickOk w σ T ah e et e1 e2 (J.at.drop came) lr pr := by
  rcases from1 h1 h4 with rfl | rfl | rfl | rfl
  · rcases upto1 hnc with rfl | rfl
    · exact rows0 (tick_0_3 w σ T ah e et e1 e2 0 _ _ _ he) lr pr hl hp
    · exact rows1 (fun x y => tick_1_3 w σ T ah e et e1 e2 0 _ _ _ _ _ _ _ _ _ he) lr pr hl hp
  · rcases upto2 hnc with rfl | rfl | rfl
    · exact rows0 (tick_0_2 w σ T ah e et e1 e2 0 _ _ he) lr pr hl hp
    · exact rows1 (fun x y => tick_1_2 w σ T ah e et e1 e2 0 _ _ _ _ _ _ _ _ he) lr pr hl hp
    · exact rows2 (fun x x2 y y2 => tick_2_2 w σ T ah e et e1 e2 0 _ _ _ _ _ _ _ _ _ _ _ _ _ _ he) lr pr hl hp
  · rcases upto3 hnc with rfl | rfl | rfl | rfl
    · exact rows0 (tick_0_1 w σ T ah e et e1 e2 0 _ he) lr pr hl hp
    · exact rows1 (fun x y => tick_1_1 w σ T ah e et e1 e2 0 _ _ _ _ _ _ _ he) lr pr hl hp
    · exact rows2 (fun x x2 y y2 => tick_2_1 w σ T ah e et e1 e2 0 _ _ _ _ _ _ _ _ _ _ _ _ _ he) lr pr hl hp
    · exact rows3 (fun x x2 x3 y y2 y3 => tick_3_1 w σ T ah e et e1 e2 0 _ _ _ _ _ _ _ _ _ _ _ _ _ _ _ _ _ _ _ he) lr pr hl hp
  · rcases upto4 hnc with rfl | rfl | rfl | rfl | rfl
    · exact rows0 (tick_0_0 w σ T ah e et e1 e2 0 he) lr pr hl hp
    · exact rows1 (fun x y => tick_1_0 w σ T ah e et e1 e2 0 _ _ _ _ _ _ he) lr pr hl hp
    · exact rows2 (fun x x2 y y2 => tick_2_0 w σ T ah e et e1 e2 0 _ _ _ _ _ _ _ _ _ _ _ _ he) lr pr hl hp
    · exact rows3 (fun x x2 x3 y y2 y3 => tick_3_0 w σ T ah e et e1 e2 0 _ _ _ _ _ _ _ _ _ _ _ _ _ _ _ _ _ _ he) lr pr hl hp
    · exact rows4 (fun x x2 x3 x4 y y2 y3 y4 => tick_4_0 w σ T ah e et e1 e2 0 _ _ _ _ _ _ _ _ _ _ _ _ _ _ _ _ _ _ _ _ _ _ _ _ he) lr pr hl hp
end
end Mine
end
noncomputable section
namespace Mine
open PySem PySem.W PySem.W.X

/-! ## the tick loop, of lists -/
noncomputable abbrev E3 := {e : List Nat // e = [13] ∨ e = [10] ∨ e = [13, 10]}
noncomputable def fE3 (ob : Obj) (d : E3 × Tok × Nat × Nat) : Outc := ⟨.ok (.ret (.str (strOf d.1.1) d.2.1)), [ob], [], d.2.2.1, d.2.2.2⟩
theorem ctF_ends (w : WK) (bel : List (Code × Pos)) (l : Addr) (a b c : Tok) (r : Int) (rt : Tok) (hr : r = 0 ∨ r = 1 ∨ r = 2) : Ctr (E2 w) bel (.builtin "list.__getitem__" ⟨[.ref l, .int r rt], []⟩) [(l, endsO a b c)] (QF (fE3 (endsO a b c))) :=
  (ctr_ends w bel l a b c r rt hr).mono fun _ ⟨e, t, x, y, h, q⟩ => ⟨(⟨e, h⟩, t, x, y), q⟩
noncomputable def p138 : Pos := ⟨138, 19, 138, 87⟩
noncomputable def tlX (w : WK) (u : Su) (F : FT) (V : FV) (J : NT) (it : Addr) (p : Pos) (i t : Int) (N K : Nat) (d : E3 × Tok × Nat × Nat) : Option Res := exec ((E2 w).on u.list) 100000
  [.pur 26 [2, 2, 2, 2, 2, 2, 1, 2, 1, 0, 1, 0, 1] (.int (V.c + 1)), .pur 47 [0, 1, 0, 0, 1, 1, 1, 1, 3, 3, 3, 3, 4, 4, 4, 4, 4, 3, 1] (.int ((V.c + 1).fmod 3)), .ctr 8 [6, 6, 6, 6] [5] (fE3 (endsO (K + 5) (K + 6) (K + 7)) d)] 5 [0]
  (x0 (E2 w) (tlC it) p [(210, lawF w.params F V), (it, riO i t), (240, namesO J)] N K)
noncomputable def tlF (F : FT) (V : FV) (K : Nat) : FT := match V.tk with
  | none => { F with ktk := K + 1 }
  | some _ => F
noncomputable def tlV (V : FV) (i : Int) (K : Nat) : FV := { V with c := V.c + 1, ct := K + 3, tk := some (i, K + 0) }
noncomputable def tlG (V : FV) (K : Nat) : List (Code × Made) := [(.builtin "int.__add__" ⟨[.int V.c V.ct, .int 1 (K + 2)], []⟩, .int (V.c + 1)), (.builtin "int.__mod__" ⟨[.int (V.c + 1) (K + 3), .int 3 (K + 8)], []⟩, .int ((V.c + 1).fmod 3))]
noncomputable def tlQ (V : FV) (N K : Nat) : List Qv := [(none, .builtin "list.__getitem__" ⟨[.ref (N + 2), .int ((V.c + 1).fmod 3) (K + 9)], []⟩, [(N + 2, endsO (K + 5) (K + 6) (K + 7))])]
noncomputable def tlL (P : Params) (F : FT) (V : FV) (J : NT) (it : Addr) (i t : Int) (N K came : Nat) : List (Addr × Obj) := [(210, lawF P (tlF F V K) (tlV V i K)), (it, riO (i + 1) (t - 1)), (240, namesO J), (N + 1, listO ((J.at.drop came).map rowV) 0)]
noncomputable def tkCall (ah : Addr) (e : List Nat) (et : Tok) : Code := .call (.ref 193) ⟨[.ref 228, .ref 232, .ref ah, .str (strOf e) et], []⟩
noncomputable def tlEq (w : WK) (u : Su) (F : FT) (V : FV) (J : NT) (it : Addr) (p : Pos) (i t : Int) (N K : Nat) (d : E3 × Tok × Nat × Nat) (came : Nat) : Prop :=
  lhsE ((E2 w).on u.list) (tlX w u F V J it p i t N K d) (tlQ V N K) [0, 1, 2, 4] = rhsE (tlX w u F V J it p i t N K d) (tlG V K) (tlQ V N K) (.cal (tkCall (N + 1) d.1.1 d.2.1) ((tlC it, p138) :: u.list)) (tlL w.params F V J it i t N K came) (d.2.2.1, 0) (d.2.2.2, 0)
theorem tl_eq (w : WK) (u : Su) (F : FT) (V : FV) (J : NT) (it : Addr) (p : Pos) (i t : Int) (N K : Nat) (d : E3 × Tok × Nat × Nat) (came : Nat) (h1 : 1 ≤ came) (h4 : came ≤ 4) (hV : V.m = (came : Int)) (ht : t = 1 ∨ t = 2) : tlEq w u F V J it p i t N K d came := by
  obtain ⟨c, ct, m, mt, k, kt, x, xt, b, tk⟩ := V
  dsimp only at hV
  subst hV
  rcases from1 h1 h4 with rfl | rfl | rfl | rfl <;> rcases ht with rfl | rfl <;> cases tk <;> (unfold tlEq; kernel_rfl)
noncomputable def tlEq2 (w : WK) (u : Su) (F : FT) (V : FV) (J : NT) (it : Addr) (p : Pos) (i t : Int) (N K : Nat) (d : E3 × Tok × Nat × Nat) (M L : Nat) : Prop :=
  lhsE ((E2 w).on u.list) (exec ((E2 w).on u.list) 100000 [] 2 [] (cutX (tlX w u F V J it p i t N K d) (.ok (.ret (.bool true))) ⟨treeOf [], 0, M, 0, L, 0⟩)) [] [] = rhsE (exec ((E2 w).on u.list) 100000 [] 2 [] (cutX (tlX w u F V J it p i t N K d) (.ok (.ret (.bool true))) ⟨treeOf [], 0, M, 0, L, 0⟩)) [] [] (.nxt (tlC it)) [] (M, 0) (L, 0)
theorem tl_eq2 (w : WK) (u : Su) (F : FT) (V : FV) (J : NT) (it : Addr) (p : Pos) (i t : Int) (N K : Nat) (d : E3 × Tok × Nat × Nat) (came : Nat) (h1 : 1 ≤ came) (h4 : came ≤ 4) (hV : V.m = (came : Int)) (ht : t = 1 ∨ t = 2) (M L : Nat) : tlEq2 w u F V J it p i t N K d M L := by
  obtain ⟨c, ct, m, mt, k, kt, x, xt, b, tk⟩ := V
  dsimp only at hV
  subst hV
  rcases from1 h1 h4 with rfl | rfl | rfl | rfl <;> rcases ht with rfl | rfl <;> cases tk <;> (unfold tlEq2; kernel_rfl)

/-- the words that a tick sends may still grow by so much -/
noncomputable def Grow (k : Nat) (ws : List (List Nat)) : Prop := ∀ x ∈ ws, okWord x ∧ x.length + k < 1000
theorem Grow.sent {k : Nat} {ws : List (List Nat)} (h : Grow (k + 1) ws) : Grow k (ws.map sent) := fun x hx => by
  obtain ⟨v, hv, rfl⟩ := List.mem_map.mp hx
  have := (h v hv).2
  have := sent_len v
  exact ⟨(h v hv).1.sent, by omega⟩
theorem Grow.le {k j : Nat} {ws : List (List Nat)} (h : Grow k ws) (hj : j ≤ k) : Grow j ws := fun x hx => ⟨(h x hx).1, by have := (h x hx).2; omega⟩
noncomputable def rows (lr : List Wd) (pr : List PR) : List (List Nat) := lr.map (·.1) ++ pr.map (·.x.1)
theorem drop_words (J : NT) (m : Nat) : (J.at.drop m).map (·.1) = nms.drop m := by rw [List.map_drop]; rfl
theorem nms_grow (m : Nat) : Grow 2 (nms.drop m) := fun x hx => by
  have : x = nm 0 ∨ x = nm 1 ∨ x = nm 2 ∨ x = nm 3 := by simpa [nms, nm] using List.mem_of_mem_drop hx
  rcases this with rfl | rfl | rfl | rfl <;> exact ⟨nm_ok _ (by decide), by decide⟩
noncomputable abbrev tl6 (P : Params) (T : LP) (lr : List Wd) (pr : List PR) (e1 e2 : Nat) : List (Addr × Obj) := [(183, cacheO), (228, instO 177 227), (227, lexD P T.k0 T.k1 T.k2 T.k3 1 T.lt 216 T.wt 230), (230, listO (lr.map rowV) e1), (232, pileO 231 (pr.map PR.ref) e2), (231, pdO P (L0 T 0))]

section
variable (w : WK) (u : Su) (T : LP) (J : NT) (it : Addr) (came n : Nat) (h1 : 1 ≤ came) (h4 : came ≤ 4) (hnc : n ≤ came) {rest : Array GenState × Drawn × OsState} {m0 : List Addr} {s0 : Shared} (R : Result → Shared → Prop)
include h1 h4 hnc
theorem tl_turn (F : FT) (V : FV) (i t : Int) (lr : List Wd) (pr : List PR) (e1 e2 : Nat) (extra : List (Addr × Obj)) (p : Pos) (s : Shared) (ht : t = 1 ∨ t = 2) (hl : lr.length = n) (hp : pr.length = n) (hV : V.m = (came : Int)) (hg : Grow 0 (rows lr pr))
    (h : At (E2 w).kt rest m0 s0 s (tlPre w.params T F V J it (riO i t) lr pr e1 e2 ++ extra))
    (next : ∀ (lr' : List Wd) (pr' : List PR) (e1 e2 K : Nat) p' s', lr'.map (·.1) = (lr.map (·.1)).map sent → pr'.map (·.x.1) = (pr.map (·.x.1)).map sent →
      At (E2 w).kt rest m0 s0 s' (tlPre w.params T (tlF F V K) (tlV V i K) J it (riO (i + 1) (t - 1)) lr' pr' e1 e2 ++ extra) → wpCode (E2 w).M (Γof (tlC it) u.list) R p' s') :
    wpCode (E2 w).M (Γof (tlC it) u.list) R p s := by
  have h1' : At (E2 w).kt rest m0 s0 s ([(210, lawF w.params F V), (it, riO i t), (240, namesO J)] ++ (tl6 w.params T lr pr e1 e2 ++ (tups pr ++ extra))) := h
  refine wp_run (E2 w) den_eq 100000 u.list _ p s _ h1'.left.loc h.since.ktk h.since.rest R (fun N K => .pur 26 [2, 2, 2, 2, 2, 2, 1, 2, 1, 0, 1, 0, 1] (.int (V.c + 1)) <| .pur 47 [0, 1, 0, 0, 1, 1, 1, 1, 3, 3, 3, 3, 4, 4, 4, 4, 4, 3, 1] (.int ((V.c + 1).fmod 3)) <|
    .dat 8 [6, 6, 6, 6] [5] (fE3 (endsO (K + 5) (K + 6) (K + 7))) (⟨_, .inl rfl⟩, 0, 0, 0) fun d => .fin 5 [0]) fun N K _ _ d => .mk' (tlG V K) (tlQ V N K) (.cal (tkCall (N + 1) d.1.1 d.2.1) ((tlC it, p138) :: u.list)) (tlL w.params F V J it i t N K came) (d.2.2.1, 0) (d.2.2.2, 0) [0, 1, 2, 4]
    (tl_eq w u F V J it p i t N K d came h1 h4 hV ht) (consG (gives_iadd1 _ _ _ _) (oneG (gives_mod _ _ _ _ (by decide)))) ⟨fun b => (ctF_ends w b _ _ _ _ _ _ (fmod3 _)).toH, trivial⟩ rfl fun p1 s1 A1 => ?_
  have h2 := h1'.step rfl A1
  have h3 : At (E2 w).kt rest m0 s0 s1 (((L0 T (N + 1)).seven w.params lr pr (J.at.drop came) e1 e2 0 ++ tups pr) ++ ([(210, lawF w.params (tlF F V K) (tlV V i K)), (it, riO (i + 1) (t - 1)), (240, namesO J)] ++ extra)) := h2.pk2 [tups pr, extra] [4, 5, 6, 7, 8, 9, 3, 10, 0, 1, 2, 11] rfl
  have hws : Grow 0 (lr.map (·.1) ++ pr.map (·.x.1) ++ (J.at.drop came).map (·.1)) := fun x hx => by
    rcases List.mem_append.mp hx with hx | hx
    · exact hg x hx
    · rw [drop_words] at hx
      exact (nms_grow came).le (Nat.zero_le _) x hx
  refine wpCode_mono (fun r s2 ho => ?_) (At.use (tickAll w (u.sv it p138) T (N + 1) d.1.1 d.2.1 e1 e2 d.1.2 J came n lr pr h1 h4 hnc hl hp (fun x hx => (hws x hx).1) fun x hx => (hws x hx).2) h3)
  obtain ⟨_, rfl, ⟨d2, rfl⟩, h4'⟩ := ho
  have h5 : At (E2 w).kt rest m0 s0 s2 ((L0 T (N + 1)).seven w.params d2.1.1 d2.2.1.1 (J.at.drop came) d2.2.2.1 d2.2.2.2.1 0 ++ (((tups pr).map (·.1)).zip (pr.map tupW) ++ ([(210, lawF w.params (tlF F V K) (tlV V i K)), (it, riO (i + 1) (t - 1)), (240, namesO J)] ++ (extra ++ tups d2.2.1.1)))) := h4'.assoc
  have h6 : At (E2 w).kt rest m0 s0 s2 (tlPre w.params T (tlF F V K) (tlV V i K) J it (riO (i + 1) (t - 1)) d2.1.1 d2.2.1.1 d2.2.2.1 d2.2.2.2.1 ++ extra) := h5.pkx [extra, tups d2.2.1.1] [8, 9, 10, 0, 1, 2, 3, 4, 5, 12, 11] rfl
  refine run_on (E2 w) den_eq 100000 u.list _ _ s2 [] (rest := rest) ⟨fun _ h => (nomatch h), List.nodup_nil, fun _ h => (nomatch h)⟩ h6.since.ktk h6.since.rest R (fun N K => .fin 2 []) fun M L _ _ => ?_
  refine FinI.mk' [] [] (.nxt (tlC it)) [] (M, 0) (L, 0) [] (tl_eq2 w u F V J it p i t N K d came h1 h4 hV ht M L) noG trivial rfl fun p4 s4 A4 => ?_
  exact next d2.1.1 d2.2.1.1 _ _ K p4 s4 (by rw [d2.1.2, List.map_map]; rfl) (by rw [d2.2.1.2, List.map_map]; rfl) (h6.step0 A4)
omit h1 h4 hnc in
theorem tl_end (F : FT) (V : FV) (i : Int) (lr : List Wd) (pr : List PR) (e1 e2 : Nat) (extra : List (Addr × Obj)) (p : Pos) (s : Shared) (h : At (E2 w).kt rest m0 s0 s (tlPre w.params T F V J it (riO i 0) lr pr e1 e2 ++ extra))
    (next : ∀ s', At (E2 w).kt rest m0 s0 s' (tlPre w.params T F V J it (riO i 0) lr pr e1 e2 ++ extra) → R (.ok .next) s') : wpCode (E2 w).M (Γof (tlC it) u.list) R p s := by
  have h' : At (E2 w).kt rest m0 s0 s ([(it, riO i 0)] ++ ([(210, lawF w.params F V), (240, namesO J)] ++ (tl6 w.params T lr pr e1 e2 ++ (tups pr ++ extra)))) := h.perm (List.Perm.swap _ _ _)
  refine wp_run (E2 w) den_eq 100000 u.list _ p s _ h'.left.loc h.since.ktk h.since.rest R (fun N K => .fin 15 [1, 1, 1, 1, 1, 3]) fun N K _ _ => ?_
  refine .mk' [] [] (.ans (.ok .next)) [(it, riO i 0)] (N, 2) (K, 0) [0] (by kernel_rfl) noG trivial rfl fun s' A => ?_
  exact next s' ((h'.step rfl A).perm (List.Perm.swap _ _ _))
theorem tick_loop : ∀ (r : Nat) (i : Int) (F : FT) (V : FV) (lr : List Wd) (pr : List PR) (e1 e2 : Nat) (extra : List (Addr × Obj)) (p : Pos) (s : Shared), r ≤ 2 → lr.length = n → pr.length = n → V.m = (came : Int) → Grow r (rows lr pr) →
    At (E2 w).kt rest m0 s0 s (tlPre w.params T F V J it (riO i (r : Nat)) lr pr e1 e2 ++ extra) →
    (∀ (F' : FT) (V' : FV) (lr' : List Wd) (pr' : List PR) (e1 e2 : Nat) (io : Obj) s', lr'.map (·.1) = (lr.map (·.1)).map (sentN r) → pr'.map (·.x.1) = (pr.map (·.x.1)).map (sentN r) → V'.c = V.c + (r : Nat) → V'.m = V.m →
      At (E2 w).kt rest m0 s0 s' (tlPre w.params T F' V' J it io lr' pr' e1 e2 ++ extra) → R (.ok .next) s') → wpCode (E2 w).M (Γof (tlC it) u.list) R p s
  | 0, i, F, V, lr, pr, e1, e2, extra, p, s, _, hl, hp, hV, hg, h, hR => by
    refine tl_end w u T J it R F V i lr pr e1 e2 extra p s h fun s' h' => hR F V lr pr e1 e2 _ s' ?_ ?_ (Int.add_zero _).symm rfl h'
    · exact (List.map_id' _).symm
    · exact (List.map_id' _).symm
  | r + 1, i, F, V, lr, pr, e1, e2, extra, p, s, h2, hl, hp, hV, hg, h, hR => by
    refine tl_turn w u T J it came n h1 h4 hnc R F V i ((r + 1 : Nat) : Int) lr pr e1 e2 extra p s (by omega) hl hp hV (hg.le (Nat.zero_le _)) h ?_
    intro lr' pr' e1' e2' K p' s' hl' hp' hA
    have len : ∀ {α β γ : Type} {l : List α} {l' : List β} {f : α → γ} {g : β → γ}, l.map f = l'.map g → l.length = l'.length := fun h => by simpa using congrArg List.length h
    have e0 : ((r + 1 : Nat) : Int) - 1 = (r : Nat) := by omega
    rw [e0] at hA
    refine tick_loop r (i + 1) _ (tlV V i K) lr' pr' e1' e2' extra p' s' (by omega) ((len (hl'.trans (List.map_map ..))).trans hl) ((len (hp'.trans (List.map_map ..))).trans hp) hV ?_ hA ?_
    · have := hg.sent
      unfold rows at this ⊢
      rw [hl', hp', ← List.map_append]
      exact this
    · intro F' V' lr2 pr2 e1'' e2'' io s'' hl2 hp2 hc hm hA2
      refine hR F' V' lr2 pr2 e1'' e2'' io s'' ?_ ?_ ?_ hm hA2
      · rw [hl2, hl', List.map_map]; rfl
      · rw [hp2, hp', List.map_map]; rfl
      · rw [hc]
        show V.c + 1 + _ = _
        omega
end
end Mine
end
noncomputable section
namespace Mine
open PySem PySem.W PySem.W.X

/-! ## list.append on a list of any length -/
noncomputable def QApp (xs : List Value) (v : Value) (o : Outc) : Prop := ∃ k top tok, o = ⟨.ok (.ret .none), [listO (xs ++ [v]) k], [], top, tok⟩
theorem ctr_append (E : En) (bel : List (Code × Pos)) (l : Addr) (xs : List Value) (ep : Nat) (v : Value) (hx : xs.length < 100000) :
    Ctr E bel (.builtin "list.append" ⟨[.ref l, v], []⟩) [(l, listO xs ep)] (QApp xs v) := by
  refine ctr_body F.entry_list_append fun A s rest hh hk hp hn hkn hr => ?_
  have hl : s.heap.get? l = some (listO xs ep) := hp _ (.head _)
  show wpAny _ A (updateSeq l (·.push v) >>= fun _ => ret .none) _ _ s
  refine wpAny_bind ?_
  refine wpAny_updateSeq hl rfl ?_ (by rw [List.size_toArray]; have : sizeLine = 16777216 := rfl; omega) (by rw [Array.size_push, List.size_toArray]; have : sizeLine = 16777216 := rfl; omega)
  have hs := Heap.SameBut.update s.heap l (Obj.mapSeq (·.push v))
  obtain ⟨k, e⟩ : ∃ k, Obj.mapSeq (·.push v) (listO xs ep) = listO (xs ++ [v]) k := by
    simp only [Obj.mapSeq, listO, List.push_toArray]
    exact ⟨_, rfl⟩
  have hl' : (s.heap.update l (Obj.mapSeq (·.push v))).get? l = some (listO (xs ++ [v]) k) := by
    rw [← e]; exact Heap.get?_update_self _ hl rfl
  refine wpAny_pure ⟨⟨.ok (.ret .none), [listO (xs ++ [v]) k], [], s.heap.objs.size, s.toks⟩, rfl, ⟨_, _, _, rfl⟩, ?_⟩
  have := post_mv (r := .ok (.ret .none)) (s₁ := { s with heap := s.heap.update l (Obj.mapSeq (·.push v)) }) (pre := [(l, listO xs ep)]) (Mv.of_same hs (.head _) rfl) hr (kt := E.kt) (upd_of (upd := [(l, listO (xs ++ [v]) k)]) rfl (fun x hx => by
    obtain rfl : x = _ := by simpa using hx
    exact hl')) s.toks
  rw [Heap.size_update] at this
  exact this
end Mine
end
noncomputable section
namespace Mine
open PySem PySem.W PySem.W.X
open PySem.Sem (wp finPost)

/-! ## a list's iterator, the list of any length -/
noncomputable def liO (l : Addr) (i : Nat) : Obj := ⟨.type "list_iterator", none, .fields #[.ref l, .int i 0], #[]⟩
noncomputable def liX : Obj → Obj := id
noncomputable def QLn (l : Addr) (i : Nat) (v : Value) (ob : Obj) (o : Outc) : Prop := ∃ top tok, o = ⟨.ok (.ret v), [liO l (i + 1), ob], [], top, tok⟩
theorem ctr_lnext (E : En) (bel : List (Code × Pos)) (it l : Addr) (i : Nat) (xs : List Value) (ep : Nat) (v : Value) (hx : xs[i]? = some v) :
    Ctr E bel (.builtin "list_iterator.__next__" ⟨[.ref it], []⟩) [(it, liO l i), (l, listO xs ep)] (QLn l i v (listO xs ep)) := by
  refine ctr_body entry_listiter_next fun A s rest hh hk hp hn hkn hr => ?_
  have ho : s.heap.get? it = some (liO l i) := hp _ (.head _)
  have hol : s.heap.get? l = some (listO xs ep) := hp _ (.tail _ (.head _))
  have hne : it ≠ l := by simpa using hn
  show wpAny _ _ (field (.ref it) 0 >>= _) _ _ s
  refine wpAny_bind (wpAny_field ho rfl (x := .ref l) rfl ?_)
  show wpAny _ _ (if (Value.ref l == Value.none) = true then _ else _) _ _ s
  rw [if_neg (show ¬ ((Value.ref l == Value.none) = true) from Bool.false_ne_true)]
  show wpAny _ _ (field (.ref it) 1 >>= _) _ _ s
  refine wpAny_bind (wpAny_field ho rfl (x := .int i 0) rfl ?_)
  show wpAny _ _ (seqItems? (.ref l) >>= _) _ _ s
  refine wpAny_bind (wpAny_seqItems hol rfl ?_)
  have hx' : xs.toArray[i]? = some v := by simpa using hx
  simp only [Int.toNat_natCast, hx']
  have hs := Heap.SameBut.update s.heap it (Obj.mapFields (·.set! 1 (rawInt ((i : Int) + 1))))
  refine wpAny_bind (wpAny_setField ho rfl (by simp) (wpAny_pure ?_))
  have hl' : (s.heap.update it (Obj.mapFields (·.set! 1 (rawInt ((i : Int) + 1))))).get? it = some (liO l (i + 1)) := by
    rw [Heap.get?_update_self _ ho rfl]
    rfl
  refine ⟨⟨.ok (.ret v), [liO l (i + 1), listO xs ep], [], s.heap.objs.size, s.toks⟩, rfl, ⟨_, _, rfl⟩, ?_⟩
  have := post_mv (r := .ok (.ret v)) (s₁ := { s with heap := s.heap.update it (Obj.mapFields (·.set! 1 (rawInt ((i : Int) + 1)))) }) (pre := [(it, liO l i), (l, listO xs ep)]) (Mv.of_same hs (.head _) rfl) hr (kt := E.kt) (upd_two hl' ((hs.2 l (Ne.symm hne)).trans hol)) s.toks
  rw [Heap.size_update] at this
  exact this
end Mine
end
noncomputable section
namespace Mine
open PySem PySem.W PySem.W.X
open PySem.Sem (wp finPost)

/-! ## the end of a list's iterator -/
noncomputable def liE : Obj := ⟨.type "list_iterator", none, .fields #[.none, .int 0 0], #[]⟩
noncomputable def liEn (i : Nat) : Obj := ⟨.type "list_iterator", none, .fields #[.none, .int i 0], #[]⟩
noncomputable def QLe (i : Nat) (ob : Obj) (o : Outc) : Prop := ∃ a b top tok, o = ⟨.error (.ref a), [liEn i, ob], [(a, excO b)], top, tok⟩
theorem ctr_lend (w : WK) (bel : List (Code × Pos)) (it l : Addr) (i : Nat) (xs : List Value) (ep : Nat) (hx : xs[i]? = none) :
    Ctr (E2 w) bel (.builtin "list_iterator.__next__" ⟨[.ref it], []⟩) [(it, liO l i), (l, listO xs ep)] (QLe i (listO xs ep)) := by
  intro rest p s hk hp hn hkn hr
  have D0 := rp_start hk hp hn hkn hr
  refine wpCode_entry entry_listiter_next ?_
  have ho : s.heap.get? it = some (liO l i) := hp _ (.head _)
  have hol : s.heap.get? l = some (listO xs ep) := hp _ (.tail _ (.head _))
  refine wp_body (t' := field (.ref it) 0 >>= _) rfl ?_
  rw [Sem.wp_bind', wp_field_iff]
  refine ⟨_, _, _, .ref l, rfl, ho, rfl, rfl, ?_⟩
  rw [if_neg (show ¬(Value.ref l == Value.none) = true from Bool.false_ne_true), Sem.wp_bind', wp_field_iff]
  refine ⟨_, _, _, .int i 0, rfl, ho, rfl, rfl, ?_⟩
  rw [Sem.wp_bind']
  refine wp_any1 (v := some xs.toArray) (fun A => wpAny_seqItems hol rfl ⟨rfl, rfl⟩) fun p' => ?_
  have hx' : xs.toArray[i]? = none := by simpa using hx
  simp only [Int.toNat_natCast, hx']
  refine tell (E2 w) den_eq 100000 bel [(it, liO l i), (l, listO xs ep)] (QLe i (listO xs ep)) rest s s (.fin 6 [1, 0]) ⟨.builtin "list_iterator.__next__" ⟨[.ref it], []⟩, p', _, [], _, [], ⟨[], [], []⟩⟩ D0 ?_
  refine ⟨[], [], .error (.ref (s.heap.objs.size + 1)), [(it, liEn i), (l, listO xs ep)], [(s.heap.objs.size + 1, excO (s.heap.objs.size + 0))], (s.heap.objs.size, 2), (s.toks, 0), [3], ⟨?_, fun _ h => (nomatch h), trivial, rfl, rfl, ⟨_, _, _, _, rfl⟩⟩⟩
  kernel_rfl
end Mine
end
noncomputable section
namespace Mine
open PySem PySem.W PySem.W.X
open PySem.Sem (wp finPost)

theorem stepK_size (den : Code → Sem Fin) (prog : Program) (w : World) {s s' : Shared} {t t' : Thread} (h : stepK den prog w s t = .go s' t') : s.heap.objs.size ≤ s'.heap.objs.size := by
  obtain ⟨cur, code, pos, stack⟩ := t
  cases cur with
  | pure fin =>
    cases fin with
    | again c => cases h; exact Nat.le_refl _
    | done f =>
      cases stack with
      | nil => simp only [stepK, step, finish] at h; split at h <;> cases h
      | cons F r => cases F <;> (simp only [stepK, step] at h; cases h; exact Nat.le_refl _)
  | raise e =>
    cases stack with
    | nil => simp only [stepK, step, finish] at h; split at h <;> cases h
    | cons F r => cases F <;> (simp only [stepK, step] at h; cases h; exact Nat.le_refl _)
  | _ =>
    simp only [stepK, step] at h
    repeat' (split at h)
    all_goals first
      | (cases h; done)
      | (cases h; exact Nat.le_refl _)
      | (cases h; dsimp only; rw [Heap.size_push]; exact Nat.le_succ _)
      | (cases h; show _ ≤ (Heap.update _ _ _).objs.size; rw [Heap.size_update]; exact Nat.le_refl _)

theorem step_size (M : Model) {s s' : Shared} {t t' : Thread} (h : M.step s t = .go s' t') : s.heap.objs.size ≤ s'.heap.objs.size := by
  cases hl : t.loud with
  | true => rw [M.step_loud hl] at h; cases h
  | false => rw [M.step_quiet hl] at h; exact stepK_size _ _ _ h
theorem reach_size {M : Model} {base : List PySem.Frame} {s s' : Shared} {t : Sem Fin} {c : Code} {p : Pos} {pre : List PySem.Frame} {e : End} (h : PySem.Reach M base s t c p pre s' e) : s.heap.objs.size ≤ s'.heap.objs.size := by
  induction h with
  | exit _ => exact Nat.le_refl _
  | step hs _ ih => exact Nat.le_trans (step_size M hs) ih

noncomputable def framesOf (bel : List (Code × Pos)) : List PySem.Frame := bel.map fun x => .ret (fun _ => .pure (.done .next)) none false [] x.1 x.2 []
theorem top_frames (b : Bool) : ∀ bel : List (Code × Pos), topHandled.go b (framesOf bel) = none
  | [] => by cases b <;> rfl
  | x :: bel => by
    have := top_frames b bel
    cases b <;> exact this
theorem own_frames : ∀ bel : List (Code × Pos), ownFrames (framesOf bel) = framesOf bel := by
  intro bel
  unfold ownFrames
  have : splitAtGen (framesOf bel) = none := by
    induction bel with
    | nil => rfl
    | cons x bel ih =>
      show (splitAtGen (framesOf bel)).map _ = none
      rw [ih]; rfl
  rw [this]
theorem where_frames (bel : List (Code × Pos)) : (framesOf bel).map PySem.Frame.where_ = bel := by
  unfold framesOf
  rw [List.map_map]
  exact List.map_id' bel
theorem of_frames (c : Code) (bel : List (Code × Pos)) : Ctx.of c (framesOf bel) = Γof c bel := by
  unfold Ctx.of Γof
  rw [own_frames, where_frames]
  have h : topHandled (framesOf bel) = none := top_frames false bel
  rw [h, top_frames true bel]
theorem code_size {M : Model} {c : Code} {bel : List (Code × Pos)} {R : Result → Shared → Prop} {p : Pos} {s : Shared} (h : wpCode M (Γof c bel) R p s) : wpCode M (Γof c bel) (fun r s' => R r s' ∧ s.heap.objs.size ≤ s'.heap.objs.size) p s := by
  rw [wpCode_iff_wp] at h ⊢
  rw [← of_frames] at h ⊢
  rw [wp_iff_reach] at h ⊢
  obtain ⟨r, s', hr, hR⟩ := h
  exact ⟨r, s', hr, hR, reach_size hr⟩
end Mine
end
noncomputable section
namespace Mine
open PySem PySem.W PySem.W.X
open PySem.Sem (wp finPost)

structure PostW (rest : Array GenState × Drawn × OsState) (pre : List (Addr × Obj)) (s : Shared) (o : Outc) (s' : Shared) : Prop where
  upd : Upd s'.heap pre o.upd
  new : ∀ x ∈ o.new, s'.heap.get? x.1 = some x.2 ∧ s.heap.objs.size ≤ x.1
  nodup : (o.new.map (·.1)).Nodup
  frame : ∀ b ob, s.heap.get? b = some ob → b ∉ pre.map (·.1) → s'.heap.get? b = some ob
  top : s'.heap.objs.size = o.top
  tok : s'.toks = o.tok
  rest : (s'.gens, s'.drawn, s'.os) = rest
theorem ctr_lib {E : En} {bel : List (Code × Pos)} {c : Code} {pre : List (Addr × Obj)} {Q : Outc → Prop}
    (h : ∀ (A : Around) (s : Shared) (rest : Array GenState × Drawn × OsState), A.handled = none → (∀ a o, E.kt.get a = some o → s.heap.get? a = some o) → (∀ x ∈ pre, s.heap.get? x.1 = some x.2) → (pre.map (·.1)).Nodup → (∀ x ∈ pre, E.kt.get x.1 = none) → (s.gens, s.drawn, s.os) = rest →
      codeAny (model E.prog E.w) A c (fun r s' => ∃ o : Outc, o.r = r ∧ Q o ∧ PostW rest pre s o s') s) : Ctr E bel c pre Q := by
  intro rest p s hk hp hn hkn hr
  have key := h { handled := none, depth := frameCount bel, frames := none, guards := none, units := unitsOf bel } s rest rfl hk hp hn hkn hr (Γof c bel) p rfl ⟨rfl, Nat.le_refl _, fun _ hl => (nomatch hl), fun _ hg => (nomatch hg), Nat.le_refl _⟩
  refine wpCode_mono (fun r s' hr' => ?_) (code_size key)
  obtain ⟨⟨o, e, q, P⟩, hle⟩ := hr'
  exact ⟨o, e, q, ⟨P.upd, P.new, P.nodup, P.frame, P.top, hle, P.tok, P.rest⟩⟩

/-- nothing known moves -/
theorem postW_same {rest : Array GenState × Drawn × OsState} {pre : List (Addr × Obj)} {s s' : Shared} {r : Result} (hp : ∀ x ∈ pre, s.heap.get? x.1 = some x.2) (hk : ∀ b o, s.heap.get? b = some o → s'.heap.get? b = some o) (hr : (s'.gens, s'.drawn, s'.os) = rest) :
    PostW rest pre s ⟨r, pre.map (·.2), [], s'.heap.objs.size, s'.toks⟩ s' :=
  ⟨upd_of rfl fun x hx => hk _ _ (hp x hx), fun _ hx => (nomatch hx), List.nodup_nil, fun b ob hb _ => hk b ob hb, rfl, rfl, hr⟩

/-! ## sum of a list of ints -/
noncomputable def intsV (xs : List (Int × Tok)) : List Value := xs.map fun x => .int x.1 x.2
noncomputable def QInt (P : Int → Prop) (us : List Obj) (o : Outc) : Prop := ∃ i t top tok, P i ∧ o = ⟨.ok (.ret (.int i t)), us, [], top, tok⟩
noncomputable def valAt (xs : List (Int × Tok)) (i : Nat) : Int := match xs[i]? with | some x => x.1 | none => 0
theorem preSum_take (xs : List (Int × Tok)) : ∀ n, n ≤ xs.length → preSum (valAt xs) n = ((xs.take n).map (·.1)).sum
  | 0, _ => rfl
  | n + 1, h => by
    have ih := preSum_take xs n (by omega)
    show preSum (valAt xs) n + valAt xs n = _
    have : valAt xs n = xs[n].1 := by unfold valAt; rw [List.getElem?_eq_getElem (by omega)]
    rw [ih, this, List.take_add_one, List.getElem?_eq_getElem (by omega), List.map_append, List.sum_append]
    simp
theorem ctr_sum (E : En) (bel : List (Code × Pos)) (l : Addr) (xs : List (Int × Tok)) (ep : Nat) (hx : xs.length < 100000) :
    Ctr E bel (.builtin "sum" ⟨[.ref l], []⟩) [(l, listO (intsV xs) ep)] (QInt (fun i => i = (xs.map (·.1)).sum) [listO (intsV xs) ep]) := by
  refine ctr_lib fun A s rest hh hk hp hn hkn hr => ?_
  have hl : s.heap.get? l = some (listO (intsV xs) ep) := hp _ (.head _)
  refine codeAny_builtin F.entry_sum ?_
  rw [Around.under_plainId F.plain_sum _]
  unfold Builtin.«sum»
  simp only [List.length_cons, List.length_nil]
  rw [if_neg (by decide)]
  refine wpAny_bind (wpAny_of_eq (show Builtin.Builtins.bindParams "sum" ["start"] 0 { } = pure [none] from rfl) ?_)
  have hlist : s.heap.IsList l (intsV xs).toArray := ⟨_, hl, rfl, ep, rfl⟩
  refine wpAny_bind (wpAny_pyIter_list hlist ?_)
  refine wpAny_bind (wpAny_mkInt ?_)
  refine wpAny_bind (wpAny_pure ?_)
  simp only [List.forIn_cons, List.forIn_nil]
  refine wpAny_bind (wpAny_bind (wpAny_bind (wpAny_isInstance (T := "int") (b := false) (typeIs_int _ _ _) sub_int_str ?_)))
  simp only [Bool.false_eq_true, if_false]
  refine wpAny_pure (wpAny_bind (wpAny_bind (wpAny_isInstance (T := "int") (b := false) (typeIs_int _ _ _) sub_int_bytes ?_)))
  simp only [Bool.false_eq_true, if_false]
  refine wpAny_pure (wpAny_bind (wpAny_bind (wpAny_isInstance (T := "int") (b := false) (typeIs_int _ _ _) sub_int_bytearray ?_)))
  simp only [Bool.false_eq_true, if_false]
  refine wpAny_pure (wpAny_pure ?_)
  refine wpAny_bind (wpAny_newObj_type ?_)
  have hlt : l < s.heap.objs.size := Heap.lt_size hl
  have hne : l ≠ s.heap.objs.size := Nat.ne_of_lt hlt
  generalize hH : s.heap.push { cls := .type "list_iterator", data := .fields #[.ref l, .int 0 0] } = H
  have hHs : H.objs.size = s.heap.objs.size + 1 := by rw [← hH, Heap.size_push]
  have up : ∀ b o, s.heap.get? b = some o → H.get? b = some o := fun b o e => by rw [← hH]; exact Heap.get?_push_of_some _ e
  have hI : H.get? s.heap.objs.size = some { cls := .type "list_iterator", data := .fields #[.ref l, .int 0 0] } := by rw [← hH]; exact Heap.get?_push_size _ rfl
  have W := (Walks.list (prog := E.prog) (w := E.w) (A := A.in1) hh s.heap.objs.size l hne (intsV xs).toArray).toS
  have hSf : H.objs.size ∉ [s.heap.objs.size, l] := fun hm => by
    rcases List.mem_cons.mp hm with q | hm
    · exact absurd (hHs.symm.trans q) (Nat.succ_ne_self _)
    · have q := List.mem_singleton.mp hm
      rw [← q, hHs] at hlt
      exact absurd hlt (Nat.not_lt.mpr (Nat.le_succ _))
  have hn' : (intsV xs).toArray.size = xs.length := by simp [intsV]
  refine wpAny_pure ⟨plainId_quiet F.plain_sum_loop _, codeAny_sum_loopAnyS W (valAt xs) (fun i v hv => ?_) H.objs.size hSf _ 0 _ s.toks 0 0 (.inl rfl) rfl (Nat.zero_le _)
    ⟨⟨_, Heap.get?_push_of_some _ hI, rfl, rfl⟩, ⟨_, Heap.get?_push_of_some _ (up _ _ hl), rfl, ep, rfl⟩⟩ (Heap.get?_push_size _ rfl) fun s' t' hm => ?_⟩
  · have hv : (intsV xs).toArray[i]? = some v := hv
    rw [List.getElem?_toArray, intsV, List.getElem?_map] at hv
    obtain ⟨x, hx, rfl⟩ := Option.map_eq_some_iff.mp hv
    refine ⟨x.2, ?_⟩
    unfold valAt
    rw [hx]
  · rw [hn', preSum_take xs xs.length (Nat.le_refl _), List.take_length]
    refine ⟨⟨_, [listO (intsV xs) ep], [], s'.heap.objs.size, s'.toks⟩, rfl, ⟨_, t', _, _, rfl, rfl⟩, ?_⟩
    refine postW_same (pre := [(l, listO (intsV xs) ep)]) hp (fun b o e => hm.heap b o (fun hb => ?_) (Heap.get?_push_of_some _ (up _ _ e))) ?_
    · have hlt : (b : Nat) < s.heap.objs.size := Heap.lt_size e
      rcases List.mem_cons.mp hb with q | hb
      · rw [q, hHs] at hlt
        exact absurd hlt (Nat.not_lt.mpr (Nat.le_succ _))
      · rw [List.mem_singleton.mp hb] at hlt
        exact absurd hlt (Nat.lt_irrefl _)
    · have h1 := hm.gens
      have h2 := hm.drawn
      have h3 := hm.os
      rw [h1, h2, h3]
      exact hr

/-! ## a slice of a list -/
noncomputable def slO (vl vu vs : Value) : Obj := ⟨.type "slice", none, .fields #[vl, vu, vs], #[]⟩
noncomputable def QNewL (ob : Obj) (us : List Obj) (o : Outc) : Prop := ∃ a top tok, o = ⟨.ok (.ret (.ref a)), us, [(a, ob)], top, tok⟩
theorem ctr_sliceG (E : En) (bel : List (Code × Pos)) (l sl : Addr) (xs : List Value) (ep : Nat) (vl vu vs : Value) (lo hi st : Option Int) (pl : IsPart vl lo) (pu : IsPart vu hi) (ps : IsPart vs st) (h0 : st ≠ some 0) (hx : xs.length < 1000000) :
    Ctr E bel (.builtin "list.__getitem__" ⟨[.ref l, .ref sl], []⟩) [(l, listO xs ep), (sl, slO vl vu vs)] (QNewL (listO (slicePick xs.toArray lo hi st).toList 0) [listO xs ep, slO vl vu vs]) := by
  refine ctr_body entry_list_getitem fun A s rest hh hk hp hn hkn hr => ?_
  have ho : s.heap.get? l = some (listO xs ep) := hp _ (.head _)
  have hos : s.heap.get? sl = some (slO vl vu vs) := hp _ (.tail _ (.head _))
  have hTs : s.TypeIs (.ref sl) "slice" := ⟨_, hos, rfl⟩
  have hsz : xs.toArray.size ≤ sizeLine := by rw [List.size_toArray]; have : sizeLine = 16777216 := rfl; omega
  show wpAny _ _ (Builtin.List.listSubscript? (.ref sl) >>= _) _ _ s
  refine wpAny_bind ?_
  unfold Builtin.List.listSubscript?
  refine wpAny_bind (wpAny_specialOf hTs slice_no_index ?_)
  simp only [Option.isNone_none, if_true]
  refine wpAny_pure ?_
  show wpAny _ _ (typeOf (.ref sl) >>= _) _ _ s
  refine wpAny_bind (wpAny_typeOf hTs ?_)
  rw [if_neg (by decide)]
  rw [listSliceParts_eq]
  have hstep : ¬ ((rawPart st == rawInt 0) = true) := by
    cases st with
    | none => exact Bool.false_ne_true
    | some c =>
      intro hh
      have : c = 0 := by simpa [rawPart, rawInt] using hh
      exact h0 (by rw [this])
  refine wpAny_bind (wpAny_bind (wpAny_field hos rfl (x := vs) rfl (wpAny_bind (wpAny_listPart ps ?_))))
  rw [if_neg hstep]
  refine wpAny_bind (wpAny_field hos rfl (x := vl) rfl (wpAny_bind (wpAny_listPart pl ?_)))
  refine wpAny_bind (wpAny_field hos rfl (x := vu) rfl (wpAny_bind (wpAny_listPart pu (wpAny_pure ?_))))
  refine wpAny_bind (wpAny_listItems ho ?_)
  refine wpAny_bind (wpAny_of_eq (sliceIndices_raw lo hi st xs.toArray.size h0) ?_)
  refine wpAny_bind (wpAny_newObj_type ?_ (Nat.le_trans (slicePick_size_le xs.toArray lo hi st) hsz))
  refine wpAny_pure ⟨⟨.ok (.ret (.ref s.heap.objs.size)), [listO xs ep, slO vl vu vs], [(s.heap.objs.size, listO (slicePick xs.toArray lo hi st).toList 0)], s.heap.objs.size + 1, s.toks⟩, rfl, ⟨_, _, _, rfl⟩, ?_⟩
  have := post_new (kt := E.kt) (rest := rest) (pre := [(l, listO xs ep), (sl, slO vl vu vs)]) (r := .ok (.ret (.ref s.heap.objs.size))) (ob := listO (slicePick xs.toArray lo hi st).toList 0) hp hr rfl s.toks
  have e : listO (slicePick xs.toArray lo hi st).toList 0 = { cls := .type "list", data := .seq (slicePick xs.toArray lo hi st) } := by
    unfold listO
    rw [Array.toArray_toList]
  rw [e] at this ⊢
  exact this
end Mine
end
noncomputable section
namespace Mine
open PySem PySem.W PySem.W.X
open PySem.Sem (wp finPost)

/-! ## contracts by their data -/
/-- the next item of a list -/
noncomputable def fLn (l : Addr) (i : Nat) (v : Value) (ob : Obj) (d : Nat × Nat) : Outc := ⟨.ok (.ret v), [liO l (i + 1), ob], [], d.1, d.2⟩
theorem ctF_lnext (E : En) (bel : List (Code × Pos)) (it l : Addr) (i : Nat) (xs : List Value) (ep : Nat) (v : Value) (hx : xs[i]? = some v) :
    Ctr E bel (.builtin "list_iterator.__next__" ⟨[.ref it], []⟩) [(it, liO l i), (l, listO xs ep)] (QF (fLn l i v (listO xs ep))) :=
  (ctr_lnext E bel it l i xs ep v hx).mono fun _ ⟨a, b, e⟩ => ⟨(a, b), e⟩
/-- a list's end -/
noncomputable def fLe (i : Nat) (ob : Obj) (d : Nat × Nat × Nat × Nat) : Outc := ⟨.error (.ref d.1), [liEn i, ob], [(d.1, excO d.2.1)], d.2.2.1, d.2.2.2⟩
theorem ctF_lend (w : WK) (bel : List (Code × Pos)) (it l : Addr) (i : Nat) (xs : List Value) (ep : Nat) (hx : xs[i]? = none) :
    Ctr (E2 w) bel (.builtin "list_iterator.__next__" ⟨[.ref it], []⟩) [(it, liO l i), (l, listO xs ep)] (QF (fLe i (listO xs ep))) :=
  (ctr_lend w bel it l i xs ep hx).mono fun _ ⟨a, b, c, d, e⟩ => ⟨(a, b, c, d), e⟩
noncomputable def fApp (xs : List Value) (v : Value) (d : Nat × Nat × Nat) : Outc := ⟨.ok (.ret .none), [listO (xs ++ [v]) d.1], [], d.2.1, d.2.2⟩
theorem ctF_append (E : En) (bel : List (Code × Pos)) (l : Addr) (xs : List Value) (ep : Nat) (v : Value) (hx : xs.length < 100000) :
    Ctr E bel (.builtin "list.append" ⟨[.ref l, v], []⟩) [(l, listO xs ep)] (QF (fApp xs v)) :=
  (ctr_append E bel l xs ep v hx).mono fun _ ⟨a, b, c, e⟩ => ⟨(a, b, c), e⟩
/-- a new list -/
noncomputable def fNew (ob : Obj) (us : List Obj) (d : Nat × Nat × Nat) : Outc := ⟨.ok (.ret (.ref d.1)), us, [(d.1, ob)], d.2.1, d.2.2⟩
theorem ctF_slice (E : En) (bel : List (Code × Pos)) (l sl : Addr) (xs : List Value) (ep : Nat) (vl vu vs : Value) (lo hi st : Option Int) (pl : IsPart vl lo) (pu : IsPart vu hi) (ps : IsPart vs st) (h0 : st ≠ some 0) (hx : xs.length < 1000000) (ys : List Value) (hy : (slicePick xs.toArray lo hi st).toList = ys) :
    Ctr E bel (.builtin "list.__getitem__" ⟨[.ref l, .ref sl], []⟩) [(l, listO xs ep), (sl, slO vl vu vs)] (QF (fNew (listO ys 0) [listO xs ep, slO vl vu vs])) := by
  subst hy
  exact (ctr_sliceG E bel l sl xs ep vl vu vs lo hi st pl pu ps h0 hx).mono fun _ ⟨a, b, c, e⟩ => ⟨(a, b, c), e⟩
theorem ctF_ladd (E : En) (bel : List (Code × Pos)) (l b : Addr) (xs ys : List Value) (ep ep' : Nat) (hx : xs.length < 100000) (hy : ys.length < 100000) :
    Ctr E bel (.builtin "list.__add__" ⟨[.ref l, .ref b], []⟩) [(l, listO xs ep), (b, listO ys ep')] (QF (fNew (listO (xs ++ ys) 0) [listO xs ep, listO ys ep'])) := by
  refine ctr_meets F.entry_list_add (PySem.AutoSeq1.list___add___list_list_0 l xs.toArray ep b ys.toArray ep' (by rw [List.size_toArray, List.size_toArray]; have : sizeLine = 16777216 := rfl; omega)) ?_
  intro A R s rest hr _ hp _ hR
  refine ⟨hp _ (.head _), hp _ (.tail _ (.head _)), ?_⟩
  have := post_new (kt := E.kt) (rest := rest) (pre := [(l, listO xs ep), (b, listO ys ep')]) (r := .ok (.ret (.ref s.heap.objs.size))) (ob := listO (xs ++ ys) 0) hp hr rfl s.toks
  refine hR ⟨.ok (.ret (.ref s.heap.objs.size)), [listO xs ep, listO ys ep'], [(s.heap.objs.size, listO (xs ++ ys) 0)], s.heap.objs.size + 1, s.toks⟩ _ ⟨(s.heap.objs.size, s.heap.objs.size + 1, s.toks), rfl⟩ ?_
  have e : ({ cls := Value.type "list", data := Data.seq (xs.toArray ++ ys.toArray) } : Obj) = listO (xs ++ ys) 0 := by
    unfold listO; simp
  rw [e]
  exact this
theorem getitem_k (l : Addr) : ∃ k : Value → Option Int → Sem PySem.Fin, (∀ v, Builtin.«list.__getitem__» ⟨[.ref l, v], []⟩ = (Builtin.List.listSubscript? v >>= k v)) ∧
    ∃ m : Value → Option (Nat × Value) → Sem PySem.Fin, (∀ v (j : Nat), k v (some (Int.ofNat j)) = ((seqItemAt l j >>= fun r => pure (r.map (j, ·))) >>= m v)) ∧ ∀ v i x, m v (some (i, x)) = pure (.done (.ret x)) := ⟨_, fun v => rfl, _, fun v j => rfl, fun v i x => rfl⟩
/-- an item of a list -/
noncomputable def fItm (v : Value) (ob : Obj) (d : Nat × Nat) : Outc := ⟨.ok (.ret v), [ob], [], d.1, d.2⟩
theorem ctF_item (E : En) (bel : List (Code × Pos)) (l : Addr) (xs : List Value) (ep j : Nat) (t : Tok) (v : Value) (hx : xs[j]? = some v) (hj : j < 1000000) :
    Ctr E bel (.builtin "list.__getitem__" ⟨[.ref l, .int (Int.ofNat j) t], []⟩) [(l, listO xs ep)] (QF (fItm v (listO xs ep))) := by
  refine ctr_body PySem.entry_list_getitem fun A s rest hh hk hp hn hkn hr => ?_
  have ho : s.heap.get? l = some (listO xs ep) := hp _ (.head _)
  obtain ⟨k, hB, m, hm, hv⟩ := getitem_k l
  rw [hB]
  have hfit : Builtin.List.listFitsIndex (Int.ofNat j) = true := fitsIndex_of (Int.natCast_nonneg j) (Int.lt_trans (show ((j : Nat) : Int) < 1000000 by omega) (by decide))
  refine wpAny_bind ?_
  have key := fun Q => @PySem.wpAny_listSubscript_int (model E.prog E.w) A (fun _ _ => False) s (Int.ofNat j) t Q
  generalize Builtin.List.listSubscript? (Value.int (Int.ofNat j) t) = T at key ⊢
  refine key _ hfit ?_
  rw [hm]
  refine wpAny_bind (wpAny_bind (wpAny_seqItemAt ho rfl (wpAny_pure ?_)))
  have hx' : xs.toArray[j]? = some v := by simpa using hx
  rw [hx']
  show wpAny _ _ (m _ (some (j, v))) _ _ s
  rw [hv]
  exact wpAny_pure ⟨⟨.ok (.ret v), [listO xs ep], [], s.heap.objs.size, s.toks⟩, rfl, ⟨(_, _), rfl⟩, post_id (pre := [(l, listO xs ep)]) hr hp⟩
noncomputable def riN (k r : Int) : Obj := ⟨.type "range_iterator", none, .fields #[.int k 0, .int r 0, .int 1 0], #[]⟩
/-- the next number of a range -/
noncomputable def fRn (k r : Nat) (d : Nat × Nat × Nat) : Outc := ⟨.ok (.ret (.int (k : Nat) d.1)), [riN ((k + 1 : Nat) : Int) (r : Nat)], [], d.2.1, d.2.2⟩
theorem entry_rngiter_next : entryFor table "range_iterator.__next__" = some Builtin.«range_iterator.__next__» := entryFor_of_tree (by kernel_rfl)
theorem ctF_rnext (E : En) (bel : List (Code × Pos)) (it : Addr) (k r : Nat) :
    Ctr E bel (.builtin "range_iterator.__next__" ⟨[.ref it], []⟩) [(it, riN (k : Nat) ((r + 1 : Nat) : Int))] (QF (fRn k r)) := by
  refine ctr_body entry_rngiter_next fun A s rest hh hk hp hn hkn hr => ?_
  have ho : s.heap.get? it = some (riN (k : Nat) ((r + 1 : Nat) : Int)) := hp _ (.head _)
  show wpAny _ _ (field (.ref it) 0 >>= _) _ _ s
  refine wpAny_bind (wpAny_field ho rfl (x := .int (k : Nat) 0) rfl ?_)
  show wpAny _ _ (field (.ref it) 1 >>= _) _ _ s
  refine wpAny_bind (wpAny_field ho rfl (x := .int ((r + 1 : Nat) : Int) 0) rfl ?_)
  show wpAny _ _ (field (.ref it) 2 >>= _) _ _ s
  refine wpAny_bind (wpAny_field ho rfl (x := .int 1 0) rfl ?_)
  show wpAny _ _ (if ((r + 1 : Nat) : Int) ≤ 0 then _ else _) _ _ s
  rw [if_neg (by omega)]
  refine wpAny_bind (wpAny_setField ho rfl (by simp) ?_)
  have ho1 : (s.heap.update it (Obj.mapFields (·.set! 0 (rawInt ((k : Int) + 1))))).get? it = some ⟨.type "range_iterator", none, .fields #[.int ((k : Int) + 1) 0, .int ((r + 1 : Nat) : Int) 0, .int 1 0], #[]⟩ := by
    rw [Heap.get?_update_self _ ho rfl]; rfl
  refine wpAny_bind (wpAny_setField ho1 rfl (by simp) ?_)
  have hs := (Heap.SameBut.update s.heap it (Obj.mapFields (·.set! 0 (rawInt ((k : Int) + 1)))))
  have hs2 := (Heap.SameBut.update (s.heap.update it (Obj.mapFields (·.set! 0 (rawInt ((k : Int) + 1))))) it (Obj.mapFields (·.set! 1 (rawInt (((r + 1 : Nat) : Int) - 1)))))
  have ho2 : ((s.heap.update it (Obj.mapFields (·.set! 0 (rawInt ((k : Int) + 1))))).update it (Obj.mapFields (·.set! 1 (rawInt (((r + 1 : Nat) : Int) - 1))))).get? it = some (riN ((k + 1 : Nat) : Int) (r : Nat)) := by
    rw [Heap.get?_update_self _ ho1 rfl]
    have e : ((r + 1 : Nat) : Int) - 1 = (r : Nat) := by omega
    rw [e]; rfl
  refine wpAny_bind (wpAny_mkInt (wpAny_pure ?_))
  refine ⟨⟨.ok (.ret (.int (k : Nat) s.toks)), [riN ((k + 1 : Nat) : Int) (r : Nat)], [], s.heap.objs.size, s.toks + 1⟩, rfl, ⟨(_, _, _), rfl⟩, ?_⟩
  have := post_mv (r := .ok (.ret (.int (k : Nat) s.toks))) (s₁ := { s with heap := (s.heap.update it (Obj.mapFields (·.set! 0 (rawInt ((k : Int) + 1))))).update it (Obj.mapFields (·.set! 1 (rawInt (((r + 1 : Nat) : Int) - 1)))) }) (pre := [(it, riN (k : Nat) ((r + 1 : Nat) : Int))])
    (Mv.of_same (hs.trans hs2) (.head _) rfl) hr (kt := E.kt) (upd_of (upd := [(it, riN ((k + 1 : Nat) : Int) (r : Nat))]) rfl (fun x hx => by
    obtain rfl : x = _ := by simpa using hx
    exact ho2)) (s.toks + 1)
  rw [Heap.size_update, Heap.size_update] at this
  exact this
end Mine
end
noncomputable section
namespace Mine
open PySem PySem.W PySem.W.X

/-! ## script[k:63:8] -/
noncomputable def sliceO (k : Int) (a b c : Tok) : Obj := slO (.int k a) (.int 63 b) (.int 8 c)
noncomputable def QSl (us : List Obj) (o : Outc) : Prop := ∃ (ys : List (Int × Tok)) (a top tok : Nat), ys.length < 99999 ∧ o = ⟨.ok (.ret (.ref a)), us, [(a, listO (intsV ys) 0)], top, tok⟩
theorem pick_ints (xs : List (Int × Tok)) (l : List Nat) : l.filterMap ((intsV xs).toArray[·]?) = intsV (l.filterMap (xs[·]?)) := by
  induction l with
  | nil => rfl
  | cons j l ih =>
    have e : (intsV xs).toArray[j]? = (xs[j]?).map fun x => Value.int x.1 x.2 := by simp [intsV]
    cases h : xs[j]? with
    | none =>
      rw [h] at e
      rw [List.filterMap_cons_none e, List.filterMap_cons_none h]; exact ih
    | some x =>
      rw [h] at e
      rw [List.filterMap_cons_some e, List.filterMap_cons_some h, ih]; rfl
theorem ctr_slice (E : En) (bel : List (Code × Pos)) (l sl : Addr) (xs : List (Int × Tok)) (ep : Nat) (k : Int) (a b c : Tok) (hx : xs.length < 99999) :
    Ctr E bel (.builtin "list.__getitem__" ⟨[.ref l, .ref sl], []⟩) [(l, listO (intsV xs) ep), (sl, sliceO k a b c)] (QSl [listO (intsV xs) ep, sliceO k a b c]) := by
  refine Ctr.mono (ctr_sliceG E bel l sl (intsV xs) ep _ _ _ (some k) (some 63) (some 8) (.int _ _) (.int _ _) (.int _ _) (by decide) (by unfold intsV; rw [List.length_map]; omega)) fun o ho => ?_
  obtain ⟨x, top, tok, rfl⟩ := ho
  have hsz := slicePick_size_le (intsV xs).toArray (some k) (some 63) (some 8)
  refine ⟨(sliceRange (sliceBounds (some k) (some 63) (some 8) (intsV xs).toArray.size).1 (sliceBounds (some k) (some 63) (some 8) (intsV xs).toArray.size).2.1 (sliceBounds (some k) (some 63) (some 8) (intsV xs).toArray.size).2.2).filterMap (xs[·]?), x, top, tok, ?_, ?_⟩
  · unfold slicePick at hsz
    rw [List.size_toArray, pick_ints] at hsz
    have e : ∀ ys : List (Int × Tok), (intsV ys).length = ys.length := fun ys => by unfold intsV; rw [List.length_map]
    have e2 : (intsV xs).toArray.size = xs.length := by rw [List.size_toArray, e]
    rw [e] at hsz
    exact Nat.lt_of_le_of_lt hsz (by rw [e2]; exact hx)
  · unfold slicePick
    rw [pick_ints, List.toList_toArray]
    rfl

/-! ## range(t) and its iterator -/
noncomputable def rangeO (t : Int) (a b c : Tok) : Obj := ⟨.type "range", none, .fields #[.int 0 a, .int t b, .int 1 c], #[]⟩
noncomputable def QRg (t : Int) (b : Tok) (o : Outc) : Prop := ∃ x a c top tok, o = ⟨.ok (.ret (.ref x)), [], [(x, rangeO t a b c)], top, tok⟩
noncomputable def QRi (t : Int) (ob : Obj) (o : Outc) : Prop := ∃ x top tok, o = ⟨.ok (.ret (.ref x)), [ob], [(x, riO 0 t)], top, tok⟩
theorem ctr_range (w : WK) (bel : List (Code × Pos)) (t : Int) (b : Tok) : Ctr (E2 w) bel (.builtin "range.__new__" ⟨[.type "range", .int t b], []⟩) [] (QRg t b) := by
  refine ctr_intro (E2 w) den_eq 100000 _ _ _ _ (fun N K p => .fin 4 []) ?_
  intro N K p
  exact ⟨[], [], .ok (.ret (.ref (N + 0))), [], [(N + 0, rangeO t (K + 0) b (K + 1))], (N, 1), (K, 2), [0], ⟨by kernel_rfl, fun _ h => (nomatch h), trivial, rfl, rfl, ⟨_, _, _, _, _, rfl⟩⟩⟩
theorem ctr_rangeIt (w : WK) (bel : List (Code × Pos)) (x : Addr) (t : Int) (a b c : Tok) (ht : t = 0 ∨ t = 1 ∨ t = 2) : Ctr (E2 w) bel (.builtin "range.__iter__" ⟨[.ref x], []⟩) [(x, rangeO t a b c)] (QRi t (rangeO t a b c)) := by
  refine ctr_intro (E2 w) den_eq 100000 _ _ _ _ (fun N K p => .fin 4 [1, 1, 1]) ?_
  intro N K p
  refine ⟨[], [], .ok (.ret (.ref (N + 0))), [(x, rangeO t a b c)], [(N + 0, riO 0 t)], (N, 1), (K, 0), [1], ⟨?_, fun _ h => (nomatch h), trivial, rfl, rfl, ⟨_, _, _, rfl⟩⟩⟩
  rcases ht with rfl | rfl | rfl <;> kernel_rfl
end Mine
end
noncomputable section
namespace Mine
open PySem PySem.W PySem.W.X

noncomputable def fRg (t : Int) (b : Tok) (d : Nat × Nat × Nat × Nat × Nat) : Outc := ⟨.ok (.ret (.ref d.1)), [], [(d.1, rangeO t d.2.1 b d.2.2.1)], d.2.2.2.1, d.2.2.2.2⟩
theorem ctF_range (w : WK) (bel : List (Code × Pos)) (t : Int) (b : Tok) : Ctr (E2 w) bel (.builtin "range.__new__" ⟨[.type "range", .int t b], []⟩) [] (QF (fRg t b)) :=
  (ctr_range w bel t b).mono fun _ ⟨a, b, c, d, e, h⟩ => ⟨(a, b, c, d, e), h⟩
end Mine
end
noncomputable section
namespace Mine
open PySem PySem.W PySem.W.X

/-! ## segments to a call in a loop's turn; what goes on behind the call asks nothing of the heap -/
structure Cal where
  c : Code
  p : Pos
  L : List (Addr × Obj)
  top : Nat
  tok : Nat
structure Keeps (s s' : Shared) : Prop where
  keep : ∀ b o, s.heap.get? b = some o → s'.heap.get? b = some o
  le : s.heap.objs.size ≤ s'.heap.objs.size
  rest : (s'.gens, s'.drawn, s'.os) = (s.gens, s.drawn, s.os)
noncomputable def SegK (E : En) (bel : List (Code × Pos)) (c : Code) (pre : List (Addr × Obj)) (Q : Cal → Prop) (ce : Code) : Prop :=
  ∀ (rest : Array GenState × Drawn × OsState) (m0 : List Addr) (s0 : Shared) (extra : List (Addr × Obj)) (p : Pos) (s : Shared), At E.kt rest m0 s0 s (pre ++ extra) → ∀ (R : Result → Shared → Prop),
    (∀ n p' s', Q n → At E.kt rest m0 s0 s' (n.L ++ extra) → wpCode E.M (Γof n.c ((c, n.p) :: bel)) (fun r s'' => r = .ok .next ∧ (∀ a o, E.kt.get a = some o → s''.heap.get? a = some o) ∧ ∀ p'' s3, Keeps s'' s3 → wpCode E.M (Γof ce bel) R p'' s3) p' s') →
    wpCode E.M (Γof c bel) R p s
noncomputable def Beh (E : En) (F : Nat) (ce : Code) (o : Option Res) : Prop := ∀ tb kb, lhsE E (exec E F [] 0 [] (cutX o (.ok .next) ⟨treeOf [], 0, tb, 0, kb, 0⟩)) [] [] = rhsE (exec E F [] 0 [] (cutX o (.ok .next) ⟨treeOf [], 0, tb, 0, kb, 0⟩)) [] [] (.nxt ce) [] (tb, 0) (kb, 0)
structure FinK (E : En) (F : Nat) (c : Code) (Q : Cal → Prop) (ce : Code) (x : X) (is : List Ins) (Qs : List (Outc → Prop)) (n : Nat) (hs : List Nat) : Prop where
  ex : ∃ gs qs k top tok ls, lhsE E (exec E F is n hs x) qs ls = rhsE (exec E F is n hs x) gs qs (.cal (Cal.c k) ((c, k.p) :: E.base)) k.L top tok ∧ Beh E F ce (exec E F is n hs x) ∧ (∀ g ∈ gs, Gives (denote table g.1) g.2 ∧ MadeOk g.2) ∧ CtrV E qs Qs ∧ noDup ls = true ∧ Q k
theorem FinK.mk' {E : En} {F : Nat} {c : Code} {Q : Cal → Prop} {ce : Code} {x : X} {is : List Ins} {Qs : List (Outc → Prop)} {n : Nat} {hs : List Nat} (gs : List (Code × Made)) (qs : List Qv) (k : Cal) (top tok : Nat × Nat) (ls : List Nat)
    (eq : lhsE E (exec E F is n hs x) qs ls = rhsE (exec E F is n hs x) gs qs (.cal k.c ((c, k.p) :: E.base)) k.L top tok) (hb : Beh E F ce (exec E F is n hs x)) (hg : ∀ g ∈ gs, Gives (denote table g.1) g.2 ∧ MadeOk g.2) (hq : CtrV E qs Qs) (hl : noDup ls = true) (hQ : Q k) : FinK E F c Q ce x is Qs n hs := ⟨gs, qs, k, top, tok, ls, eq, hb, hg, hq, hl, hQ⟩
theorem segK_run {E : En} (hdn : denote table = E.dn) (F : Nat) {bel : List (Code × Pos)} {c : Code} {pre : List (Addr × Obj)} {Q : Cal → Prop} {ce : Code} (T : Nat → Nat → Pos → Tele)
    (h : ∀ N K p, (T N K p).All fun is Qs n hs => FinK (E.on bel) F c Q ce (x0 E c p pre N K) is Qs n hs) : SegK E bel c pre Q ce := by
  intro rest m0 s0 extra p s A R hR
  refine wp_run E hdn F bel c p s pre A.left.loc A.since.ktk A.since.rest R (fun N K => T N K p) fun N K _ _ => ?_
  refine Tele.All.mono _ (fun is Qs n hs ⟨gs, qs, k, top, tok, ls, eq, hb, hg, hq, hl, hQ⟩ => ?_) (h N K p)
  refine .mk' gs qs (.cal k.c ((c, k.p) :: bel)) k.L top tok ls eq hg hq.toH hl fun p' s' A' => ?_
  refine wpCode_mono (fun r s'' hr => ?_) (hR k p' s' hQ (A.step rfl A'))
  obtain ⟨rfl, hk, hgo⟩ := hr
  refine run_on E hdn F bel _ _ s'' [] (rest := (s''.gens, s''.drawn, s''.os)) ⟨fun _ h => (nomatch h), List.nodup_nil, fun _ h => (nomatch h)⟩ hk rfl R (fun N K => .fin 0 []) fun M L _ _ => ?_
  refine .mk' [] [] (.nxt ce) [] (M, 0) (L, 0) [] (hb M L) noG trivial rfl fun p3 s3 A3 => ?_
  exact hgo p3 s3 ⟨fun b o h => A3.frame b o h (by simp), A3.le, A3.rest⟩
noncomputable def teleIf (c : Prop) [Decidable c] (a b : Tele) : Tele := if c then a else b
theorem teleIf_all {c : Prop} [Decidable c] {a b : Tele} {P : List Ins → List (Outc → Prop) → Nat → List Nat → Prop} (ha : c → a.All P) (hb : ¬ c → b.All P) : (teleIf c a b).All P := by
  unfold teleIf
  split
  · exact ha ‹_›
  · exact hb ‹_›

/-! ## what the main loop meets -/
structure DP where
  a : Addr
  b : Bool
  c : Int
  t : Tok
noncomputable def DP.ref (d : DP) : Value := .ref d.a
noncomputable def dpO (d : DP) : Obj := listO [.bool d.b, .int d.c d.t] 0
noncomputable def dps (ds : List DP) : List (Addr × Obj) := ds.map fun d => (d.a, dpO d)
structure Ep where
  (e1 e2 e4 e5 e6 e7 e8 : Nat)
noncomputable def restL (k : Int) (iv : List (Int × Tok)) (g0 g1 th du : List Wd) (ds : List DP) (e : Ep) : List (Addr × Obj) :=
  [(256, riO k (8 - k)), (209, listO (intsV iv) 0), (241, listO (ds.map DP.ref) e.e4), (242, listO (g0.map rowV) e.e5), (243, listO (g1.map rowV) e.e6), (244, listO [.ref 242, .ref 243] 0), (245, listO (th.map rowV) e.e7), (246, listO (du.map rowV) e.e8)] ++ dps ds
noncomputable def coreL (P : Params) (T : LP) (fr : Obj) (J : NT) (lr : List Wd) (pr : List PR) (e : Ep) : List (Addr × Obj) :=
  [(210, fr), (240, namesO J), (183, cacheO), (228, instO 177 227), (227, lexD P T.k0 T.k1 T.k2 T.k3 1 T.lt 216 T.wt 230), (230, listO (lr.map rowV) e.e1), (232, pileO 231 (pr.map PR.ref) e.e2), (231, pdO P (L0 T 0))] ++ tups pr
noncomputable def mainL (P : Params) (T : LP) (fr : Obj) (J : NT) (k : Int) (iv : List (Int × Tok)) (lr : List Wd) (pr : List PR) (g0 g1 th du : List Wd) (ds : List DP) (e : Ep) : List (Addr × Obj) :=
  coreL P T fr J lr pr e ++ restL k iv g0 g1 th du ds e
noncomputable def lawF0 (P : Params) (F : FT) (V : FV) : Obj := ⟨.type "frame", none, .dict (lawE10 P F V).toArray 10, #[]⟩
noncomputable def callL (P : Params) (T : LP) (F : FT) (V : FV) (J : NT) (it : Addr) (t k : Int) (iv : List (Int × Tok)) (lr : List Wd) (pr : List PR) (g0 g1 th du : List Wd) (ds : List DP) (e : Ep) : List (Addr × Obj) :=
  tlPre P T F V J it (riO 0 t) lr pr e.e1 e.e2 ++ restL k iv g0 g1 th du ds e
noncomputable def mainC : Code := .forLoop (forT mainFor) (.ref 256) (forB mainFor) (forE mainFor) lawEnv
noncomputable def lawBel (p5 p6 : Pos) : List (Code × Pos) := [(.func (fBody fLaw) lawEnv, p5), (.builtin "claim.caller" {}, p6)]
noncomputable def tOf (X : Int) : Int := (X.fdiv 2).fmod 3
noncomputable def nmT (J : NT) : Nat → Tok
  | 0 => J.n1
  | 1 => J.n2
  | 2 => J.n3
  | 3 => J.n4
  | _ => J.n1
/-- what a turn brings about, up to the tick loop -/
structure CD where
  (it : Addr) (X : Int) (V : FV) (F : FT) (ta da : Addr) (u t1 t2 : Tok) (e : Ep) (top tok : Nat)
noncomputable def p136 : Pos := ⟨136, 20, 136, 37⟩
section
variable (P : Params) (T : LP) (V : FV) (J : NT) (k : Int) (iv : List (Int × Tok)) (g0 g1 du : List Wd) (ds : List DP)
noncomputable def fCome (came : Nat) (lr : List Wd) (pr : List PR) (th : List Wd) (d : CD) : Cal :=
  ⟨tlC d.it, p136, callL P T d.F d.V J d.it (tOf d.X) (k + 1) iv (lr ++ [(46 :: nm came, d.t1)]) (pr ++ [⟨d.ta, d.u, (46 :: nm came, d.t2)⟩]) g0 g1 (th ++ [(nm came, nmT J came)]) du (ds ++ [⟨d.da, true, V.c, V.ct⟩]) d.e, d.top, d.tok⟩
noncomputable def fGo (x : Wd) (lr : List Wd) (pr : List PR) (q : PR) (th : List Wd) (y : Wd) (d : CD) : Cal :=
  ⟨tlC d.it, p136, callL P T d.F d.V J d.it (tOf d.X) (k + 1) iv lr pr (g0 ++ [x]) (g1 ++ [q.x]) th (du ++ [y]) (ds ++ [⟨d.da, false, V.c, V.ct⟩]) d.e, d.top, d.tok⟩
noncomputable def MLQ (came : Nat) (lr : List Wd) (pr : List PR) (th : List Wd) (n : Cal) : Prop :=
  (came < 4 ∧ ∃ d : CD, (d.V.c = V.c ∧ d.V.m = V.m + 1) ∧ n = fCome P T V J k iv g0 g1 du ds came lr pr th d) ∨
  (∃ x lr' pr' q th' y, (lr = x :: lr' ∧ pr = pr' ++ [q] ∧ th = th' ++ [y]) ∧ ∃ d : CD, (d.V.c = V.c ∧ d.V.m = V.m) ∧ n = fGo P T V J k iv g0 g1 du ds x lr' pr' q th' y d)
end
section
variable {P : Params} {T : LP} {V : FV} {J : NT} {k : Int} {iv : List (Int × Tok)} {g0 g1 du : List Wd} {ds : List DP}
theorem MLQ.come {came : Nat} {lr : List Wd} {pr : List PR} {th : List Wd} (h : came < 4) (d : CD) (hc : d.V.c = V.c) (hm : d.V.m = V.m + 1) : MLQ P T V J k iv g0 g1 du ds came lr pr th (fCome P T V J k iv g0 g1 du ds came lr pr th d) := .inl ⟨h, d, ⟨hc, hm⟩, rfl⟩
theorem MLQ.go {came : Nat} (x : Wd) (lr : List Wd) (pr : List PR) (q : PR) (th : List Wd) (y : Wd) (d : CD) (hc : d.V.c = V.c) (hm : d.V.m = V.m) : MLQ P T V J k iv g0 g1 du ds came (x :: lr) (pr ++ [q]) (th ++ [y]) (fGo P T V J k iv g0 g1 du ds x lr pr q th y d) := .inr ⟨x, lr, pr, q, th, y, ⟨rfl, rfl, rfl⟩, d, ⟨hc, hm⟩, rfl⟩
end
noncomputable def MainOk (w : WK) (p5 p6 : Pos) (T : LP) (V : FV) (J : NT) (iv : List (Int × Tok)) (k : Int) (came : Nat) (fr : Obj) (e : Ep) (ds : List DP) (g0 g1 du lr : List Wd) (pr : List PR) (th : List Wd) : Prop :=
  SegK (E2 w) (lawBel p5 p6) mainC (mainL w.params T fr J k iv lr pr g0 g1 th du ds e) (MLQ w.params T V J k iv g0 g1 du ds came lr pr th) mainC

/-! ## contracts by data -/
noncomputable def fSl (us : List Obj) (d : {l : List (Int × Tok) // l.length < 99999} × Nat × Nat × Nat) : Outc := ⟨.ok (.ret (.ref d.2.1)), us, [(d.2.1, listO (intsV d.1.1) 0)], d.2.2.1, d.2.2.2⟩
noncomputable abbrev sl0 : {l : List (Int × Tok) // l.length < 99999} := ⟨[], by decide⟩
theorem ctF_sl (w : WK) (bel : List (Code × Pos)) (l sl : Addr) (xs : List (Int × Tok)) (ep : Nat) (k : Int) (a b c : Tok) (hx : xs.length < 99999) :
    Ctr (E2 w) bel (.builtin "list.__getitem__" ⟨[.ref l, .ref sl], []⟩) [(l, listO (intsV xs) ep), (sl, sliceO k a b c)] (QF (fSl [listO (intsV xs) ep, sliceO k a b c])) :=
  (ctr_slice _ bel l sl xs ep k a b c hx).mono fun _ ⟨ys, a, t, u, h, e⟩ => ⟨(⟨ys, h⟩, a, t, u), e⟩
noncomputable def fSm (us : List Obj) (d : Int × Tok × Nat × Nat) : Outc := ⟨.ok (.ret (.int d.1 d.2.1)), us, [], d.2.2.1, d.2.2.2⟩
theorem ctF_sm (w : WK) (bel : List (Code × Pos)) (l : Addr) (xs : {l : List (Int × Tok) // l.length < 99999}) : Ctr (E2 w) bel (.builtin "sum" ⟨[.ref l], []⟩) [(l, listO (intsV xs.1) 0)] (QF (fSm [listO (intsV xs.1) 0])) :=
  (ctr_sum _ bel l xs.1 0 (Nat.lt_trans xs.2 (by decide))).mono fun _ ⟨i, t, a, b, _, e⟩ => ⟨(i, t, a, b), e⟩
theorem tOf_cases (X : Int) : tOf X = 0 ∨ tOf X = 1 ∨ tOf X = 2 := fmod3 _
theorem ctF_ri (w : WK) (bel : List (Code × Pos)) (x : Addr) (X : Int) (a b c : Tok) : Ctr (E2 w) bel (.builtin "range.__iter__" ⟨[.ref x], []⟩) [(x, rangeO (tOf X) a b c)] (QF (fNew (riO 0 (tOf X)) [rangeO (tOf X) a b c])) :=
  (ctr_rangeIt w bel x (tOf X) a b c (tOf_cases X)).mono fun _ ⟨a, b, c, h⟩ => ⟨(a, b, c), h⟩
theorem gives_odd {X : Int} {a b : Tok} (h : X.fmod 2 = 1) : Gives (denote table (.builtin "int.__mod__" ⟨[.int X a, .int 2 b], []⟩)) (.int 1) ∧ MadeOk (.int 1) := by
  have := gives_mod X 2 a b (by decide)
  rwa [h] at this
theorem gives_even {X : Int} {a b : Tok} (h : ¬ X.fmod 2 = 1) : Gives (denote table (.builtin "int.__mod__" ⟨[.int X a, .int 2 b], []⟩)) (.int 0) ∧ MadeOk (.int 0) := by
  have := gives_mod X 2 a b (by decide)
  have h1 := Int.fmod_nonneg_of_pos X (b := 2) (by decide)
  have h2 := Int.fmod_lt_of_pos X (b := 2) (by decide)
  rwa [show X.fmod 2 = 0 by omega] at this
end Mine
end
noncomputable section
namespace Mine
open PySem PySem.W PySem.W.X

theorem ml_0_0 (w : WK) (p5 p6 : Pos) (T : LP) (F : FT) (V : FV) (J : NT) (iv : List (Int × Tok)) (e1 e2 e4 e5 e6 e7 e8 : Nat) (hiv : iv.length < 99999) :
    MainOk w p5 p6 T { V with m := 0, tk := none } J iv 0 0 (lawF0 w.params F { V with m := 0, tk := none }) ⟨e1, e2, e4, e5, e6, e7, e8⟩ [] [] [] [] [] [] [] := by
  exact segK_run (E := E2 w) den_eq 100000 (fun N K p => .dat 61 (hx [0xa14285010200011224489102000801024409122448913a]) [9, 17] (fSl [listO (intsV iv) 0, sliceO 0 (K + 0) (K + 10) (K + 11)]) (sl0, 0, 0, 0) fun d1 =>
    .dat 4 [] [18] (fSm [listO (intsV d1.1.1) 0]) (0, 0, 0, 0) fun d2 =>
    .dat 339 (hx [0x58b020458b162c0800200a0f283ca0f283c000023ca0f0200080, 0x10204081010214200000000400000040000004020458a, 0x3810c143062c183060c140040800000080000008580152c00a96, 0xb170058b8000000020408102020440700000000e000000e00000, 0x78f1e043860e003972e203800000380000038000003970058b80, 0x800000080023c70f1e0810204080811f3]) [] (fRg (tOf (3 + d2.1)) (d2.2.2.2 + 20)) (0, 0, 0, 0, 0) fun d3 =>
    .dat 16 (hx [0x1900000993264c9932a]) [24] (fNew (riO 0 (tOf (3 + d2.1))) [rangeO (tOf (3 + d2.1)) d3.2.1 (d2.2.2.2 + 20) d3.2.2.1]) (0, 0, 0) fun d4 =>
    .fin 2 [26]) fun N K p d1 d2 d3 d4 => .mk' []
      [(none, .builtin "list.__getitem__" ⟨[.ref 209, .ref (N + 1)], []⟩, [(209, listO (intsV iv) 0), (N + 1, sliceO 0 (K + 0) (K + 10) (K + 11))]),
       (none, .builtin "sum" ⟨[.ref d1.2.1], []⟩, [(d1.2.1, listO (intsV d1.1.1) 0)]),
       (none, .builtin "range.__new__" ⟨[.type "range", .int (tOf (3 + d2.1)) (d2.2.2.2 + 20)], []⟩, []),
       (none, .builtin "range.__iter__" ⟨[.ref d3.1], []⟩, [(d3.1, rangeO (tOf (3 + d2.1)) d3.2.1 (d2.2.2.2 + 20) d3.2.2.1)])]
      (fCome w.params T { V with m := 0, tk := none } J 0 iv [] [] [] [] 0 [] [] [] ⟨d4.1, 3 + d2.1, { V with m := 1, mt := d2.2.2.2 + 15, k := 0, kt := K + 0, x := 3 + d2.1, xt := d2.2.2.2 + 0, b := true, tk := none }, { F with kk := K + 1, kx := d2.2.2.2 + 1, kb := d2.2.2.2 + 2 }, d2.2.2.1 + 4, d2.2.2.1 + 1, d2.2.2.2 + 8, d2.2.2.2 + 4, d2.2.2.2 + 10, ⟨e1 + 1, e2 + 1, e4 + 1, e5, e6, e7 + 1, e8⟩, d4.2.1, d4.2.2⟩) (d4.2.1, 0) (d4.2.2, 0) [0, 25, 1, 2, 3, 4, 5, 6, 7, 23, 8, 9, 10, 11, 12, 13, 14, 15, 20] (by kernel_rfl) (by intro tb kb; kernel_rfl) noG ⟨fun b => ctF_sl w b _ _ _ _ _ _ _ _ hiv, fun b => ctF_sm w b _ _, fun b => ctF_range w b _ _, fun b => ctF_ri w b _ _ _ _ _, trivial⟩ rfl (MLQ.come (by decide) _ rfl rfl)
end Mine
end
noncomputable section
namespace Mine
open PySem PySem.W PySem.W.X

theorem ml_1_0 (w : WK) (p5 p6 : Pos) (T : LP) (F : FT) (V : FV) (J : NT) (iv : List (Int × Tok)) (e1 e2 e4 e5 e6 e7 e8 : Nat) (X1 Y1 : Wd) (P1 : PR) (D1 : DP) (tk : Option (Int × Tok)) (hiv : iv.length < 99999) :
    MainOk w p5 p6 T { V with m := 1, tk := tk } J iv 1 1 (lawF w.params F { V with m := 1, tk := tk }) ⟨e1, e2, e4, e5, e6, e7, e8⟩ [D1] [] [] [] [X1] [P1] [Y1] := by
  exact segK_run (E := E2 w) den_eq 100000 (fun N K p => .dat 61 (hx [0xb162c5810200013264c9930200080122848a142850a15a]) [10, 19] (fSl [listO (intsV iv) 0, sliceO 1 (K + 0) (K + 10) (K + 11)]) (sl0, 0, 0, 0) fun d1 =>
    .dat 4 [] [20] (fSm [listO (intsV d1.1.1) 0]) (0, 0, 0, 0) fun d2 =>
    teleIf ((1 + d2.1).fmod 2 = 1)
    (.pur 49 (hx [0x800004096205880000048162004001013]) (.int 1) <|
    .dat 308 (hx [0x8000000800000080408c1630601023060c18040010000001, 0x100000010c002e600173000000000810204080810a10000, 0x880e00000001c000001c000001c0860a183180c183060a00204, 0x7000000700000073200c190060c80306400000001020408101, 0x800240790200810204080812040810021c307001cc99101c000, 0x4000004]) [] (fRg (tOf (1 + d2.1)) (d2.2.2.2 + 24)) (0, 0, 0, 0, 0) fun d3 =>
    .dat 16 (hx [0x1b000009b366cd9b36a]) [26] (fNew (riO 0 (tOf (1 + d2.1))) [rangeO (tOf (1 + d2.1)) d3.2.1 (d2.2.2.2 + 24) d3.2.2.1]) (0, 0, 0) fun d4 =>
    .fin 2 [28])
    (.pur 49 (hx [0x800004096205880000048162004001013]) (.int 0) <|
    .ent 227 (hx [0x2011a3468d1e3c78f1e0408c1630601023060c18040010000001, 0x100000010c002e600000000284000000008000000800000, 0x2860c183060c18280081000000100000010c060c183060a00204, 0x380000000700000070000007023870e1c3c78f1e3c08d1834686, 0xc190000000108]) (popC (d2.2.2.1 + 3)) (popAlt (d2.2.2.1 + 3)) (popSub (d2.2.2.1 + 3)) <|
    .ent 33 (hx [0x1934000000020380000000700000070000007337]) (pcC (d2.2.2.1 + 4)) (pcAlt (d2.2.2.1 + 4)) (pcSub (d2.2.2.1 + 4)) <|
    .dat 220 (hx [0xd9b366cd9a3668d9a3600387006cd9b0000d0000000000204080, 0x70e00e9d3a000190000000000408100000010e70e000e0001b, 0x4890e183870000387001cf1e001c0003a74e9d3a74e1d3874e1d, 0x20001120448901e4081020408100244891220470d1c3848913d]) [] (fRg (tOf (1 + d2.1)) (d2.2.2.2 + 25)) (0, 0, 0, 0, 0) fun d3 =>
    .dat 16 (hx [0x1f000009f3e7cf9f3ea]) [30] (fNew (riO 0 (tOf (1 + d2.1))) [rangeO (tOf (1 + d2.1)) d3.2.1 (d2.2.2.2 + 25) d3.2.2.1]) (0, 0, 0) fun d4 =>
    .fin 2 [32])) fun N K p d1 d2 => teleIf_all (fun h d3 d4 => .mk' [(.builtin "int.__mod__" ⟨[.int (1 + d2.1) (d2.2.2.2 + 0), .int 2 (d2.2.2.2 + 3)], []⟩, .int 1)]
      [(none, .builtin "list.__getitem__" ⟨[.ref 209, .ref (N + 1)], []⟩, [(209, listO (intsV iv) 0), (N + 1, sliceO 1 (K + 0) (K + 10) (K + 11))]),
           (none, .builtin "sum" ⟨[.ref d1.2.1], []⟩, [(d1.2.1, listO (intsV d1.1.1) 0)]),
           (none, .builtin "range.__new__" ⟨[.type "range", .int (tOf (1 + d2.1)) (d2.2.2.2 + 24)], []⟩, []),
           (none, .builtin "range.__iter__" ⟨[.ref d3.1], []⟩, [(d3.1, rangeO (tOf (1 + d2.1)) d3.2.1 (d2.2.2.2 + 24) d3.2.2.1)])]
      (fCome w.params T { V with m := 1, tk := tk } J 1 iv [] [] [] [D1] 1 [X1] [P1] [Y1] ⟨d4.1, 1 + d2.1, { V with m := 2, mt := d2.2.2.2 + 19, k := 1, kt := K + 0, x := 1 + d2.1, xt := d2.2.2.2 + 0, b := true, tk := tk }, F, d2.2.2.1 + 4, d2.2.2.1 + 1, d2.2.2.2 + 12, d2.2.2.2 + 8, d2.2.2.2 + 14, ⟨e1 + 1, e2 + 1, e4 + 1, e5, e6, e7 + 1, e8⟩, d4.2.1, d4.2.2⟩) (d4.2.1, 0) (d4.2.2, 0) [0, 27, 1, 2, 3, 4, 5, 6, 7, 8, 25, 9, 10, 11, 12, 13, 14, 15, 16, 17, 22] (by cases tk <;> kernel_rfl) (by cases tk <;> (intro tb kb; kernel_rfl)) (oneG (gives_odd h)) ⟨fun b => ctF_sl w b _ _ _ _ _ _ _ _ hiv, fun b => ctF_sm w b _ _, fun b => ctF_range w b _ _, fun b => ctF_ri w b _ _ _ _ _, trivial⟩ rfl (MLQ.come (by decide) _ rfl rfl))
    (fun h d3 d4 => .mk' [(.builtin "int.__mod__" ⟨[.int (1 + d2.1) (d2.2.2.2 + 0), .int 2 (d2.2.2.2 + 3)], []⟩, .int 0)]
      [(none, .builtin "list.__getitem__" ⟨[.ref 209, .ref (N + 1)], []⟩, [(209, listO (intsV iv) 0), (N + 1, sliceO 1 (K + 0) (K + 10) (K + 11))]),
           (none, .builtin "sum" ⟨[.ref d1.2.1], []⟩, [(d1.2.1, listO (intsV d1.1.1) 0)]),
           (none, .builtin "range.__new__" ⟨[.type "range", .int (tOf (1 + d2.1)) (d2.2.2.2 + 25)], []⟩, []),
           (none, .builtin "range.__iter__" ⟨[.ref d3.1], []⟩, [(d3.1, rangeO (tOf (1 + d2.1)) d3.2.1 (d2.2.2.2 + 25) d3.2.2.1)])]
      (fGo w.params T { V with m := 1, tk := tk } J 1 iv [] [] [] [D1] X1 [] [] P1 [] Y1 ⟨d4.1, 1 + d2.1, { V with m := 1, mt := V.mt, k := 1, kt := K + 0, x := 1 + d2.1, xt := d2.2.2.2 + 0, b := false, tk := tk }, F, 0, d2.2.2.1 + 1, 0, 0, 0, ⟨e1 + 1, e2 + 1, e4 + 1, e5 + 1, e6 + 1, e7 + 1, e8 + 1⟩, d4.2.1, d4.2.2⟩) (d4.2.1, 0) (d4.2.2, 0) [0, 31, 1, 2, 3, 4, 5, 6, 7, 9, 10, 11, 12, 13, 14, 15, 16, 17, 22] (by cases tk <;> kernel_rfl) (by cases tk <;> (intro tb kb; kernel_rfl)) (oneG (gives_even h)) ⟨fun b => ctF_sl w b _ _ _ _ _ _ _ _ hiv, fun b => ctF_sm w b _ _, fun b => ctF_range w b _ _, fun b => ctF_ri w b _ _ _ _ _, trivial⟩ rfl (MLQ.go X1 [] [] P1 [] Y1 _ rfl rfl))
end Mine
end
noncomputable section
namespace Mine
open PySem PySem.W PySem.W.X

theorem ml_1_1 (w : WK) (p5 p6 : Pos) (T : LP) (F : FT) (V : FV) (J : NT) (iv : List (Int × Tok)) (e1 e2 e4 e5 e6 e7 e8 : Nat) (g1 r1 m1 : Wd) (D1 D2 : DP) (tk : Option (Int × Tok)) (hiv : iv.length < 99999) :
    MainOk w p5 p6 T { V with m := 1, tk := tk } J iv 2 1 (lawF w.params F { V with m := 1, tk := tk }) ⟨e1, e2, e4, e5, e6, e7, e8⟩ [D1, D2] [g1] [r1] [m1] [] [] [] := by
  exact segK_run (E := E2 w) den_eq 100000 (fun N K p => .dat 61 (hx [0xa14285010200013264c99302000801024409122448913a]) [9, 19] (fSl [listO (intsV iv) 0, sliceO 2 (K + 0) (K + 10) (K + 11)]) (sl0, 0, 0, 0) fun d1 =>
    .dat 4 [] [20] (fSm [listO (intsV d1.1.1) 0]) (0, 0, 0, 0) fun d2 =>
    .dat 339 (hx [0x58b020458b162c0800200b0f2c3cb0f2c3c000023cb0f0200080, 0x10204081010214200000000400000040000004020458a, 0x3810c1430630183060c140040800000080000008600173000b98, 0xc190060c8000000020408102020440700000000e000000e00000, 0x78f1e043860e0039932203800000380000038000003990060c80, 0x800000080023c70f1e0810204080811f3]) [] (fRg (tOf (5 + d2.1)) (d2.2.2.2 + 20)) (0, 0, 0, 0, 0) fun d3 =>
    .dat 16 (hx [0x1b000009b366cd9b36a]) [26] (fNew (riO 0 (tOf (5 + d2.1))) [rangeO (tOf (5 + d2.1)) d3.2.1 (d2.2.2.2 + 20) d3.2.2.1]) (0, 0, 0) fun d4 =>
    .fin 2 [28]) fun N K p d1 d2 d3 d4 => .mk' []
      [(none, .builtin "list.__getitem__" ⟨[.ref 209, .ref (N + 1)], []⟩, [(209, listO (intsV iv) 0), (N + 1, sliceO 2 (K + 0) (K + 10) (K + 11))]),
       (none, .builtin "sum" ⟨[.ref d1.2.1], []⟩, [(d1.2.1, listO (intsV d1.1.1) 0)]),
       (none, .builtin "range.__new__" ⟨[.type "range", .int (tOf (5 + d2.1)) (d2.2.2.2 + 20)], []⟩, []),
       (none, .builtin "range.__iter__" ⟨[.ref d3.1], []⟩, [(d3.1, rangeO (tOf (5 + d2.1)) d3.2.1 (d2.2.2.2 + 20) d3.2.2.1)])]
      (fCome w.params T { V with m := 1, tk := tk } J 2 iv [g1] [r1] [m1] [D1, D2] 1 [] [] [] ⟨d4.1, 5 + d2.1, { V with m := 2, mt := d2.2.2.2 + 15, k := 2, kt := K + 0, x := 5 + d2.1, xt := d2.2.2.2 + 0, b := true, tk := tk }, F, d2.2.2.1 + 4, d2.2.2.1 + 1, d2.2.2.2 + 8, d2.2.2.2 + 4, d2.2.2.2 + 10, ⟨e1 + 1, e2 + 1, e4 + 1, e5, e6, e7 + 1, e8⟩, d4.2.1, d4.2.2⟩) (d4.2.1, 0) (d4.2.2, 0) [0, 27, 1, 2, 3, 4, 5, 6, 7, 25, 8, 9, 10, 11, 12, 13, 14, 15, 16, 17, 22] (by cases tk <;> kernel_rfl) (by cases tk <;> (intro tb kb; kernel_rfl)) noG ⟨fun b => ctF_sl w b _ _ _ _ _ _ _ _ hiv, fun b => ctF_sm w b _ _, fun b => ctF_range w b _ _, fun b => ctF_ri w b _ _ _ _ _, trivial⟩ rfl (MLQ.come (by decide) _ rfl rfl)
end Mine
end
noncomputable section
namespace Mine
open PySem PySem.W PySem.W.X

theorem ml_2_0 (w : WK) (p5 p6 : Pos) (T : LP) (F : FT) (V : FV) (J : NT) (iv : List (Int × Tok)) (e1 e2 e4 e5 e6 e7 e8 : Nat) (X1 Y1 X2 Y2 : Wd) (P1 P2 : PR) (D1 D2 : DP) (tk : Option (Int × Tok)) (hiv : iv.length < 99999) :
    MainOk w p5 p6 T { V with m := 2, tk := tk } J iv 2 2 (lawF w.params F { V with m := 2, tk := tk }) ⟨e1, e2, e4, e5, e6, e7, e8⟩ [D1, D2] [] [] [] [X1, X2] [P1, P2] [Y1, Y2] := by
  exact segK_run (E := E2 w) den_eq 100000 (fun N K p => .dat 61 (hx [0xc183060102000152a54a950200080142c50b162c58b17a]) [11, 21] (fSl [listO (intsV iv) 0, sliceO 2 (K + 0) (K + 10) (K + 11)]) (sl0, 0, 0, 0) fun d1 =>
    .dat 4 [] [22] (fSm [listO (intsV d1.1.1) 0]) (0, 0, 0, 0) fun d2 =>
    teleIf ((5 + d2.1).fmod 2 = 1)
    (.pur 49 (hx [0x800004098226088000048982204001013]) (.int 1) <|
    .dat 308 (hx [0x8000000800000080408d1834681023468d1a040010000001, 0x100000010d0032680193400000000810204080810a10000, 0x880e00000001c000001c000001c0860a1831a0c183060a00204, 0x7000000700000073600d1b0068d80346c00000001020408101, 0x800244811220810204080812244891021c307001cd9b101c000, 0x4000004]) [] (fRg (tOf (5 + d2.1)) (d2.2.2.2 + 24)) (0, 0, 0, 0, 0) fun d3 =>
    .dat 16 (hx [0x1d000009d3a74e9d3aa]) [28] (fNew (riO 0 (tOf (5 + d2.1))) [rangeO (tOf (5 + d2.1)) d3.2.1 (d2.2.2.2 + 24) d3.2.2.1]) (0, 0, 0) fun d4 =>
    .fin 2 [30])
    (.pur 49 (hx [0x800004098226088000048982204001013]) (.int 0) <|
    .ent 227 (hx [0x2011c3870e2040810200408d1834681023468d1a040010000001, 0x100000010d0032680000000284000000008000000800000, 0x2860c183060c18280081000000100000010d060c183060a00204, 0x380000000700000070000007023c78f1e40810204008e1a38706, 0xd1b0000000108]) (popC (d2.2.2.1 + 3)) (popAlt (d2.2.2.1 + 3)) (popSub (d2.2.2.1 + 3)) <|
    .ent 33 (hx [0x1b38000000020380000000700000070000007377]) (pcC (d2.2.2.1 + 4)) (pcAlt (d2.2.2.1 + 4)) (pcSub (d2.2.2.1 + 4)) <|
    .dat 220 (hx [0xe9d3a74e9c3a70e9c3a003870074e9d0000e0000000000204080, 0x70e00f9f3e0001b0000000000408100000010e78f000e0001d, 0x50a0e183870000387001d020001c0003e7cf9f3e7cf1f3c7cf1f, 0x2000122248911204489122448910248912240478e1e3c50a15d]) [] (fRg (tOf (5 + d2.1)) (d2.2.2.2 + 25)) (0, 0, 0, 0, 0) fun d3 =>
    .dat 16 (hx [0x2100000a142850a142a]) [32] (fNew (riO 0 (tOf (5 + d2.1))) [rangeO (tOf (5 + d2.1)) d3.2.1 (d2.2.2.2 + 25) d3.2.2.1]) (0, 0, 0) fun d4 =>
    .fin 2 [34])) fun N K p d1 d2 => teleIf_all (fun h d3 d4 => .mk' [(.builtin "int.__mod__" ⟨[.int (5 + d2.1) (d2.2.2.2 + 0), .int 2 (d2.2.2.2 + 3)], []⟩, .int 1)]
      [(none, .builtin "list.__getitem__" ⟨[.ref 209, .ref (N + 1)], []⟩, [(209, listO (intsV iv) 0), (N + 1, sliceO 2 (K + 0) (K + 10) (K + 11))]),
           (none, .builtin "sum" ⟨[.ref d1.2.1], []⟩, [(d1.2.1, listO (intsV d1.1.1) 0)]),
           (none, .builtin "range.__new__" ⟨[.type "range", .int (tOf (5 + d2.1)) (d2.2.2.2 + 24)], []⟩, []),
           (none, .builtin "range.__iter__" ⟨[.ref d3.1], []⟩, [(d3.1, rangeO (tOf (5 + d2.1)) d3.2.1 (d2.2.2.2 + 24) d3.2.2.1)])]
      (fCome w.params T { V with m := 2, tk := tk } J 2 iv [] [] [] [D1, D2] 2 [X1, X2] [P1, P2] [Y1, Y2] ⟨d4.1, 5 + d2.1, { V with m := 3, mt := d2.2.2.2 + 19, k := 2, kt := K + 0, x := 5 + d2.1, xt := d2.2.2.2 + 0, b := true, tk := tk }, F, d2.2.2.1 + 4, d2.2.2.1 + 1, d2.2.2.2 + 12, d2.2.2.2 + 8, d2.2.2.2 + 14, ⟨e1 + 1, e2 + 1, e4 + 1, e5, e6, e7 + 1, e8⟩, d4.2.1, d4.2.2⟩) (d4.2.1, 0) (d4.2.2, 0) [0, 29, 1, 2, 3, 4, 5, 6, 7, 8, 9, 27, 10, 11, 12, 13, 14, 15, 16, 17, 18, 19, 24] (by cases tk <;> kernel_rfl) (by cases tk <;> (intro tb kb; kernel_rfl)) (oneG (gives_odd h)) ⟨fun b => ctF_sl w b _ _ _ _ _ _ _ _ hiv, fun b => ctF_sm w b _ _, fun b => ctF_range w b _ _, fun b => ctF_ri w b _ _ _ _ _, trivial⟩ rfl (MLQ.come (by decide) _ rfl rfl))
    (fun h d3 d4 => .mk' [(.builtin "int.__mod__" ⟨[.int (5 + d2.1) (d2.2.2.2 + 0), .int 2 (d2.2.2.2 + 3)], []⟩, .int 0)]
      [(none, .builtin "list.__getitem__" ⟨[.ref 209, .ref (N + 1)], []⟩, [(209, listO (intsV iv) 0), (N + 1, sliceO 2 (K + 0) (K + 10) (K + 11))]),
           (none, .builtin "sum" ⟨[.ref d1.2.1], []⟩, [(d1.2.1, listO (intsV d1.1.1) 0)]),
           (none, .builtin "range.__new__" ⟨[.type "range", .int (tOf (5 + d2.1)) (d2.2.2.2 + 25)], []⟩, []),
           (none, .builtin "range.__iter__" ⟨[.ref d3.1], []⟩, [(d3.1, rangeO (tOf (5 + d2.1)) d3.2.1 (d2.2.2.2 + 25) d3.2.2.1)])]
      (fGo w.params T { V with m := 2, tk := tk } J 2 iv [] [] [] [D1, D2] X1 [X2] [P1] P2 [Y1] Y2 ⟨d4.1, 5 + d2.1, { V with m := 2, mt := V.mt, k := 2, kt := K + 0, x := 5 + d2.1, xt := d2.2.2.2 + 0, b := false, tk := tk }, F, 0, d2.2.2.1 + 1, 0, 0, 0, ⟨e1 + 1, e2 + 1, e4 + 1, e5 + 1, e6 + 1, e7 + 1, e8 + 1⟩, d4.2.1, d4.2.2⟩) (d4.2.1, 0) (d4.2.2, 0) [0, 33, 1, 2, 3, 4, 5, 6, 7, 8, 10, 11, 12, 13, 14, 15, 16, 17, 18, 19, 24] (by cases tk <;> kernel_rfl) (by cases tk <;> (intro tb kb; kernel_rfl)) (oneG (gives_even h)) ⟨fun b => ctF_sl w b _ _ _ _ _ _ _ _ hiv, fun b => ctF_sm w b _ _, fun b => ctF_range w b _ _, fun b => ctF_ri w b _ _ _ _ _, trivial⟩ rfl (MLQ.go X1 [X2] [P1] P2 [Y1] Y2 _ rfl rfl))
end Mine
end
noncomputable section
namespace Mine
open PySem PySem.W PySem.W.X

theorem ml_2_1 (w : WK) (p5 p6 : Pos) (T : LP) (F : FT) (V : FV) (J : NT) (iv : List (Int × Tok)) (e1 e2 e4 e5 e6 e7 e8 : Nat) (X1 Y1 : Wd) (P1 : PR) (g1 r1 m1 : Wd) (D1 D2 D3 : DP) (tk : Option (Int × Tok)) (hiv : iv.length < 99999) :
    MainOk w p5 p6 T { V with m := 2, tk := tk } J iv 3 2 (lawF w.params F { V with m := 2, tk := tk }) ⟨e1, e2, e4, e5, e6, e7, e8⟩ [D1, D2, D3] [g1] [r1] [m1] [X1] [P1] [Y1] := by
  exact segK_run (E := E2 w) den_eq 100000 (fun N K p => .dat 61 (hx [0xb162c58102000152a54a950200080122848a142850a15a]) [10, 21] (fSl [listO (intsV iv) 0, sliceO 3 (K + 0) (K + 10) (K + 11)]) (sl0, 0, 0, 0) fun d1 =>
    .dat 4 [] [22] (fSm [listO (intsV d1.1.1) 0]) (0, 0, 0, 0) fun d2 =>
    teleIf ((2 + d2.1).fmod 2 = 1)
    (.pur 49 (hx [0x800004098206080000048182004001013]) (.int 1) <|
    .dat 308 (hx [0x8000000800000080408c1630601023060c18040010000001, 0x100000010d0032680193400000000810204080810a10000, 0x880e00000001c000001c000001c0860a1831a0c183060a00204, 0x7000000700000073600d1b0068d80346c00000001020408101, 0x800240790200810204080812040810021c307001cd9b101c000, 0x4000004]) [] (fRg (tOf (2 + d2.1)) (d2.2.2.2 + 24)) (0, 0, 0, 0, 0) fun d3 =>
    .dat 16 (hx [0x1d000009d3a74e9d3aa]) [28] (fNew (riO 0 (tOf (2 + d2.1))) [rangeO (tOf (2 + d2.1)) d3.2.1 (d2.2.2.2 + 24) d3.2.2.1]) (0, 0, 0) fun d4 =>
    .fin 2 [30])
    (.pur 49 (hx [0x800004098206080000048182004001013]) (.int 0) <|
    .ent 227 (hx [0x2011a3468d1e3c78f1e0408c1630601023060c18040010000001, 0x100000010d0032680000000284000000008000000800000, 0x2860c183060c18280081000000100000010d060c183060a00204, 0x380000000700000070000007023870e1c3c78f1e3c08d1834686, 0xd1b0000000108]) (popC (d2.2.2.1 + 3)) (popAlt (d2.2.2.1 + 3)) (popSub (d2.2.2.1 + 3)) <|
    .ent 33 (hx [0x1b38000000020380000000700000070000007377]) (pcC (d2.2.2.1 + 4)) (pcAlt (d2.2.2.1 + 4)) (pcSub (d2.2.2.1 + 4)) <|
    .dat 220 (hx [0xe9d3a74e9c3a70e9c3a003870074e9d0000e0000000000204080, 0x70e00f9f3e0001b0000000000408100000010e78f000e0001d, 0x4890e183870000387001d020001c0003e7cf9f3e7cf1f3c7cf1f, 0x20001120448901e4081020408100244891220470d1c3848913d]) [] (fRg (tOf (2 + d2.1)) (d2.2.2.2 + 25)) (0, 0, 0, 0, 0) fun d3 =>
    .dat 16 (hx [0x2100000a142850a142a]) [32] (fNew (riO 0 (tOf (2 + d2.1))) [rangeO (tOf (2 + d2.1)) d3.2.1 (d2.2.2.2 + 25) d3.2.2.1]) (0, 0, 0) fun d4 =>
    .fin 2 [34])) fun N K p d1 d2 => teleIf_all (fun h d3 d4 => .mk' [(.builtin "int.__mod__" ⟨[.int (2 + d2.1) (d2.2.2.2 + 0), .int 2 (d2.2.2.2 + 3)], []⟩, .int 1)]
      [(none, .builtin "list.__getitem__" ⟨[.ref 209, .ref (N + 1)], []⟩, [(209, listO (intsV iv) 0), (N + 1, sliceO 3 (K + 0) (K + 10) (K + 11))]),
           (none, .builtin "sum" ⟨[.ref d1.2.1], []⟩, [(d1.2.1, listO (intsV d1.1.1) 0)]),
           (none, .builtin "range.__new__" ⟨[.type "range", .int (tOf (2 + d2.1)) (d2.2.2.2 + 24)], []⟩, []),
           (none, .builtin "range.__iter__" ⟨[.ref d3.1], []⟩, [(d3.1, rangeO (tOf (2 + d2.1)) d3.2.1 (d2.2.2.2 + 24) d3.2.2.1)])]
      (fCome w.params T { V with m := 2, tk := tk } J 3 iv [g1] [r1] [m1] [D1, D2, D3] 2 [X1] [P1] [Y1] ⟨d4.1, 2 + d2.1, { V with m := 3, mt := d2.2.2.2 + 19, k := 3, kt := K + 0, x := 2 + d2.1, xt := d2.2.2.2 + 0, b := true, tk := tk }, F, d2.2.2.1 + 4, d2.2.2.1 + 1, d2.2.2.2 + 12, d2.2.2.2 + 8, d2.2.2.2 + 14, ⟨e1 + 1, e2 + 1, e4 + 1, e5, e6, e7 + 1, e8⟩, d4.2.1, d4.2.2⟩) (d4.2.1, 0) (d4.2.2, 0) [0, 29, 1, 2, 3, 4, 5, 6, 7, 8, 27, 9, 10, 11, 12, 13, 14, 15, 16, 17, 18, 19, 24] (by cases tk <;> kernel_rfl) (by cases tk <;> (intro tb kb; kernel_rfl)) (oneG (gives_odd h)) ⟨fun b => ctF_sl w b _ _ _ _ _ _ _ _ hiv, fun b => ctF_sm w b _ _, fun b => ctF_range w b _ _, fun b => ctF_ri w b _ _ _ _ _, trivial⟩ rfl (MLQ.come (by decide) _ rfl rfl))
    (fun h d3 d4 => .mk' [(.builtin "int.__mod__" ⟨[.int (2 + d2.1) (d2.2.2.2 + 0), .int 2 (d2.2.2.2 + 3)], []⟩, .int 0)]
      [(none, .builtin "list.__getitem__" ⟨[.ref 209, .ref (N + 1)], []⟩, [(209, listO (intsV iv) 0), (N + 1, sliceO 3 (K + 0) (K + 10) (K + 11))]),
           (none, .builtin "sum" ⟨[.ref d1.2.1], []⟩, [(d1.2.1, listO (intsV d1.1.1) 0)]),
           (none, .builtin "range.__new__" ⟨[.type "range", .int (tOf (2 + d2.1)) (d2.2.2.2 + 25)], []⟩, []),
           (none, .builtin "range.__iter__" ⟨[.ref d3.1], []⟩, [(d3.1, rangeO (tOf (2 + d2.1)) d3.2.1 (d2.2.2.2 + 25) d3.2.2.1)])]
      (fGo w.params T { V with m := 2, tk := tk } J 3 iv [g1] [r1] [m1] [D1, D2, D3] X1 [] [] P1 [] Y1 ⟨d4.1, 2 + d2.1, { V with m := 2, mt := V.mt, k := 3, kt := K + 0, x := 2 + d2.1, xt := d2.2.2.2 + 0, b := false, tk := tk }, F, 0, d2.2.2.1 + 1, 0, 0, 0, ⟨e1 + 1, e2 + 1, e4 + 1, e5 + 1, e6 + 1, e7 + 1, e8 + 1⟩, d4.2.1, d4.2.2⟩) (d4.2.1, 0) (d4.2.2, 0) [0, 33, 1, 2, 3, 4, 5, 6, 7, 9, 10, 11, 12, 13, 14, 15, 16, 17, 18, 19, 24] (by cases tk <;> kernel_rfl) (by cases tk <;> (intro tb kb; kernel_rfl)) (oneG (gives_even h)) ⟨fun b => ctF_sl w b _ _ _ _ _ _ _ _ hiv, fun b => ctF_sm w b _ _, fun b => ctF_range w b _ _, fun b => ctF_ri w b _ _ _ _ _, trivial⟩ rfl (MLQ.go X1 [] [] P1 [] Y1 _ rfl rfl))
end Mine
end
noncomputable section
namespace Mine
open PySem PySem.W PySem.W.X

theorem ml_2_2 (w : WK) (p5 p6 : Pos) (T : LP) (F : FT) (V : FV) (J : NT) (iv : List (Int × Tok)) (e1 e2 e4 e5 e6 e7 e8 : Nat) (g1 r1 m1 g2 r2 m2 : Wd) (D1 D2 D3 D4 : DP) (tk : Option (Int × Tok)) (hiv : iv.length < 99999) :
    MainOk w p5 p6 T { V with m := 2, tk := tk } J iv 4 2 (lawF w.params F { V with m := 2, tk := tk }) ⟨e1, e2, e4, e5, e6, e7, e8⟩ [D1, D2, D3, D4] [g1, g2] [r1, r2] [m1, m2] [] [] [] := by
  exact segK_run (E := E2 w) den_eq 100000 (fun N K p => .dat 61 (hx [0xa142850102000152a54a9502000801024409122448913a]) [9, 21] (fSl [listO (intsV iv) 0, sliceO 4 (K + 0) (K + 10) (K + 11)]) (sl0, 0, 0, 0) fun d1 =>
    .dat 4 [] [22] (fSm [listO (intsV d1.1.1) 0]) (0, 0, 0, 0) fun d2 =>
    .dat 339 (hx [0x58b020458b162c0800200c0f303cc0f303c000023cc0f0200080, 0x10204081010214200000000400000040000004020458a, 0x3810c1430634183060c140040800000080000008680193400c9a, 0xd1b0068d8000000020408102020440700000000e000000e00000, 0x78f1e043860e0039b362038000003800000380000039b0068d80, 0x800000080023c70f1e0810204080811f3]) [] (fRg (tOf (1 + d2.1)) (d2.2.2.2 + 20)) (0, 0, 0, 0, 0) fun d3 =>
    .dat 16 (hx [0x1d000009d3a74e9d3aa]) [28] (fNew (riO 0 (tOf (1 + d2.1))) [rangeO (tOf (1 + d2.1)) d3.2.1 (d2.2.2.2 + 20) d3.2.2.1]) (0, 0, 0) fun d4 =>
    .fin 2 [30]) fun N K p d1 d2 d3 d4 => .mk' []
      [(none, .builtin "list.__getitem__" ⟨[.ref 209, .ref (N + 1)], []⟩, [(209, listO (intsV iv) 0), (N + 1, sliceO 4 (K + 0) (K + 10) (K + 11))]),
       (none, .builtin "sum" ⟨[.ref d1.2.1], []⟩, [(d1.2.1, listO (intsV d1.1.1) 0)]),
       (none, .builtin "range.__new__" ⟨[.type "range", .int (tOf (1 + d2.1)) (d2.2.2.2 + 20)], []⟩, []),
       (none, .builtin "range.__iter__" ⟨[.ref d3.1], []⟩, [(d3.1, rangeO (tOf (1 + d2.1)) d3.2.1 (d2.2.2.2 + 20) d3.2.2.1)])]
      (fCome w.params T { V with m := 2, tk := tk } J 4 iv [g1, g2] [r1, r2] [m1, m2] [D1, D2, D3, D4] 2 [] [] [] ⟨d4.1, 1 + d2.1, { V with m := 3, mt := d2.2.2.2 + 15, k := 4, kt := K + 0, x := 1 + d2.1, xt := d2.2.2.2 + 0, b := true, tk := tk }, F, d2.2.2.1 + 4, d2.2.2.1 + 1, d2.2.2.2 + 8, d2.2.2.2 + 4, d2.2.2.2 + 10, ⟨e1 + 1, e2 + 1, e4 + 1, e5, e6, e7 + 1, e8⟩, d4.2.1, d4.2.2⟩) (d4.2.1, 0) (d4.2.2, 0) [0, 29, 1, 2, 3, 4, 5, 6, 7, 27, 8, 9, 10, 11, 12, 13, 14, 15, 16, 17, 18, 19, 24] (by cases tk <;> kernel_rfl) (by cases tk <;> (intro tb kb; kernel_rfl)) noG ⟨fun b => ctF_sl w b _ _ _ _ _ _ _ _ hiv, fun b => ctF_sm w b _ _, fun b => ctF_range w b _ _, fun b => ctF_ri w b _ _ _ _ _, trivial⟩ rfl (MLQ.come (by decide) _ rfl rfl)
end Mine
end
noncomputable section
namespace Mine
open PySem PySem.W PySem.W.X

theorem ml_3_0 (w : WK) (p5 p6 : Pos) (T : LP) (F : FT) (V : FV) (J : NT) (iv : List (Int × Tok)) (e1 e2 e4 e5 e6 e7 e8 : Nat) (X1 Y1 X2 Y2 X3 Y3 : Wd) (P1 P2 P3 : PR) (D1 D2 D3 : DP) (tk : Option (Int × Tok)) (hiv : iv.length < 99999) :
    MainOk w p5 p6 T { V with m := 3, tk := tk } J iv 3 3 (lawF w.params F { V with m := 3, tk := tk }) ⟨e1, e2, e4, e5, e6, e7, e8⟩ [D1, D2, D3] [] [] [] [X1, X2, X3] [P1, P2, P3] [Y1, Y2, Y3] := by
  exact segK_run (E := E2 w) den_eq 100000 (fun N K p => .dat 61 (hx [0xd1a3468102000172e5cb970200080163058c183060c19a]) [12, 23] (fSl [listO (intsV iv) 0, sliceO 3 (K + 0) (K + 10) (K + 11)]) (sl0, 0, 0, 0) fun d1 =>
    .dat 4 [] [24] (fSm [listO (intsV d1.1.1) 0]) (0, 0, 0, 0) fun d2 =>
    teleIf ((2 + d2.1).fmod 2 = 1)
    (.pur 49 (hx [0x80000409a2468900000491a2404001013]) (.int 1) <|
    .dat 308 (hx [0x8000000800000080408e1a38701023870e1c040010000001, 0x100000010e00367001b3800000000810204080810a10000, 0x880e00000001c000001c000001c0860a1831c0c183060a00204, 0x7000000700000073a00e1d0070e80387400000001020408101, 0x800248892240810204080812448912021c307001ce9d101c000, 0x4000004]) [] (fRg (tOf (2 + d2.1)) (d2.2.2.2 + 24)) (0, 0, 0, 0, 0) fun d3 =>
    .dat 16 (hx [0x1f000009f3e7cf9f3ea]) [30] (fNew (riO 0 (tOf (2 + d2.1))) [rangeO (tOf (2 + d2.1)) d3.2.1 (d2.2.2.2 + 24) d3.2.2.1]) (0, 0, 0) fun d4 =>
    .fin 2 [32])
    (.pur 49 (hx [0x80000409a2468900000491a2404001013]) (.int 0) <|
    .ent 227 (hx [0x2011e3c78f2244891220408e1a38701023870e1c040010000001, 0x100000010e0036700000000284000000008000000800000, 0x2860c183060c18280081000000100000010e060c183060a00204, 0x38000000070000007000000702408102044891224408f1c3c786, 0xe1d0000000108]) (popC (d2.2.2.1 + 3)) (popAlt (d2.2.2.1 + 3)) (popSub (d2.2.2.1 + 3)) <|
    .ent 33 (hx [0x1d3c0000000203800000007000000700000073b7]) (pcC (d2.2.2.1 + 4)) (pcAlt (d2.2.2.1 + 4)) (pcSub (d2.2.2.1 + 4)) <|
    .dat 220 (hx [0xf9f3e7cf9e3e78f9e3e00387007cf9f0000f0000000000204080, 0x70e010a1420001d0000000000408100000010e810000e0001f, 0x58b0e183870000387001d122001c00042850a142850214085021, 0x200013244c99222489122448912024c993260480f204058b17d]) [] (fRg (tOf (2 + d2.1)) (d2.2.2.2 + 25)) (0, 0, 0, 0, 0) fun d3 =>
    .dat 16 (hx [0x2300000a3468d1a346a]) [34] (fNew (riO 0 (tOf (2 + d2.1))) [rangeO (tOf (2 + d2.1)) d3.2.1 (d2.2.2.2 + 25) d3.2.2.1]) (0, 0, 0) fun d4 =>
    .fin 2 [36])) fun N K p d1 d2 => teleIf_all (fun h d3 d4 => .mk' [(.builtin "int.__mod__" ⟨[.int (2 + d2.1) (d2.2.2.2 + 0), .int 2 (d2.2.2.2 + 3)], []⟩, .int 1)]
      [(none, .builtin "list.__getitem__" ⟨[.ref 209, .ref (N + 1)], []⟩, [(209, listO (intsV iv) 0), (N + 1, sliceO 3 (K + 0) (K + 10) (K + 11))]),
           (none, .builtin "sum" ⟨[.ref d1.2.1], []⟩, [(d1.2.1, listO (intsV d1.1.1) 0)]),
           (none, .builtin "range.__new__" ⟨[.type "range", .int (tOf (2 + d2.1)) (d2.2.2.2 + 24)], []⟩, []),
           (none, .builtin "range.__iter__" ⟨[.ref d3.1], []⟩, [(d3.1, rangeO (tOf (2 + d2.1)) d3.2.1 (d2.2.2.2 + 24) d3.2.2.1)])]
      (fCome w.params T { V with m := 3, tk := tk } J 3 iv [] [] [] [D1, D2, D3] 3 [X1, X2, X3] [P1, P2, P3] [Y1, Y2, Y3] ⟨d4.1, 2 + d2.1, { V with m := 4, mt := d2.2.2.2 + 19, k := 3, kt := K + 0, x := 2 + d2.1, xt := d2.2.2.2 + 0, b := true, tk := tk }, F, d2.2.2.1 + 4, d2.2.2.1 + 1, d2.2.2.2 + 12, d2.2.2.2 + 8, d2.2.2.2 + 14, ⟨e1 + 1, e2 + 1, e4 + 1, e5, e6, e7 + 1, e8⟩, d4.2.1, d4.2.2⟩) (d4.2.1, 0) (d4.2.2, 0) [0, 31, 1, 2, 3, 4, 5, 6, 7, 8, 9, 10, 29, 11, 12, 13, 14, 15, 16, 17, 18, 19, 20, 21, 26] (by cases tk <;> kernel_rfl) (by cases tk <;> (intro tb kb; kernel_rfl)) (oneG (gives_odd h)) ⟨fun b => ctF_sl w b _ _ _ _ _ _ _ _ hiv, fun b => ctF_sm w b _ _, fun b => ctF_range w b _ _, fun b => ctF_ri w b _ _ _ _ _, trivial⟩ rfl (MLQ.come (by decide) _ rfl rfl))
    (fun h d3 d4 => .mk' [(.builtin "int.__mod__" ⟨[.int (2 + d2.1) (d2.2.2.2 + 0), .int 2 (d2.2.2.2 + 3)], []⟩, .int 0)]
      [(none, .builtin "list.__getitem__" ⟨[.ref 209, .ref (N + 1)], []⟩, [(209, listO (intsV iv) 0), (N + 1, sliceO 3 (K + 0) (K + 10) (K + 11))]),
           (none, .builtin "sum" ⟨[.ref d1.2.1], []⟩, [(d1.2.1, listO (intsV d1.1.1) 0)]),
           (none, .builtin "range.__new__" ⟨[.type "range", .int (tOf (2 + d2.1)) (d2.2.2.2 + 25)], []⟩, []),
           (none, .builtin "range.__iter__" ⟨[.ref d3.1], []⟩, [(d3.1, rangeO (tOf (2 + d2.1)) d3.2.1 (d2.2.2.2 + 25) d3.2.2.1)])]
      (fGo w.params T { V with m := 3, tk := tk } J 3 iv [] [] [] [D1, D2, D3] X1 [X2, X3] [P1, P2] P3 [Y1, Y2] Y3 ⟨d4.1, 2 + d2.1, { V with m := 3, mt := V.mt, k := 3, kt := K + 0, x := 2 + d2.1, xt := d2.2.2.2 + 0, b := false, tk := tk }, F, 0, d2.2.2.1 + 1, 0, 0, 0, ⟨e1 + 1, e2 + 1, e4 + 1, e5 + 1, e6 + 1, e7 + 1, e8 + 1⟩, d4.2.1, d4.2.2⟩) (d4.2.1, 0) (d4.2.2, 0) [0, 35, 1, 2, 3, 4, 5, 6, 7, 8, 9, 11, 12, 13, 14, 15, 16, 17, 18, 19, 20, 21, 26] (by cases tk <;> kernel_rfl) (by cases tk <;> (intro tb kb; kernel_rfl)) (oneG (gives_even h)) ⟨fun b => ctF_sl w b _ _ _ _ _ _ _ _ hiv, fun b => ctF_sm w b _ _, fun b => ctF_range w b _ _, fun b => ctF_ri w b _ _ _ _ _, trivial⟩ rfl (MLQ.go X1 [X2, X3] [P1, P2] P3 [Y1, Y2] Y3 _ rfl rfl))
end Mine
end
noncomputable section
namespace Mine
open PySem PySem.W PySem.W.X

theorem ml_3_1 (w : WK) (p5 p6 : Pos) (T : LP) (F : FT) (V : FV) (J : NT) (iv : List (Int × Tok)) (e1 e2 e4 e5 e6 e7 e8 : Nat) (X1 Y1 X2 Y2 : Wd) (P1 P2 : PR) (g1 r1 m1 : Wd) (D1 D2 D3 D4 : DP) (tk : Option (Int × Tok)) (hiv : iv.length < 99999) :
    MainOk w p5 p6 T { V with m := 3, tk := tk } J iv 4 3 (lawF w.params F { V with m := 3, tk := tk }) ⟨e1, e2, e4, e5, e6, e7, e8⟩ [D1, D2, D3, D4] [g1] [r1] [m1] [X1, X2] [P1, P2] [Y1, Y2] := by
  exact segK_run (E := E2 w) den_eq 100000 (fun N K p => .dat 61 (hx [0xc183060102000172e5cb970200080142c50b162c58b17a]) [11, 23] (fSl [listO (intsV iv) 0, sliceO 4 (K + 0) (K + 10) (K + 11)]) (sl0, 0, 0, 0) fun d1 =>
    .dat 4 [] [24] (fSm [listO (intsV d1.1.1) 0]) (0, 0, 0, 0) fun d2 =>
    teleIf ((1 + d2.1).fmod 2 = 1)
    (.pur 49 (hx [0x80000409a2268880000489a2204001013]) (.int 1) <|
    .dat 308 (hx [0x8000000800000080408d1834681023468d1a040010000001, 0x100000010e00367001b3800000000810204080810a10000, 0x880e00000001c000001c000001c0860a1831c0c183060a00204, 0x7000000700000073a00e1d0070e80387400000001020408101, 0x800244811220810204080812244891021c307001ce9d101c000, 0x4000004]) [] (fRg (tOf (1 + d2.1)) (d2.2.2.2 + 24)) (0, 0, 0, 0, 0) fun d3 =>
    .dat 16 (hx [0x1f000009f3e7cf9f3ea]) [30] (fNew (riO 0 (tOf (1 + d2.1))) [rangeO (tOf (1 + d2.1)) d3.2.1 (d2.2.2.2 + 24) d3.2.2.1]) (0, 0, 0) fun d4 =>
    .fin 2 [32])
    (.pur 49 (hx [0x80000409a2268880000489a2204001013]) (.int 0) <|
    .ent 227 (hx [0x2011c3870e2040810200408d1834681023468d1a040010000001, 0x100000010e0036700000000284000000008000000800000, 0x2860c183060c18280081000000100000010e060c183060a00204, 0x380000000700000070000007023c78f1e40810204008e1a38706, 0xe1d0000000108]) (popC (d2.2.2.1 + 3)) (popAlt (d2.2.2.1 + 3)) (popSub (d2.2.2.1 + 3)) <|
    .ent 33 (hx [0x1d3c0000000203800000007000000700000073b7]) (pcC (d2.2.2.1 + 4)) (pcAlt (d2.2.2.1 + 4)) (pcSub (d2.2.2.1 + 4)) <|
    .dat 220 (hx [0xf9f3e7cf9e3e78f9e3e00387007cf9f0000f0000000000204080, 0x70e010a1420001d0000000000408100000010e810000e0001f, 0x50a0e183870000387001d122001c00042850a142850214085021, 0x2000122248911204489122448910248912240478e1e3c50a15d]) [] (fRg (tOf (1 + d2.1)) (d2.2.2.2 + 25)) (0, 0, 0, 0, 0) fun d3 =>
    .dat 16 (hx [0x2300000a3468d1a346a]) [34] (fNew (riO 0 (tOf (1 + d2.1))) [rangeO (tOf (1 + d2.1)) d3.2.1 (d2.2.2.2 + 25) d3.2.2.1]) (0, 0, 0) fun d4 =>
    .fin 2 [36])) fun N K p d1 d2 => teleIf_all (fun h d3 d4 => .mk' [(.builtin "int.__mod__" ⟨[.int (1 + d2.1) (d2.2.2.2 + 0), .int 2 (d2.2.2.2 + 3)], []⟩, .int 1)]
      [(none, .builtin "list.__getitem__" ⟨[.ref 209, .ref (N + 1)], []⟩, [(209, listO (intsV iv) 0), (N + 1, sliceO 4 (K + 0) (K + 10) (K + 11))]),
           (none, .builtin "sum" ⟨[.ref d1.2.1], []⟩, [(d1.2.1, listO (intsV d1.1.1) 0)]),
           (none, .builtin "range.__new__" ⟨[.type "range", .int (tOf (1 + d2.1)) (d2.2.2.2 + 24)], []⟩, []),
           (none, .builtin "range.__iter__" ⟨[.ref d3.1], []⟩, [(d3.1, rangeO (tOf (1 + d2.1)) d3.2.1 (d2.2.2.2 + 24) d3.2.2.1)])]
      (fCome w.params T { V with m := 3, tk := tk } J 4 iv [g1] [r1] [m1] [D1, D2, D3, D4] 3 [X1, X2] [P1, P2] [Y1, Y2] ⟨d4.1, 1 + d2.1, { V with m := 4, mt := d2.2.2.2 + 19, k := 4, kt := K + 0, x := 1 + d2.1, xt := d2.2.2.2 + 0, b := true, tk := tk }, F, d2.2.2.1 + 4, d2.2.2.1 + 1, d2.2.2.2 + 12, d2.2.2.2 + 8, d2.2.2.2 + 14, ⟨e1 + 1, e2 + 1, e4 + 1, e5, e6, e7 + 1, e8⟩, d4.2.1, d4.2.2⟩) (d4.2.1, 0) (d4.2.2, 0) [0, 31, 1, 2, 3, 4, 5, 6, 7, 8, 9, 29, 10, 11, 12, 13, 14, 15, 16, 17, 18, 19, 20, 21, 26] (by cases tk <;> kernel_rfl) (by cases tk <;> (intro tb kb; kernel_rfl)) (oneG (gives_odd h)) ⟨fun b => ctF_sl w b _ _ _ _ _ _ _ _ hiv, fun b => ctF_sm w b _ _, fun b => ctF_range w b _ _, fun b => ctF_ri w b _ _ _ _ _, trivial⟩ rfl (MLQ.come (by decide) _ rfl rfl))
    (fun h d3 d4 => .mk' [(.builtin "int.__mod__" ⟨[.int (1 + d2.1) (d2.2.2.2 + 0), .int 2 (d2.2.2.2 + 3)], []⟩, .int 0)]
      [(none, .builtin "list.__getitem__" ⟨[.ref 209, .ref (N + 1)], []⟩, [(209, listO (intsV iv) 0), (N + 1, sliceO 4 (K + 0) (K + 10) (K + 11))]),
           (none, .builtin "sum" ⟨[.ref d1.2.1], []⟩, [(d1.2.1, listO (intsV d1.1.1) 0)]),
           (none, .builtin "range.__new__" ⟨[.type "range", .int (tOf (1 + d2.1)) (d2.2.2.2 + 25)], []⟩, []),
           (none, .builtin "range.__iter__" ⟨[.ref d3.1], []⟩, [(d3.1, rangeO (tOf (1 + d2.1)) d3.2.1 (d2.2.2.2 + 25) d3.2.2.1)])]
      (fGo w.params T { V with m := 3, tk := tk } J 4 iv [g1] [r1] [m1] [D1, D2, D3, D4] X1 [X2] [P1] P2 [Y1] Y2 ⟨d4.1, 1 + d2.1, { V with m := 3, mt := V.mt, k := 4, kt := K + 0, x := 1 + d2.1, xt := d2.2.2.2 + 0, b := false, tk := tk }, F, 0, d2.2.2.1 + 1, 0, 0, 0, ⟨e1 + 1, e2 + 1, e4 + 1, e5 + 1, e6 + 1, e7 + 1, e8 + 1⟩, d4.2.1, d4.2.2⟩) (d4.2.1, 0) (d4.2.2, 0) [0, 35, 1, 2, 3, 4, 5, 6, 7, 8, 10, 11, 12, 13, 14, 15, 16, 17, 18, 19, 20, 21, 26] (by cases tk <;> kernel_rfl) (by cases tk <;> (intro tb kb; kernel_rfl)) (oneG (gives_even h)) ⟨fun b => ctF_sl w b _ _ _ _ _ _ _ _ hiv, fun b => ctF_sm w b _ _, fun b => ctF_range w b _ _, fun b => ctF_ri w b _ _ _ _ _, trivial⟩ rfl (MLQ.go X1 [X2] [P1] P2 [Y1] Y2 _ rfl rfl))
end Mine
end
noncomputable section
namespace Mine
open PySem PySem.W PySem.W.X

theorem ml_3_2 (w : WK) (p5 p6 : Pos) (T : LP) (F : FT) (V : FV) (J : NT) (iv : List (Int × Tok)) (e1 e2 e4 e5 e6 e7 e8 : Nat) (X1 Y1 : Wd) (P1 : PR) (g1 r1 m1 g2 r2 m2 : Wd) (D1 D2 D3 D4 D5 : DP) (tk : Option (Int × Tok)) (hiv : iv.length < 99999) :
    MainOk w p5 p6 T { V with m := 3, tk := tk } J iv 5 3 (lawF w.params F { V with m := 3, tk := tk }) ⟨e1, e2, e4, e5, e6, e7, e8⟩ [D1, D2, D3, D4, D5] [g1, g2] [r1, r2] [m1, m2] [X1] [P1] [Y1] := by
  exact segK_run (E := E2 w) den_eq 100000 (fun N K p => .dat 61 (hx [0xb162c58102000172e5cb970200080122848a142850a15a]) [10, 23] (fSl [listO (intsV iv) 0, sliceO 5 (K + 0) (K + 10) (K + 11)]) (sl0, 0, 0, 0) fun d1 =>
    .dat 4 [] [24] (fSm [listO (intsV d1.1.1) 0]) (0, 0, 0, 0) fun d2 =>
    teleIf ((2 + d2.1).fmod 2 = 1)
    (.pur 49 (hx [0x80000409a2068800000481a2004001013]) (.int 1) <|
    .dat 308 (hx [0x8000000800000080408c1630601023060c18040010000001, 0x100000010e00367001b3800000000810204080810a10000, 0x880e00000001c000001c000001c0860a1831c0c183060a00204, 0x7000000700000073a00e1d0070e80387400000001020408101, 0x800240790200810204080812040810021c307001ce9d101c000, 0x4000004]) [] (fRg (tOf (2 + d2.1)) (d2.2.2.2 + 24)) (0, 0, 0, 0, 0) fun d3 =>
    .dat 16 (hx [0x1f000009f3e7cf9f3ea]) [30] (fNew (riO 0 (tOf (2 + d2.1))) [rangeO (tOf (2 + d2.1)) d3.2.1 (d2.2.2.2 + 24) d3.2.2.1]) (0, 0, 0) fun d4 =>
    .fin 2 [32])
    (.pur 49 (hx [0x80000409a2068800000481a2004001013]) (.int 0) <|
    .ent 227 (hx [0x2011a3468d1e3c78f1e0408c1630601023060c18040010000001, 0x100000010e0036700000000284000000008000000800000, 0x2860c183060c18280081000000100000010e060c183060a00204, 0x380000000700000070000007023870e1c3c78f1e3c08d1834686, 0xe1d0000000108]) (popC (d2.2.2.1 + 3)) (popAlt (d2.2.2.1 + 3)) (popSub (d2.2.2.1 + 3)) <|
    .ent 33 (hx [0x1d3c0000000203800000007000000700000073b7]) (pcC (d2.2.2.1 + 4)) (pcAlt (d2.2.2.1 + 4)) (pcSub (d2.2.2.1 + 4)) <|
    .dat 220 (hx [0xf9f3e7cf9e3e78f9e3e00387007cf9f0000f0000000000204080, 0x70e010a1420001d0000000000408100000010e810000e0001f, 0x4890e183870000387001d122001c00042850a142850214085021, 0x20001120448901e4081020408100244891220470d1c3848913d]) [] (fRg (tOf (2 + d2.1)) (d2.2.2.2 + 25)) (0, 0, 0, 0, 0) fun d3 =>
    .dat 16 (hx [0x2300000a3468d1a346a]) [34] (fNew (riO 0 (tOf (2 + d2.1))) [rangeO (tOf (2 + d2.1)) d3.2.1 (d2.2.2.2 + 25) d3.2.2.1]) (0, 0, 0) fun d4 =>
    .fin 2 [36])) fun N K p d1 d2 => teleIf_all (fun h d3 d4 => .mk' [(.builtin "int.__mod__" ⟨[.int (2 + d2.1) (d2.2.2.2 + 0), .int 2 (d2.2.2.2 + 3)], []⟩, .int 1)]
      [(none, .builtin "list.__getitem__" ⟨[.ref 209, .ref (N + 1)], []⟩, [(209, listO (intsV iv) 0), (N + 1, sliceO 5 (K + 0) (K + 10) (K + 11))]),
           (none, .builtin "sum" ⟨[.ref d1.2.1], []⟩, [(d1.2.1, listO (intsV d1.1.1) 0)]),
           (none, .builtin "range.__new__" ⟨[.type "range", .int (tOf (2 + d2.1)) (d2.2.2.2 + 24)], []⟩, []),
           (none, .builtin "range.__iter__" ⟨[.ref d3.1], []⟩, [(d3.1, rangeO (tOf (2 + d2.1)) d3.2.1 (d2.2.2.2 + 24) d3.2.2.1)])]
      (fCome w.params T { V with m := 3, tk := tk } J 5 iv [g1, g2] [r1, r2] [m1, m2] [D1, D2, D3, D4, D5] 3 [X1] [P1] [Y1] ⟨d4.1, 2 + d2.1, { V with m := 4, mt := d2.2.2.2 + 19, k := 5, kt := K + 0, x := 2 + d2.1, xt := d2.2.2.2 + 0, b := true, tk := tk }, F, d2.2.2.1 + 4, d2.2.2.1 + 1, d2.2.2.2 + 12, d2.2.2.2 + 8, d2.2.2.2 + 14, ⟨e1 + 1, e2 + 1, e4 + 1, e5, e6, e7 + 1, e8⟩, d4.2.1, d4.2.2⟩) (d4.2.1, 0) (d4.2.2, 0) [0, 31, 1, 2, 3, 4, 5, 6, 7, 8, 29, 9, 10, 11, 12, 13, 14, 15, 16, 17, 18, 19, 20, 21, 26] (by cases tk <;> kernel_rfl) (by cases tk <;> (intro tb kb; kernel_rfl)) (oneG (gives_odd h)) ⟨fun b => ctF_sl w b _ _ _ _ _ _ _ _ hiv, fun b => ctF_sm w b _ _, fun b => ctF_range w b _ _, fun b => ctF_ri w b _ _ _ _ _, trivial⟩ rfl (MLQ.come (by decide) _ rfl rfl))
    (fun h d3 d4 => .mk' [(.builtin "int.__mod__" ⟨[.int (2 + d2.1) (d2.2.2.2 + 0), .int 2 (d2.2.2.2 + 3)], []⟩, .int 0)]
      [(none, .builtin "list.__getitem__" ⟨[.ref 209, .ref (N + 1)], []⟩, [(209, listO (intsV iv) 0), (N + 1, sliceO 5 (K + 0) (K + 10) (K + 11))]),
           (none, .builtin "sum" ⟨[.ref d1.2.1], []⟩, [(d1.2.1, listO (intsV d1.1.1) 0)]),
           (none, .builtin "range.__new__" ⟨[.type "range", .int (tOf (2 + d2.1)) (d2.2.2.2 + 25)], []⟩, []),
           (none, .builtin "range.__iter__" ⟨[.ref d3.1], []⟩, [(d3.1, rangeO (tOf (2 + d2.1)) d3.2.1 (d2.2.2.2 + 25) d3.2.2.1)])]
      (fGo w.params T { V with m := 3, tk := tk } J 5 iv [g1, g2] [r1, r2] [m1, m2] [D1, D2, D3, D4, D5] X1 [] [] P1 [] Y1 ⟨d4.1, 2 + d2.1, { V with m := 3, mt := V.mt, k := 5, kt := K + 0, x := 2 + d2.1, xt := d2.2.2.2 + 0, b := false, tk := tk }, F, 0, d2.2.2.1 + 1, 0, 0, 0, ⟨e1 + 1, e2 + 1, e4 + 1, e5 + 1, e6 + 1, e7 + 1, e8 + 1⟩, d4.2.1, d4.2.2⟩) (d4.2.1, 0) (d4.2.2, 0) [0, 35, 1, 2, 3, 4, 5, 6, 7, 9, 10, 11, 12, 13, 14, 15, 16, 17, 18, 19, 20, 21, 26] (by cases tk <;> kernel_rfl) (by cases tk <;> (intro tb kb; kernel_rfl)) (oneG (gives_even h)) ⟨fun b => ctF_sl w b _ _ _ _ _ _ _ _ hiv, fun b => ctF_sm w b _ _, fun b => ctF_range w b _ _, fun b => ctF_ri w b _ _ _ _ _, trivial⟩ rfl (MLQ.go X1 [] [] P1 [] Y1 _ rfl rfl))
end Mine
end
noncomputable section
namespace Mine
open PySem PySem.W PySem.W.X

theorem ml_3_3 (w : WK) (p5 p6 : Pos) (T : LP) (F : FT) (V : FV) (J : NT) (iv : List (Int × Tok)) (e1 e2 e4 e5 e6 e7 e8 : Nat) (g1 r1 m1 g2 r2 m2 g3 r3 m3 : Wd) (D1 D2 D3 D4 D5 D6 : DP) (tk : Option (Int × Tok)) (hiv : iv.length < 99999) :
    MainOk w p5 p6 T { V with m := 3, tk := tk } J iv 6 3 (lawF w.params F { V with m := 3, tk := tk }) ⟨e1, e2, e4, e5, e6, e7, e8⟩ [D1, D2, D3, D4, D5, D6] [g1, g2, g3] [r1, r2, r3] [m1, m2, m3] [] [] [] := by
  exact segK_run (E := E2 w) den_eq 100000 (fun N K p => .dat 61 (hx [0xa142850102000172e5cb9702000801024409122448913a]) [9, 23] (fSl [listO (intsV iv) 0, sliceO 6 (K + 0) (K + 10) (K + 11)]) (sl0, 0, 0, 0) fun d1 =>
    .dat 4 [] [24] (fSm [listO (intsV d1.1.1) 0]) (0, 0, 0, 0) fun d2 =>
    .dat 339 (hx [0x58b020458b162c0800200d0f343cd0f343c000023cd0f0200080, 0x10204081010214200000000400000040000004020458a, 0x3810c1430638183060c1400408000000800000087001b3800d9c, 0xe1d0070e8000000020408102020440700000000e000000e00000, 0x78f1e043860e0039d3a2038000003800000380000039d0070e80, 0x800000080023c70f1e0810204080811f3]) [] (fRg (tOf (4 + d2.1)) (d2.2.2.2 + 20)) (0, 0, 0, 0, 0) fun d3 =>
    .dat 16 (hx [0x1f000009f3e7cf9f3ea]) [30] (fNew (riO 0 (tOf (4 + d2.1))) [rangeO (tOf (4 + d2.1)) d3.2.1 (d2.2.2.2 + 20) d3.2.2.1]) (0, 0, 0) fun d4 =>
    .fin 2 [32]) fun N K p d1 d2 d3 d4 => .mk' []
      [(none, .builtin "list.__getitem__" ⟨[.ref 209, .ref (N + 1)], []⟩, [(209, listO (intsV iv) 0), (N + 1, sliceO 6 (K + 0) (K + 10) (K + 11))]),
       (none, .builtin "sum" ⟨[.ref d1.2.1], []⟩, [(d1.2.1, listO (intsV d1.1.1) 0)]),
       (none, .builtin "range.__new__" ⟨[.type "range", .int (tOf (4 + d2.1)) (d2.2.2.2 + 20)], []⟩, []),
       (none, .builtin "range.__iter__" ⟨[.ref d3.1], []⟩, [(d3.1, rangeO (tOf (4 + d2.1)) d3.2.1 (d2.2.2.2 + 20) d3.2.2.1)])]
      (fCome w.params T { V with m := 3, tk := tk } J 6 iv [g1, g2, g3] [r1, r2, r3] [m1, m2, m3] [D1, D2, D3, D4, D5, D6] 3 [] [] [] ⟨d4.1, 4 + d2.1, { V with m := 4, mt := d2.2.2.2 + 15, k := 6, kt := K + 0, x := 4 + d2.1, xt := d2.2.2.2 + 0, b := true, tk := tk }, F, d2.2.2.1 + 4, d2.2.2.1 + 1, d2.2.2.2 + 8, d2.2.2.2 + 4, d2.2.2.2 + 10, ⟨e1 + 1, e2 + 1, e4 + 1, e5, e6, e7 + 1, e8⟩, d4.2.1, d4.2.2⟩) (d4.2.1, 0) (d4.2.2, 0) [0, 31, 1, 2, 3, 4, 5, 6, 7, 29, 8, 9, 10, 11, 12, 13, 14, 15, 16, 17, 18, 19, 20, 21, 26] (by cases tk <;> kernel_rfl) (by cases tk <;> (intro tb kb; kernel_rfl)) noG ⟨fun b => ctF_sl w b _ _ _ _ _ _ _ _ hiv, fun b => ctF_sm w b _ _, fun b => ctF_range w b _ _, fun b => ctF_ri w b _ _ _ _ _, trivial⟩ rfl (MLQ.come (by decide) _ rfl rfl)
end Mine
end
noncomputable section
namespace Mine
open PySem PySem.W PySem.W.X

theorem ml_4_0 (w : WK) (p5 p6 : Pos) (T : LP) (F : FT) (V : FV) (J : NT) (iv : List (Int × Tok)) (e1 e2 e4 e5 e6 e7 e8 : Nat) (X1 Y1 X2 Y2 X3 Y3 X4 Y4 : Wd) (P1 P2 P3 P4 : PR) (D1 D2 D3 D4 : DP) (tk : Option (Int × Tok)) (hiv : iv.length < 99999) :
    MainOk w p5 p6 T { V with m := 4, tk := tk } J iv 4 4 (lawF w.params F { V with m := 4, tk := tk }) ⟨e1, e2, e4, e5, e6, e7, e8⟩ [D1, D2, D3, D4] [] [] [] [X1, X2, X3, X4] [P1, P2, P3, P4] [Y1, Y2, Y3, Y4] := by
  exact segK_run (E := E2 w) den_eq 100000 (fun N K p => .dat 61 (hx [0xe1c3870102000193264c990200080183460d1a3468d1ba]) [13, 25] (fSl [listO (intsV iv) 0, sliceO 4 (K + 0) (K + 10) (K + 11)]) (sl0, 0, 0, 0) fun d1 =>
    .dat 4 [] [26] (fSm [listO (intsV d1.1.1) 0]) (0, 0, 0, 0) fun d2 =>
    .ent 263 (hx [0x78f020478f1e3c08002000000204e13384c000024ce130200080, 0x5080000000100000010000001009020408122448912020478e, 0x200000021e0c183060c1400408000000800000087801d3c00000, 0x89122449122448901203c8100c143060c183060c140040800000, 0x1e3e000000020380000000700000070000007037]) (popC (d2.2.2.1 + 3)) (popAlt (d2.2.2.1 + 3)) (popSub (d2.2.2.1 + 3)) <|
    .ent 33 (hx [0x1f400000000203800000007000000700000073f7]) (pcC (d2.2.2.1 + 4)) (pcAlt (d2.2.2.1 + 4)) (pcSub (d2.2.2.1 + 4)) <|
    .dat 220 (hx [0x10a142850a042810a0420038700850a1000100000000000204080, 0x70e011a3460001f0000000000408100000010e891000e00021, 0x60c0e183870000387001d224001c000468d1a3468d123448d123, 0x2000142650a13244c993264c9930250a142804890224460c19d]) [] (fRg (tOf (1 + d2.1)) (d2.2.2.2 + 22)) (0, 0, 0, 0, 0) fun d3 =>
    .dat 16 (hx [0x2500000a54a952a54aa]) [36] (fNew (riO 0 (tOf (1 + d2.1))) [rangeO (tOf (1 + d2.1)) d3.2.1 (d2.2.2.2 + 22) d3.2.2.1]) (0, 0, 0) fun d4 =>
    .fin 2 [38]) fun N K p d1 d2 d3 d4 => .mk' []
      [(none, .builtin "list.__getitem__" ⟨[.ref 209, .ref (N + 1)], []⟩, [(209, listO (intsV iv) 0), (N + 1, sliceO 4 (K + 0) (K + 10) (K + 11))]),
       (none, .builtin "sum" ⟨[.ref d1.2.1], []⟩, [(d1.2.1, listO (intsV d1.1.1) 0)]),
       (none, .builtin "range.__new__" ⟨[.type "range", .int (tOf (1 + d2.1)) (d2.2.2.2 + 22)], []⟩, []),
       (none, .builtin "range.__iter__" ⟨[.ref d3.1], []⟩, [(d3.1, rangeO (tOf (1 + d2.1)) d3.2.1 (d2.2.2.2 + 22) d3.2.2.1)])]
      (fGo w.params T { V with m := 4, tk := tk } J 4 iv [] [] [] [D1, D2, D3, D4] X1 [X2, X3, X4] [P1, P2, P3] P4 [Y1, Y2, Y3] Y4 ⟨d4.1, 1 + d2.1, { V with m := 4, mt := V.mt, k := 4, kt := K + 0, x := 1 + d2.1, xt := d2.2.2.2 + 0, b := false, tk := tk }, F, 0, d2.2.2.1 + 1, 0, 0, 0, ⟨e1 + 1, e2 + 1, e4 + 1, e5 + 1, e6 + 1, e7 + 1, e8 + 1⟩, d4.2.1, d4.2.2⟩) (d4.2.1, 0) (d4.2.2, 0) [0, 37, 1, 2, 3, 4, 5, 6, 7, 8, 9, 10, 12, 13, 14, 15, 16, 17, 18, 19, 20, 21, 22, 23, 28] (by cases tk <;> kernel_rfl) (by cases tk <;> (intro tb kb; kernel_rfl)) noG ⟨fun b => ctF_sl w b _ _ _ _ _ _ _ _ hiv, fun b => ctF_sm w b _ _, fun b => ctF_range w b _ _, fun b => ctF_ri w b _ _ _ _ _, trivial⟩ rfl (MLQ.go X1 [X2, X3, X4] [P1, P2, P3] P4 [Y1, Y2, Y3] Y4 _ rfl rfl)
end Mine
end
noncomputable section
namespace Mine
open PySem PySem.W PySem.W.X

theorem ml_4_1 (w : WK) (p5 p6 : Pos) (T : LP) (F : FT) (V : FV) (J : NT) (iv : List (Int × Tok)) (e1 e2 e4 e5 e6 e7 e8 : Nat) (X1 Y1 X2 Y2 X3 Y3 : Wd) (P1 P2 P3 : PR) (g1 r1 m1 : Wd) (D1 D2 D3 D4 D5 : DP) (tk : Option (Int × Tok)) (hiv : iv.length < 99999) :
    MainOk w p5 p6 T { V with m := 4, tk := tk } J iv 5 4 (lawF w.params F { V with m := 4, tk := tk }) ⟨e1, e2, e4, e5, e6, e7, e8⟩ [D1, D2, D3, D4, D5] [g1] [r1] [m1] [X1, X2, X3] [P1, P2, P3] [Y1, Y2, Y3] := by
  exact segK_run (E := E2 w) den_eq 100000 (fun N K p => .dat 61 (hx [0xd1a3468102000193264c990200080163058c183060c19a]) [12, 25] (fSl [listO (intsV iv) 0, sliceO 5 (K + 0) (K + 10) (K + 11)]) (sl0, 0, 0, 0) fun d1 =>
    .dat 4 [] [26] (fSm [listO (intsV d1.1.1) 0]) (0, 0, 0, 0) fun d2 =>
    .ent 263 (hx [0x70e020470e1c3808002000000204e1238480000248e120200080, 0x5080000000100000010000001008f1e3c7912244891020470d, 0x200000021e0c183060c1400408000000800000087801d3c00000, 0x810204089122448811e3878f0c143060c183060c140040800000, 0x1e3e000000020380000000700000070000007037]) (popC (d2.2.2.1 + 3)) (popAlt (d2.2.2.1 + 3)) (popSub (d2.2.2.1 + 3)) <|
    .ent 33 (hx [0x1f400000000203800000007000000700000073f7]) (pcC (d2.2.2.1 + 4)) (pcAlt (d2.2.2.1 + 4)) (pcSub (d2.2.2.1 + 4)) <|
    .dat 220 (hx [0x10a142850a042810a0420038700850a1000100000000000204080, 0x70e011a3460001f0000000000408100000010e891000e00021, 0x58b0e183870000387001d224001c000468d1a3468d123448d123, 0x200013244c99222489122448912024c993260480f204058b17d]) [] (fRg (tOf (2 + d2.1)) (d2.2.2.2 + 22)) (0, 0, 0, 0, 0) fun d3 =>
    .dat 16 (hx [0x2500000a54a952a54aa]) [36] (fNew (riO 0 (tOf (2 + d2.1))) [rangeO (tOf (2 + d2.1)) d3.2.1 (d2.2.2.2 + 22) d3.2.2.1]) (0, 0, 0) fun d4 =>
    .fin 2 [38]) fun N K p d1 d2 d3 d4 => .mk' []
      [(none, .builtin "list.__getitem__" ⟨[.ref 209, .ref (N + 1)], []⟩, [(209, listO (intsV iv) 0), (N + 1, sliceO 5 (K + 0) (K + 10) (K + 11))]),
       (none, .builtin "sum" ⟨[.ref d1.2.1], []⟩, [(d1.2.1, listO (intsV d1.1.1) 0)]),
       (none, .builtin "range.__new__" ⟨[.type "range", .int (tOf (2 + d2.1)) (d2.2.2.2 + 22)], []⟩, []),
       (none, .builtin "range.__iter__" ⟨[.ref d3.1], []⟩, [(d3.1, rangeO (tOf (2 + d2.1)) d3.2.1 (d2.2.2.2 + 22) d3.2.2.1)])]
      (fGo w.params T { V with m := 4, tk := tk } J 5 iv [g1] [r1] [m1] [D1, D2, D3, D4, D5] X1 [X2, X3] [P1, P2] P3 [Y1, Y2] Y3 ⟨d4.1, 2 + d2.1, { V with m := 4, mt := V.mt, k := 5, kt := K + 0, x := 2 + d2.1, xt := d2.2.2.2 + 0, b := false, tk := tk }, F, 0, d2.2.2.1 + 1, 0, 0, 0, ⟨e1 + 1, e2 + 1, e4 + 1, e5 + 1, e6 + 1, e7 + 1, e8 + 1⟩, d4.2.1, d4.2.2⟩) (d4.2.1, 0) (d4.2.2, 0) [0, 37, 1, 2, 3, 4, 5, 6, 7, 8, 9, 11, 12, 13, 14, 15, 16, 17, 18, 19, 20, 21, 22, 23, 28] (by cases tk <;> kernel_rfl) (by cases tk <;> (intro tb kb; kernel_rfl)) noG ⟨fun b => ctF_sl w b _ _ _ _ _ _ _ _ hiv, fun b => ctF_sm w b _ _, fun b => ctF_range w b _ _, fun b => ctF_ri w b _ _ _ _ _, trivial⟩ rfl (MLQ.go X1 [X2, X3] [P1, P2] P3 [Y1, Y2] Y3 _ rfl rfl)
end Mine
end
noncomputable section
namespace Mine
open PySem PySem.W PySem.W.X

theorem ml_4_2 (w : WK) (p5 p6 : Pos) (T : LP) (F : FT) (V : FV) (J : NT) (iv : List (Int × Tok)) (e1 e2 e4 e5 e6 e7 e8 : Nat) (X1 Y1 X2 Y2 : Wd) (P1 P2 : PR) (g1 r1 m1 g2 r2 m2 : Wd) (D1 D2 D3 D4 D5 D6 : DP) (tk : Option (Int × Tok)) (hiv : iv.length < 99999) :
    MainOk w p5 p6 T { V with m := 4, tk := tk } J iv 6 4 (lawF w.params F { V with m := 4, tk := tk }) ⟨e1, e2, e4, e5, e6, e7, e8⟩ [D1, D2, D3, D4, D5, D6] [g1, g2] [r1, r2] [m1, m2] [X1, X2] [P1, P2] [Y1, Y2] := by
  exact segK_run (E := E2 w) den_eq 100000 (fun N K p => .dat 61 (hx [0xc183060102000193264c990200080142c50b162c58b17a]) [11, 25] (fSl [listO (intsV iv) 0, sliceO 6 (K + 0) (K + 10) (K + 11)]) (sl0, 0, 0, 0) fun d1 =>
    .dat 4 [] [26] (fSm [listO (intsV d1.1.1) 0]) (0, 0, 0, 0) fun d2 =>
    .ent 263 (hx [0x68d020468d1a3408002000000204e1138440000244e110200080, 0x5080000000100000010000001008e1c387102040810020468c, 0x200000021e0c183060c1400408000000800000087801d3c00000, 0x78f1e3c81020408011c3470e0c143060c183060c140040800000, 0x1e3e000000020380000000700000070000007037]) (popC (d2.2.2.1 + 3)) (popAlt (d2.2.2.1 + 3)) (popSub (d2.2.2.1 + 3)) <|
    .ent 33 (hx [0x1f400000000203800000007000000700000073f7]) (pcC (d2.2.2.1 + 4)) (pcAlt (d2.2.2.1 + 4)) (pcSub (d2.2.2.1 + 4)) <|
    .dat 220 (hx [0x10a142850a042810a0420038700850a1000100000000000204080, 0x70e011a3460001f0000000000408100000010e891000e00021, 0x50a0e183870000387001d224001c000468d1a3468d123448d123, 0x2000122248911204489122448910248912240478e1e3c50a15d]) [] (fRg (tOf (4 + d2.1)) (d2.2.2.2 + 22)) (0, 0, 0, 0, 0) fun d3 =>
    .dat 16 (hx [0x2500000a54a952a54aa]) [36] (fNew (riO 0 (tOf (4 + d2.1))) [rangeO (tOf (4 + d2.1)) d3.2.1 (d2.2.2.2 + 22) d3.2.2.1]) (0, 0, 0) fun d4 =>
    .fin 2 [38]) fun N K p d1 d2 d3 d4 => .mk' []
      [(none, .builtin "list.__getitem__" ⟨[.ref 209, .ref (N + 1)], []⟩, [(209, listO (intsV iv) 0), (N + 1, sliceO 6 (K + 0) (K + 10) (K + 11))]),
       (none, .builtin "sum" ⟨[.ref d1.2.1], []⟩, [(d1.2.1, listO (intsV d1.1.1) 0)]),
       (none, .builtin "range.__new__" ⟨[.type "range", .int (tOf (4 + d2.1)) (d2.2.2.2 + 22)], []⟩, []),
       (none, .builtin "range.__iter__" ⟨[.ref d3.1], []⟩, [(d3.1, rangeO (tOf (4 + d2.1)) d3.2.1 (d2.2.2.2 + 22) d3.2.2.1)])]
      (fGo w.params T { V with m := 4, tk := tk } J 6 iv [g1, g2] [r1, r2] [m1, m2] [D1, D2, D3, D4, D5, D6] X1 [X2] [P1] P2 [Y1] Y2 ⟨d4.1, 4 + d2.1, { V with m := 4, mt := V.mt, k := 6, kt := K + 0, x := 4 + d2.1, xt := d2.2.2.2 + 0, b := false, tk := tk }, F, 0, d2.2.2.1 + 1, 0, 0, 0, ⟨e1 + 1, e2 + 1, e4 + 1, e5 + 1, e6 + 1, e7 + 1, e8 + 1⟩, d4.2.1, d4.2.2⟩) (d4.2.1, 0) (d4.2.2, 0) [0, 37, 1, 2, 3, 4, 5, 6, 7, 8, 10, 11, 12, 13, 14, 15, 16, 17, 18, 19, 20, 21, 22, 23, 28] (by cases tk <;> kernel_rfl) (by cases tk <;> (intro tb kb; kernel_rfl)) noG ⟨fun b => ctF_sl w b _ _ _ _ _ _ _ _ hiv, fun b => ctF_sm w b _ _, fun b => ctF_range w b _ _, fun b => ctF_ri w b _ _ _ _ _, trivial⟩ rfl (MLQ.go X1 [X2] [P1] P2 [Y1] Y2 _ rfl rfl)
end Mine
end
noncomputable section
namespace Mine
open PySem PySem.W PySem.W.X

theorem ml_4_3 (w : WK) (p5 p6 : Pos) (T : LP) (F : FT) (V : FV) (J : NT) (iv : List (Int × Tok)) (e1 e2 e4 e5 e6 e7 e8 : Nat) (X1 Y1 : Wd) (P1 : PR) (g1 r1 m1 g2 r2 m2 g3 r3 m3 : Wd) (D1 D2 D3 D4 D5 D6 D7 : DP) (tk : Option (Int × Tok)) (hiv : iv.length < 99999) :
    MainOk w p5 p6 T { V with m := 4, tk := tk } J iv 7 4 (lawF w.params F { V with m := 4, tk := tk }) ⟨e1, e2, e4, e5, e6, e7, e8⟩ [D1, D2, D3, D4, D5, D6, D7] [g1, g2, g3] [r1, r2, r3] [m1, m2, m3] [X1] [P1] [Y1] := by
  exact segK_run (E := E2 w) den_eq 100000 (fun N K p => .dat 61 (hx [0xb162c58102000193264c990200080122848a142850a15a]) [10, 25] (fSl [listO (intsV iv) 0, sliceO 7 (K + 0) (K + 10) (K + 11)]) (sl0, 0, 0, 0) fun d1 =>
    .dat 4 [] [26] (fSm [listO (intsV d1.1.1) 0]) (0, 0, 0, 0) fun d2 =>
    .ent 263 (hx [0x60c020460c183008002000000204e1038400000240e100200080, 0x5080000000100000010000001008d1a3468f1e3c78f020460b, 0x200000021e0c183060c1400408000000800000087801d3c00000, 0x70e1c3878f1e3c7811a3068d0c143060c183060c140040800000, 0x1e3e000000020380000000700000070000007037]) (popC (d2.2.2.1 + 3)) (popAlt (d2.2.2.1 + 3)) (popSub (d2.2.2.1 + 3)) <|
    .ent 33 (hx [0x1f400000000203800000007000000700000073f7]) (pcC (d2.2.2.1 + 4)) (pcAlt (d2.2.2.1 + 4)) (pcSub (d2.2.2.1 + 4)) <|
    .dat 220 (hx [0x10a142850a042810a0420038700850a1000100000000000204080, 0x70e011a3460001f0000000000408100000010e891000e00021, 0x4890e183870000387001d224001c000468d1a3468d123448d123, 0x20001120448901e4081020408100244891220470d1c3848913d]) [] (fRg (tOf (0 + d2.1)) (d2.2.2.2 + 22)) (0, 0, 0, 0, 0) fun d3 =>
    .dat 16 (hx [0x2500000a54a952a54aa]) [36] (fNew (riO 0 (tOf (0 + d2.1))) [rangeO (tOf (0 + d2.1)) d3.2.1 (d2.2.2.2 + 22) d3.2.2.1]) (0, 0, 0) fun d4 =>
    .fin 2 [38]) fun N K p d1 d2 d3 d4 => .mk' []
      [(none, .builtin "list.__getitem__" ⟨[.ref 209, .ref (N + 1)], []⟩, [(209, listO (intsV iv) 0), (N + 1, sliceO 7 (K + 0) (K + 10) (K + 11))]),
       (none, .builtin "sum" ⟨[.ref d1.2.1], []⟩, [(d1.2.1, listO (intsV d1.1.1) 0)]),
       (none, .builtin "range.__new__" ⟨[.type "range", .int (tOf (0 + d2.1)) (d2.2.2.2 + 22)], []⟩, []),
       (none, .builtin "range.__iter__" ⟨[.ref d3.1], []⟩, [(d3.1, rangeO (tOf (0 + d2.1)) d3.2.1 (d2.2.2.2 + 22) d3.2.2.1)])]
      (fGo w.params T { V with m := 4, tk := tk } J 7 iv [g1, g2, g3] [r1, r2, r3] [m1, m2, m3] [D1, D2, D3, D4, D5, D6, D7] X1 [] [] P1 [] Y1 ⟨d4.1, 0 + d2.1, { V with m := 4, mt := V.mt, k := 7, kt := K + 0, x := 0 + d2.1, xt := d2.2.2.2 + 0, b := false, tk := tk }, F, 0, d2.2.2.1 + 1, 0, 0, 0, ⟨e1 + 1, e2 + 1, e4 + 1, e5 + 1, e6 + 1, e7 + 1, e8 + 1⟩, d4.2.1, d4.2.2⟩) (d4.2.1, 0) (d4.2.2, 0) [0, 37, 1, 2, 3, 4, 5, 6, 7, 9, 10, 11, 12, 13, 14, 15, 16, 17, 18, 19, 20, 21, 22, 23, 28] (by cases tk <;> kernel_rfl) (by cases tk <;> (intro tb kb; kernel_rfl)) noG ⟨fun b => ctF_sl w b _ _ _ _ _ _ _ _ hiv, fun b => ctF_sm w b _ _, fun b => ctF_range w b _ _, fun b => ctF_ri w b _ _ _ _ _, trivial⟩ rfl (MLQ.go X1 [] [] P1 [] Y1 _ rfl rfl)
end Mine
end
noncomputable section
namespace Mine
open PySem PySem.W PySem.W.X

theorem tri0 {α β γ : Type} {Q : List α → List β → List γ → Prop} (h : Q [] [] []) (l : List α) (m : List β) (k : List γ) (hl : l.length = 0) (hm : m.length = 0) (hk : k.length = 0) : Q l m k := by
  obtain rfl := List.length_eq_zero_iff.mp hl
  obtain rfl := List.length_eq_zero_iff.mp hm
  obtain rfl := List.length_eq_zero_iff.mp hk
  exact h
theorem triS {α β γ : Type} {n : Nat} {Q : List α → List β → List γ → Prop} (h : ∀ x y z (l : List α) (m : List β) (k : List γ), l.length = n → m.length = n → k.length = n → Q (x :: l) (y :: m) (z :: k)) (l : List α) (m : List β) (k : List γ) (hl : l.length = n + 1) (hm : m.length = n + 1) (hk : k.length = n + 1) : Q l m k := by
  obtain ⟨x, l, rfl⟩ := List.exists_cons_of_length_eq_add_one hl
  obtain ⟨y, m, rfl⟩ := List.exists_cons_of_length_eq_add_one hm
  obtain ⟨z, k, rfl⟩ := List.exists_cons_of_length_eq_add_one hk
  exact h x y z l m k (Nat.succ.inj hl) (Nat.succ.inj hm) (Nat.succ.inj hk)
theorem tri1 {α β γ : Type} {Q : List α → List β → List γ → Prop} (h : ∀ x1 y1 z1, Q [x1] [y1] [z1]) (l : List α) (m : List β) (k : List γ) (hl : l.length = 1) (hm : m.length = 1) (hk : k.length = 1) : Q l m k :=
  triS (fun x1 y1 z1 l m k hl hm hk => tri0 (Q := fun l m k => Q (x1 :: l) (y1 :: m) (z1 :: k)) (h x1 y1 z1) l m k hl hm hk) l m k hl hm hk
theorem tri2 {α β γ : Type} {Q : List α → List β → List γ → Prop} (h : ∀ x1 y1 z1 x2 y2 z2, Q [x1, x2] [y1, y2] [z1, z2]) (l : List α) (m : List β) (k : List γ) (hl : l.length = 2) (hm : m.length = 2) (hk : k.length = 2) : Q l m k :=
  triS (fun x1 y1 z1 l m k hl hm hk => tri1 (Q := fun l m k => Q (x1 :: l) (y1 :: m) (z1 :: k)) (fun x2 y2 z2 => h x1 y1 z1 x2 y2 z2) l m k hl hm hk) l m k hl hm hk
theorem tri3 {α β γ : Type} {Q : List α → List β → List γ → Prop} (h : ∀ x1 y1 z1 x2 y2 z2 x3 y3 z3, Q [x1, x2, x3] [y1, y2, y3] [z1, z2, z3]) (l : List α) (m : List β) (k : List γ) (hl : l.length = 3) (hm : m.length = 3) (hk : k.length = 3) : Q l m k :=
  triS (fun x1 y1 z1 l m k hl hm hk => tri2 (Q := fun l m k => Q (x1 :: l) (y1 :: m) (z1 :: k)) (fun x2 y2 z2 x3 y3 z3 => h x1 y1 z1 x2 y2 z2 x3 y3 z3) l m k hl hm hk) l m k hl hm hk
theorem tri4 {α β γ : Type} {Q : List α → List β → List γ → Prop} (h : ∀ x1 y1 z1 x2 y2 z2 x3 y3 z3 x4 y4 z4, Q [x1, x2, x3, x4] [y1, y2, y3, y4] [z1, z2, z3, z4]) (l : List α) (m : List β) (k : List γ) (hl : l.length = 4) (hm : m.length = 4) (hk : k.length = 4) : Q l m k :=
  triS (fun x1 y1 z1 l m k hl hm hk => tri3 (Q := fun l m k => Q (x1 :: l) (y1 :: m) (z1 :: k)) (fun x2 y2 z2 x3 y3 z3 x4 y4 z4 => h x1 y1 z1 x2 y2 z2 x3 y3 z3 x4 y4 z4) l m k hl hm hk) l m k hl hm hk
theorem ls0 {α : Type} {Q : List α → Prop} (h : Q []) (l : List α) (hl : l.length = 0) : Q l := byW0 h l hl
theorem ls1 {α : Type} {Q : List α → Prop} (h : ∀ x1, Q [x1]) (l : List α) (hl : l.length = 1) : Q l :=
  byW (P := Q) (fun x1 l hl => ls0 (Q := fun l => Q (x1 :: l)) (h x1) l hl) l hl
theorem ls2 {α : Type} {Q : List α → Prop} (h : ∀ x1 x2, Q [x1, x2]) (l : List α) (hl : l.length = 2) : Q l :=
  byW (P := Q) (fun x1 l hl => ls1 (Q := fun l => Q (x1 :: l)) (fun x2 => h x1 x2) l hl) l hl
theorem ls3 {α : Type} {Q : List α → Prop} (h : ∀ x1 x2 x3, Q [x1, x2, x3]) (l : List α) (hl : l.length = 3) : Q l :=
  byW (P := Q) (fun x1 l hl => ls2 (Q := fun l => Q (x1 :: l)) (fun x2 x3 => h x1 x2 x3) l hl) l hl
theorem ls4 {α : Type} {Q : List α → Prop} (h : ∀ x1 x2 x3 x4, Q [x1, x2, x3, x4]) (l : List α) (hl : l.length = 4) : Q l :=
  byW (P := Q) (fun x1 l hl => ls3 (Q := fun l => Q (x1 :: l)) (fun x2 x3 x4 => h x1 x2 x3 x4) l hl) l hl
theorem ls5 {α : Type} {Q : List α → Prop} (h : ∀ x1 x2 x3 x4 x5, Q [x1, x2, x3, x4, x5]) (l : List α) (hl : l.length = 5) : Q l :=
  byW (P := Q) (fun x1 l hl => ls4 (Q := fun l => Q (x1 :: l)) (fun x2 x3 x4 x5 => h x1 x2 x3 x4 x5) l hl) l hl
theorem ls6 {α : Type} {Q : List α → Prop} (h : ∀ x1 x2 x3 x4 x5 x6, Q [x1, x2, x3, x4, x5, x6]) (l : List α) (hl : l.length = 6) : Q l :=
  byW (P := Q) (fun x1 l hl => ls5 (Q := fun l => Q (x1 :: l)) (fun x2 x3 x4 x5 x6 => h x1 x2 x3 x4 x5 x6) l hl) l hl
theorem ls7 {α : Type} {Q : List α → Prop} (h : ∀ x1 x2 x3 x4 x5 x6 x7, Q [x1, x2, x3, x4, x5, x6, x7]) (l : List α) (hl : l.length = 7) : Q l :=
  byW (P := Q) (fun x1 l hl => ls6 (Q := fun l => Q (x1 :: l)) (fun x2 x3 x4 x5 x6 x7 => h x1 x2 x3 x4 x5 x6 x7) l hl) l hl
theorem mlAll (w : WK) (p5 p6 : Pos) (T : LP) (F : FT) (V : FV) (J : NT) (iv : List (Int × Tok)) (fr : Obj) (came gone n k : Nat) (lr : List Wd) (pr : List PR) (g0 g1 th du : List Wd) (ds : List DP) (e : Ep)
    (hiv : iv.length < 99999) (hfr : (1 ≤ came ∧ fr = lawF w.params F V) ∨ (came = 0 ∧ fr = lawF0 w.params F V)) (hc : came ≤ 4) (hg : gone + n = came) (hk : came + gone = k) (hk8 : k < 8)
    (hl : lr.length = n) (hp : pr.length = n) (hg0 : g0.length = gone) (hg1 : g1.length = gone) (hth : th.length = n) (hdu : du.length = gone) (hds : ds.length = k) (hV : V.m = (came : Int)) (hV0 : came = 0 → V.tk = none) :
    MainOk w p5 p6 T V J iv (k : Nat) came fr e ds g0 g1 du lr pr th := by
  obtain ⟨c, ct, m, mt, kv, kt, x, xt, b, tk⟩ := V
  obtain ⟨e1, e2, e4, e5, e6, e7, e8⟩ := e
  dsimp only at hV hV0
  subst hV
  rcases upto4 hc with rfl | rfl | rfl | rfl | rfl
  · obtain rfl := hV0 rfl
    obtain ⟨_, rfl⟩ : (0 : Nat) = 0 ∧ fr = _ := hfr.elim (fun h => absurd h.1 (by decide)) id
    obtain rfl : gone = 0 := Nat.eq_zero_of_add_eq_zero_right hg
    obtain rfl : n = 0 := Nat.add_left_cancel (hg : 0 + n = 0 + 0)
    obtain rfl : k = 0 := hk.symm
    exact tri0 (tri0 (Q := fun g0 g1 du => MainOk w p5 p6 T ⟨c, ct, 0, mt, kv, kt, x, xt, b, none⟩ J iv 0 0 (lawF0 w.params F ⟨c, ct, 0, mt, kv, kt, x, xt, b, none⟩) ⟨e1, e2, e4, e5, e6, e7, e8⟩ ds g0 g1 du [] [] []) (ls0 (Q := fun ds => MainOk w p5 p6 T ⟨c, ct, 0, mt, kv, kt, x, xt, b, none⟩ J iv 0 0 (lawF0 w.params F ⟨c, ct, 0, mt, kv, kt, x, xt, b, none⟩) ⟨e1, e2, e4, e5, e6, e7, e8⟩ ds [] [] [] [] [] []) (ml_0_0 w p5 p6 T F ⟨c, ct, 0, mt, kv, kt, x, xt, b, none⟩ J iv e1 e2 e4 e5 e6 e7 e8 hiv) ds hds) g0 g1 du hg0 hg1 hdu) lr pr th hl hp hth
  · obtain ⟨_, rfl⟩ : 1 ≤ 1 ∧ fr = _ := hfr.elim id (fun h => absurd h.1 (by decide))
    rcases upto1 (Nat.le_trans (Nat.le_add_right _ _) (Nat.le_of_eq hg)) with rfl | rfl
    · obtain rfl : n = 1 := Nat.add_left_cancel (hg : 0 + n = 0 + 1)
      obtain rfl : k = 1 := hk.symm
      exact tri1 (fun x1 y1 z1 => tri0 (Q := fun g0 g1 du => MainOk w p5 p6 T ⟨c, ct, 1, mt, kv, kt, x, xt, b, tk⟩ J iv 1 1 (lawF w.params F ⟨c, ct, 1, mt, kv, kt, x, xt, b, tk⟩) ⟨e1, e2, e4, e5, e6, e7, e8⟩ ds g0 g1 du [x1] [y1] [z1]) (ls1 (Q := fun ds => MainOk w p5 p6 T ⟨c, ct, 1, mt, kv, kt, x, xt, b, tk⟩ J iv 1 1 (lawF w.params F ⟨c, ct, 1, mt, kv, kt, x, xt, b, tk⟩) ⟨e1, e2, e4, e5, e6, e7, e8⟩ ds [] [] [] [x1] [y1] [z1]) (fun D1 => ml_1_0 w p5 p6 T F ⟨c, ct, 1, mt, kv, kt, x, xt, b, tk⟩ J iv e1 e2 e4 e5 e6 e7 e8 x1 z1 y1 D1 tk hiv) ds hds) g0 g1 du hg0 hg1 hdu) lr pr th hl hp hth
    · obtain rfl : n = 0 := Nat.add_left_cancel (hg : 1 + n = 1 + 0)
      obtain rfl : k = 2 := hk.symm
      exact tri0 (tri1 (Q := fun g0 g1 du => MainOk w p5 p6 T ⟨c, ct, 1, mt, kv, kt, x, xt, b, tk⟩ J iv 2 1 (lawF w.params F ⟨c, ct, 1, mt, kv, kt, x, xt, b, tk⟩) ⟨e1, e2, e4, e5, e6, e7, e8⟩ ds g0 g1 du [] [] []) (fun g1 r1 m1 => ls2 (Q := fun ds => MainOk w p5 p6 T ⟨c, ct, 1, mt, kv, kt, x, xt, b, tk⟩ J iv 2 1 (lawF w.params F ⟨c, ct, 1, mt, kv, kt, x, xt, b, tk⟩) ⟨e1, e2, e4, e5, e6, e7, e8⟩ ds [g1] [r1] [m1] [] [] []) (fun D1 D2 => ml_1_1 w p5 p6 T F ⟨c, ct, 1, mt, kv, kt, x, xt, b, tk⟩ J iv e1 e2 e4 e5 e6 e7 e8 g1 r1 m1 D1 D2 tk hiv) ds hds) g0 g1 du hg0 hg1 hdu) lr pr th hl hp hth
  · obtain ⟨_, rfl⟩ : 1 ≤ 2 ∧ fr = _ := hfr.elim id (fun h => absurd h.1 (by decide))
    rcases upto2 (Nat.le_trans (Nat.le_add_right _ _) (Nat.le_of_eq hg)) with rfl | rfl | rfl
    · obtain rfl : n = 2 := Nat.add_left_cancel (hg : 0 + n = 0 + 2)
      obtain rfl : k = 2 := hk.symm
      exact tri2 (fun x1 y1 z1 x2 y2 z2 => tri0 (Q := fun g0 g1 du => MainOk w p5 p6 T ⟨c, ct, 2, mt, kv, kt, x, xt, b, tk⟩ J iv 2 2 (lawF w.params F ⟨c, ct, 2, mt, kv, kt, x, xt, b, tk⟩) ⟨e1, e2, e4, e5, e6, e7, e8⟩ ds g0 g1 du [x1, x2] [y1, y2] [z1, z2]) (ls2 (Q := fun ds => MainOk w p5 p6 T ⟨c, ct, 2, mt, kv, kt, x, xt, b, tk⟩ J iv 2 2 (lawF w.params F ⟨c, ct, 2, mt, kv, kt, x, xt, b, tk⟩) ⟨e1, e2, e4, e5, e6, e7, e8⟩ ds [] [] [] [x1, x2] [y1, y2] [z1, z2]) (fun D1 D2 => ml_2_0 w p5 p6 T F ⟨c, ct, 2, mt, kv, kt, x, xt, b, tk⟩ J iv e1 e2 e4 e5 e6 e7 e8 x1 z1 x2 z2 y1 y2 D1 D2 tk hiv) ds hds) g0 g1 du hg0 hg1 hdu) lr pr th hl hp hth
    · obtain rfl : n = 1 := Nat.add_left_cancel (hg : 1 + n = 1 + 1)
      obtain rfl : k = 3 := hk.symm
      exact tri1 (fun x1 y1 z1 => tri1 (Q := fun g0 g1 du => MainOk w p5 p6 T ⟨c, ct, 2, mt, kv, kt, x, xt, b, tk⟩ J iv 3 2 (lawF w.params F ⟨c, ct, 2, mt, kv, kt, x, xt, b, tk⟩) ⟨e1, e2, e4, e5, e6, e7, e8⟩ ds g0 g1 du [x1] [y1] [z1]) (fun g1 r1 m1 => ls3 (Q := fun ds => MainOk w p5 p6 T ⟨c, ct, 2, mt, kv, kt, x, xt, b, tk⟩ J iv 3 2 (lawF w.params F ⟨c, ct, 2, mt, kv, kt, x, xt, b, tk⟩) ⟨e1, e2, e4, e5, e6, e7, e8⟩ ds [g1] [r1] [m1] [x1] [y1] [z1]) (fun D1 D2 D3 => ml_2_1 w p5 p6 T F ⟨c, ct, 2, mt, kv, kt, x, xt, b, tk⟩ J iv e1 e2 e4 e5 e6 e7 e8 x1 z1 y1 g1 r1 m1 D1 D2 D3 tk hiv) ds hds) g0 g1 du hg0 hg1 hdu) lr pr th hl hp hth
    · obtain rfl : n = 0 := Nat.add_left_cancel (hg : 2 + n = 2 + 0)
      obtain rfl : k = 4 := hk.symm
      exact tri0 (tri2 (Q := fun g0 g1 du => MainOk w p5 p6 T ⟨c, ct, 2, mt, kv, kt, x, xt, b, tk⟩ J iv 4 2 (lawF w.params F ⟨c, ct, 2, mt, kv, kt, x, xt, b, tk⟩) ⟨e1, e2, e4, e5, e6, e7, e8⟩ ds g0 g1 du [] [] []) (fun g1 r1 m1 g2 r2 m2 => ls4 (Q := fun ds => MainOk w p5 p6 T ⟨c, ct, 2, mt, kv, kt, x, xt, b, tk⟩ J iv 4 2 (lawF w.params F ⟨c, ct, 2, mt, kv, kt, x, xt, b, tk⟩) ⟨e1, e2, e4, e5, e6, e7, e8⟩ ds [g1, g2] [r1, r2] [m1, m2] [] [] []) (fun D1 D2 D3 D4 => ml_2_2 w p5 p6 T F ⟨c, ct, 2, mt, kv, kt, x, xt, b, tk⟩ J iv e1 e2 e4 e5 e6 e7 e8 g1 r1 m1 g2 r2 m2 D1 D2 D3 D4 tk hiv) ds hds) g0 g1 du hg0 hg1 hdu) lr pr th hl hp hth
  · obtain ⟨_, rfl⟩ : 1 ≤ 3 ∧ fr = _ := hfr.elim id (fun h => absurd h.1 (by decide))
    rcases upto3 (Nat.le_trans (Nat.le_add_right _ _) (Nat.le_of_eq hg)) with rfl | rfl | rfl | rfl
    · obtain rfl : n = 3 := Nat.add_left_cancel (hg : 0 + n = 0 + 3)
      obtain rfl : k = 3 := hk.symm
      exact tri3 (fun x1 y1 z1 x2 y2 z2 x3 y3 z3 => tri0 (Q := fun g0 g1 du => MainOk w p5 p6 T ⟨c, ct, 3, mt, kv, kt, x, xt, b, tk⟩ J iv 3 3 (lawF w.params F ⟨c, ct, 3, mt, kv, kt, x, xt, b, tk⟩) ⟨e1, e2, e4, e5, e6, e7, e8⟩ ds g0 g1 du [x1, x2, x3] [y1, y2, y3] [z1, z2, z3]) (ls3 (Q := fun ds => MainOk w p5 p6 T ⟨c, ct, 3, mt, kv, kt, x, xt, b, tk⟩ J iv 3 3 (lawF w.params F ⟨c, ct, 3, mt, kv, kt, x, xt, b, tk⟩) ⟨e1, e2, e4, e5, e6, e7, e8⟩ ds [] [] [] [x1, x2, x3] [y1, y2, y3] [z1, z2, z3]) (fun D1 D2 D3 => ml_3_0 w p5 p6 T F ⟨c, ct, 3, mt, kv, kt, x, xt, b, tk⟩ J iv e1 e2 e4 e5 e6 e7 e8 x1 z1 x2 z2 x3 z3 y1 y2 y3 D1 D2 D3 tk hiv) ds hds) g0 g1 du hg0 hg1 hdu) lr pr th hl hp hth
    · obtain rfl : n = 2 := Nat.add_left_cancel (hg : 1 + n = 1 + 2)
      obtain rfl : k = 4 := hk.symm
      exact tri2 (fun x1 y1 z1 x2 y2 z2 => tri1 (Q := fun g0 g1 du => MainOk w p5 p6 T ⟨c, ct, 3, mt, kv, kt, x, xt, b, tk⟩ J iv 4 3 (lawF w.params F ⟨c, ct, 3, mt, kv, kt, x, xt, b, tk⟩) ⟨e1, e2, e4, e5, e6, e7, e8⟩ ds g0 g1 du [x1, x2] [y1, y2] [z1, z2]) (fun g1 r1 m1 => ls4 (Q := fun ds => MainOk w p5 p6 T ⟨c, ct, 3, mt, kv, kt, x, xt, b, tk⟩ J iv 4 3 (lawF w.params F ⟨c, ct, 3, mt, kv, kt, x, xt, b, tk⟩) ⟨e1, e2, e4, e5, e6, e7, e8⟩ ds [g1] [r1] [m1] [x1, x2] [y1, y2] [z1, z2]) (fun D1 D2 D3 D4 => ml_3_1 w p5 p6 T F ⟨c, ct, 3, mt, kv, kt, x, xt, b, tk⟩ J iv e1 e2 e4 e5 e6 e7 e8 x1 z1 x2 z2 y1 y2 g1 r1 m1 D1 D2 D3 D4 tk hiv) ds hds) g0 g1 du hg0 hg1 hdu) lr pr th hl hp hth
    · obtain rfl : n = 1 := Nat.add_left_cancel (hg : 2 + n = 2 + 1)
      obtain rfl : k = 5 := hk.symm
      exact tri1 (fun x1 y1 z1 => tri2 (Q := fun g0 g1 du => MainOk w p5 p6 T ⟨c, ct, 3, mt, kv, kt, x, xt, b, tk⟩ J iv 5 3 (lawF w.params F ⟨c, ct, 3, mt, kv, kt, x, xt, b, tk⟩) ⟨e1, e2, e4, e5, e6, e7, e8⟩ ds g0 g1 du [x1] [y1] [z1]) (fun g1 r1 m1 g2 r2 m2 => ls5 (Q := fun ds => MainOk w p5 p6 T ⟨c, ct, 3, mt, kv, kt, x, xt, b, tk⟩ J iv 5 3 (lawF w.params F ⟨c, ct, 3, mt, kv, kt, x, xt, b, tk⟩) ⟨e1, e2, e4, e5, e6, e7, e8⟩ ds [g1, g2] [r1, r2] [m1, m2] [x1] [y1] [z1]) (fun D1 D2 D3 D4 D5 => ml_3_2 w p5 p6 T F ⟨c, ct, 3, mt, kv, kt, x, xt, b, tk⟩ J iv e1 e2 e4 e5 e6 e7 e8 x1 z1 y1 g1 r1 m1 g2 r2 m2 D1 D2 D3 D4 D5 tk hiv) ds hds) g0 g1 du hg0 hg1 hdu) lr pr th hl hp hth
    · obtain rfl : n = 0 := Nat.add_left_cancel (hg : 3 + n = 3 + 0)
      obtain rfl : k = 6 := hk.symm
      exact tri0 (tri3 (Q := fun g0 g1 du => MainOk w p5 p6 T ⟨c, ct, 3, mt, kv, kt, x, xt, b, tk⟩ J iv 6 3 (lawF w.params F ⟨c, ct, 3, mt, kv, kt, x, xt, b, tk⟩) ⟨e1, e2, e4, e5, e6, e7, e8⟩ ds g0 g1 du [] [] []) (fun g1 r1 m1 g2 r2 m2 g3 r3 m3 => ls6 (Q := fun ds => MainOk w p5 p6 T ⟨c, ct, 3, mt, kv, kt, x, xt, b, tk⟩ J iv 6 3 (lawF w.params F ⟨c, ct, 3, mt, kv, kt, x, xt, b, tk⟩) ⟨e1, e2, e4, e5, e6, e7, e8⟩ ds [g1, g2, g3] [r1, r2, r3] [m1, m2, m3] [] [] []) (fun D1 D2 D3 D4 D5 D6 => ml_3_3 w p5 p6 T F ⟨c, ct, 3, mt, kv, kt, x, xt, b, tk⟩ J iv e1 e2 e4 e5 e6 e7 e8 g1 r1 m1 g2 r2 m2 g3 r3 m3 D1 D2 D3 D4 D5 D6 tk hiv) ds hds) g0 g1 du hg0 hg1 hdu) lr pr th hl hp hth
  · obtain ⟨_, rfl⟩ : 1 ≤ 4 ∧ fr = _ := hfr.elim id (fun h => absurd h.1 (by decide))
    rcases upto3 (Nat.le_of_lt_succ (Nat.lt_of_add_lt_add_left (hk ▸ hk8 : 4 + gone < 4 + 4))) with rfl | rfl | rfl | rfl
    · obtain rfl : n = 4 := Nat.add_left_cancel (hg : 0 + n = 0 + 4)
      obtain rfl : k = 4 := hk.symm
      exact tri4 (fun x1 y1 z1 x2 y2 z2 x3 y3 z3 x4 y4 z4 => tri0 (Q := fun g0 g1 du => MainOk w p5 p6 T ⟨c, ct, 4, mt, kv, kt, x, xt, b, tk⟩ J iv 4 4 (lawF w.params F ⟨c, ct, 4, mt, kv, kt, x, xt, b, tk⟩) ⟨e1, e2, e4, e5, e6, e7, e8⟩ ds g0 g1 du [x1, x2, x3, x4] [y1, y2, y3, y4] [z1, z2, z3, z4]) (ls4 (Q := fun ds => MainOk w p5 p6 T ⟨c, ct, 4, mt, kv, kt, x, xt, b, tk⟩ J iv 4 4 (lawF w.params F ⟨c, ct, 4, mt, kv, kt, x, xt, b, tk⟩) ⟨e1, e2, e4, e5, e6, e7, e8⟩ ds [] [] [] [x1, x2, x3, x4] [y1, y2, y3, y4] [z1, z2, z3, z4]) (fun D1 D2 D3 D4 => ml_4_0 w p5 p6 T F ⟨c, ct, 4, mt, kv, kt, x, xt, b, tk⟩ J iv e1 e2 e4 e5 e6 e7 e8 x1 z1 x2 z2 x3 z3 x4 z4 y1 y2 y3 y4 D1 D2 D3 D4 tk hiv) ds hds) g0 g1 du hg0 hg1 hdu) lr pr th hl hp hth
    · obtain rfl : n = 3 := Nat.add_left_cancel (hg : 1 + n = 1 + 3)
      obtain rfl : k = 5 := hk.symm
      exact tri3 (fun x1 y1 z1 x2 y2 z2 x3 y3 z3 => tri1 (Q := fun g0 g1 du => MainOk w p5 p6 T ⟨c, ct, 4, mt, kv, kt, x, xt, b, tk⟩ J iv 5 4 (lawF w.params F ⟨c, ct, 4, mt, kv, kt, x, xt, b, tk⟩) ⟨e1, e2, e4, e5, e6, e7, e8⟩ ds g0 g1 du [x1, x2, x3] [y1, y2, y3] [z1, z2, z3]) (fun g1 r1 m1 => ls5 (Q := fun ds => MainOk w p5 p6 T ⟨c, ct, 4, mt, kv, kt, x, xt, b, tk⟩ J iv 5 4 (lawF w.params F ⟨c, ct, 4, mt, kv, kt, x, xt, b, tk⟩) ⟨e1, e2, e4, e5, e6, e7, e8⟩ ds [g1] [r1] [m1] [x1, x2, x3] [y1, y2, y3] [z1, z2, z3]) (fun D1 D2 D3 D4 D5 => ml_4_1 w p5 p6 T F ⟨c, ct, 4, mt, kv, kt, x, xt, b, tk⟩ J iv e1 e2 e4 e5 e6 e7 e8 x1 z1 x2 z2 x3 z3 y1 y2 y3 g1 r1 m1 D1 D2 D3 D4 D5 tk hiv) ds hds) g0 g1 du hg0 hg1 hdu) lr pr th hl hp hth
    · obtain rfl : n = 2 := Nat.add_left_cancel (hg : 2 + n = 2 + 2)
      obtain rfl : k = 6 := hk.symm
      exact tri2 (fun x1 y1 z1 x2 y2 z2 => tri2 (Q := fun g0 g1 du => MainOk w p5 p6 T ⟨c, ct, 4, mt, kv, kt, x, xt, b, tk⟩ J iv 6 4 (lawF w.params F ⟨c, ct, 4, mt, kv, kt, x, xt, b, tk⟩) ⟨e1, e2, e4, e5, e6, e7, e8⟩ ds g0 g1 du [x1, x2] [y1, y2] [z1, z2]) (fun g1 r1 m1 g2 r2 m2 => ls6 (Q := fun ds => MainOk w p5 p6 T ⟨c, ct, 4, mt, kv, kt, x, xt, b, tk⟩ J iv 6 4 (lawF w.params F ⟨c, ct, 4, mt, kv, kt, x, xt, b, tk⟩) ⟨e1, e2, e4, e5, e6, e7, e8⟩ ds [g1, g2] [r1, r2] [m1, m2] [x1, x2] [y1, y2] [z1, z2]) (fun D1 D2 D3 D4 D5 D6 => ml_4_2 w p5 p6 T F ⟨c, ct, 4, mt, kv, kt, x, xt, b, tk⟩ J iv e1 e2 e4 e5 e6 e7 e8 x1 z1 x2 z2 y1 y2 g1 r1 m1 g2 r2 m2 D1 D2 D3 D4 D5 D6 tk hiv) ds hds) g0 g1 du hg0 hg1 hdu) lr pr th hl hp hth
    · obtain rfl : n = 1 := Nat.add_left_cancel (hg : 3 + n = 3 + 1)
      obtain rfl : k = 7 := hk.symm
      exact tri1 (fun x1 y1 z1 => tri3 (Q := fun g0 g1 du => MainOk w p5 p6 T ⟨c, ct, 4, mt, kv, kt, x, xt, b, tk⟩ J iv 7 4 (lawF w.params F ⟨c, ct, 4, mt, kv, kt, x, xt, b, tk⟩) ⟨e1, e2, e4, e5, e6, e7, e8⟩ ds g0 g1 du [x1] [y1] [z1]) (fun g1 r1 m1 g2 r2 m2 g3 r3 m3 => ls7 (Q := fun ds => MainOk w p5 p6 T ⟨c, ct, 4, mt, kv, kt, x, xt, b, tk⟩ J iv 7 4 (lawF w.params F ⟨c, ct, 4, mt, kv, kt, x, xt, b, tk⟩) ⟨e1, e2, e4, e5, e6, e7, e8⟩ ds [g1, g2, g3] [r1, r2, r3] [m1, m2, m3] [x1] [y1] [z1]) (fun D1 D2 D3 D4 D5 D6 D7 => ml_4_3 w p5 p6 T F ⟨c, ct, 4, mt, kv, kt, x, xt, b, tk⟩ J iv e1 e2 e4 e5 e6 e7 e8 x1 z1 y1 g1 r1 m1 g2 r2 m2 g3 r3 m3 D1 D2 D3 D4 D5 D6 D7 tk hiv) ds hds) g0 g1 du hg0 hg1 hdu) lr pr th hl hp hth
end Mine
end
noncomputable section
namespace Mine
open PySem PySem.W PySem.W.X

theorem At.keeps {kt : KT} {rest : Array GenState × Drawn × OsState} {m0 : List Addr} {s0 s s' : Shared} {l : List (Addr × Obj)} (h : At kt rest m0 s0 s l) (k : Keeps s s') : At kt rest m0 s0 s' l :=
  ⟨⟨fun x hx => k.keep _ _ (h.loc.own x hx), h.loc.nodup, h.loc.kn⟩, h.fresh, ⟨fun b o e => k.keep _ _ (h.since.ktk b o e), fun b o e hb => k.keep _ _ (h.since.frame b o e hb), Nat.le_trans h.since.le k.le, k.rest.trans h.since.rest⟩⟩
structure Words (a : AS) (lr : List Wd) (pr : List PR) (g0 g1 th du : List Wd) (ds : List DP) : Prop where
  hl : lr.map (·.1) = a.L.map fun x => wd x.1 (a.c - x.2 + 1)
  hp : pr.map (·.x.1) = a.Pl.map fun x => wd x.1 (a.c - x.2 + 1)
  h0 : g0.map (·.1) = a.G0.map fun x => wd x.1 x.2
  h1 : g1.map (·.1) = a.G1.map fun x => wd x.1 x.2
  ht : th.map (·.1) = a.Pl.map fun x => nm x.1
  hd : du.map (·.1) = a.G1.map fun x => nm x.1
  hD : ds.map (fun d => (d.b, d.c)) = a.D
noncomputable def AS.tick (a : AS) (t : Int) : AS := { a with c := a.c + t }
theorem map_tick (l : List (Nat × Int)) (c : Int) (r : Nat) (h : ∀ x ∈ l, x.2 ≤ c) : (l.map fun x => wd x.1 (c - x.2 + 1)).map (sentN r) = l.map fun x => wd x.1 (c + (r : Nat) - x.2 + 1) := by
  rw [List.map_map]
  refine List.map_congr_left fun x hx => ?_
  have := h x hx
  have key := wd_tick x.1 (c - x.2 + 1) (r : Nat) (by omega) (Int.natCast_nonneg r)
  show sentN r (wd x.1 (c - x.2 + 1)) = _
  rw [show sentN r = sentN ((r : Nat) : Int).toNat from rfl, key]
  exact congrArg (wd x.1) (by omega)
theorem grow_of (a : AS) (hf : Reach.Facts a) (h8 : a.D.length ≤ 8) (l : List (Nat × Int)) (hl : ∀ x ∈ l, x.1 < a.m ∧ 0 ≤ x.2 ∧ x.2 ≤ a.c) : Grow 2 (l.map fun x => wd x.1 (a.c - x.2 + 1)) := fun z hz => by
  obtain ⟨y, hy, rfl⟩ := List.mem_map.mp hz
  obtain ⟨h1, h2, h3⟩ := hl y hy
  have := hf.m4
  have := hf.c2
  exact ⟨wd_ok _ _ (by omega), wd_len _ _ (by omega)⟩
theorem grow_app {k : Nat} {a b : List (List Nat)} (ha : Grow k a) (hb : Grow k b) : Grow k (a ++ b) := fun x hx => (List.mem_append.mp hx).elim (ha x) (hb x)
theorem words_grow {a : AS} (hf : Reach.Facts a) (h8 : a.D.length ≤ 8) {lr : List Wd} {pr : List PR} {g0 g1 th du : List Wd} {ds : List DP} (ws : Words a lr pr g0 g1 th du ds) : Grow 2 (rows lr pr) := by
  unfold rows
  rw [ws.hl, ws.hp]
  exact grow_app (grow_of a hf h8 _ hf.lL) (grow_of a hf h8 _ hf.lPl)
theorem len_of {α β γ : Type} {l : List α} {l' : List β} {f : α → γ} {g : β → γ} (h : l.map f = l'.map g) : l.length = l'.length := by simpa using congrArg List.length h

section
variable (w : WK) (rest : Array GenState × Drawn × OsState) (m0 : List Addr) (s0 : Shared) (extra : List (Addr × Obj)) (T : LP) (J : NT) (iv : List (Int × Tok)) (p5 p6 : Pos)
/-- the main loop's state -/
structure MI (s : Shared) (a : AS) (F : FT) (V : FV) (fr : Obj) (lr : List Wd) (pr : List PR) (g0 g1 th du : List Wd) (ds : List DP) (e : Ep) : Prop where
  hfr : (1 ≤ a.m ∧ fr = lawF w.params F V) ∨ (a.m = 0 ∧ fr = lawF0 w.params F V)
  htk : a.m = 0 → V.tk = none
  hc : V.c = a.c
  hm : V.m = (a.m : Int)
  ws : Words a lr pr g0 g1 th du ds
  loc : At (E2 w).kt rest m0 s0 s (mainL w.params T fr J (a.D.length : Nat) iv lr pr g0 g1 th du ds e ++ extra)
noncomputable def Inv (s : Shared) (a : AS) : Prop := ∃ F V fr lr pr g0 g1 th du ds e, MI w rest m0 s0 extra T J iv s a F V fr lr pr g0 g1 th du ds e
noncomputable def suOf : Su := ⟨forT mainFor, .ref 256, forB mainFor, forE mainFor, fBody fLaw, lawEnv, lawEnv, p136, p5, p6⟩
theorem mid (it : Addr) (X : Int) (a : AS) (F : FT) (V : FV) (lr : List Wd) (pr : List PR) (g0 g1 th du : List Wd) (ds : List DP) (e : Ep) (hf : Reach.Facts a) (h8 : a.D.length ≤ 8) (h1 : 1 ≤ a.m) (hc : V.c = a.c) (hm : V.m = (a.m : Int)) (ws : Words a lr pr g0 g1 th du ds) (k : Int) (hk : k = (a.D.length : Nat)) (R : Result → Shared → Prop) (p : Pos) (s : Shared)
    (h : At (E2 w).kt rest m0 s0 s (callL w.params T F V J it (tOf X) k iv lr pr g0 g1 th du ds e ++ extra))
    (next : ∀ p' s', Inv w rest m0 s0 extra T J iv s' (a.tick (tOf X)) → wpCode (E2 w).M (Γof mainC (lawBel p5 p6)) R p' s') :
    wpCode (E2 w).M (Γof (tlC it) ((mainC, p136) :: lawBel p5 p6)) (fun r s'' => r = .ok .next ∧ (∀ a o, (E2 w).kt.get a = some o → s''.heap.get? a = some o) ∧ ∀ p'' s3, Keeps s'' s3 → wpCode (E2 w).M (Γof mainC (lawBel p5 p6)) R p'' s3) p s := by
  subst hk
  obtain ⟨r, hr, eX⟩ : ∃ r : Nat, r ≤ 2 ∧ tOf X = (r : Nat) := by
    rcases tOf_cases X with h | h | h
    · exact ⟨0, by decide, h⟩
    · exact ⟨1, by decide, h⟩
    · exact ⟨2, by decide, h⟩
  rw [eX] at h next
  have hn : a.L.length ≤ a.m := by rw [← hf.lm]; exact Nat.le_add_left _ _
  have h' : At (E2 w).kt rest m0 s0 s (tlPre w.params T F V J it (riO 0 (r : Nat)) lr pr e.e1 e.e2 ++ (restL (a.D.length : Nat) iv g0 g1 th du ds e ++ extra)) := h.assoc
  refine tick_loop w (suOf p5 p6) T J it a.m a.L.length h1 hf.m4 hn _ r 0 F V lr pr e.e1 e.e2 _ p s hr (len_of ws.hl) ((len_of ws.hp).trans hf.lp.symm) hm ((words_grow hf h8 ws).le hr) h' ?_
  intro F' V' lr' pr' e1 e2 io s' hl' hp' hc' hm' h2
  refine ⟨rfl, h2.since.ktk, fun p'' s3 K => next p'' s3 ⟨F', V', lawF w.params F' V', lr', pr', g0, g1, th, du, ds, { e with e1 := e1, e2 := e2 }, .inl ⟨h1, rfl⟩, fun h0 => ?_, ?_, hm'.trans hm, ⟨?_, ?_, ws.h0, ws.h1, ws.ht, ws.hd, ws.hD⟩, ?_⟩⟩
  · exact absurd (show a.m = 0 from h0) (Nat.ne_of_gt h1)
  · rw [hc', hc]; rfl
  · rw [hl', ws.hl]
    exact map_tick a.L a.c r fun x hx => (hf.lL x hx).2.2
  · rw [hp', ws.hp]
    exact map_tick a.Pl a.c r fun x hx => (hf.lPl x hx).2.2
  · have h3 : At (E2 w).kt rest m0 s0 s' ([(210, lawF w.params F' V'), (it, io), (240, namesO J)] ++ (tl6 w.params T lr' pr' e1 e2 ++ (tups pr' ++ (restL (a.D.length : Nat) iv g0 g1 th du ds e ++ extra)))) := h2
    have h4 : At (E2 w).kt rest m0 s0 s' ([(210, lawF w.params F' V'), (240, namesO J)] ++ (tl6 w.params T lr' pr' e1 e2 ++ (tups pr' ++ (restL (a.D.length : Nat) iv g0 g1 th du ds e ++ extra)))) := h3.pk [tl6 w.params T lr' pr' e1 e2, tups pr', restL (a.D.length : Nat) iv g0 g1 th du ds e, extra] [0, 2, 3, 4, 5, 6] rfl
    have h5 : At (E2 w).kt rest m0 s0 s' (coreL w.params T (lawF w.params F' V') J lr' pr' { e with e1 := e1, e2 := e2 } ++ (restL (a.D.length : Nat) iv g0 g1 th du ds { e with e1 := e1, e2 := e2 } ++ extra)) := h4
    show At (E2 w).kt rest m0 s0 s3 ((coreL w.params T (lawF w.params F' V') J lr' pr' { e with e1 := e1, e2 := e2 } ++ restL (a.D.length : Nat) iv g0 g1 th du ds { e with e1 := e1, e2 := e2 }) ++ extra)
    rw [List.append_assoc]
    exact h5.keeps K
end
theorem Words.come {a : AS} {lr : List Wd} {pr : List PR} {g0 g1 th du : List Wd} {ds : List DP} (ws : Words a lr pr g0 g1 th du ds) (t1 t2 u tn ct : Tok) (ta da : Addr) (c : Int) (hc : c = a.c) :
    Words ⟨a.c, a.L ++ [(a.m, a.c)], a.Pl ++ [(a.m, a.c)], a.G0, a.G1, a.D ++ [(true, a.c)], a.m + 1⟩ (lr ++ [(46 :: nm a.m, t1)]) (pr ++ [⟨ta, u, (46 :: nm a.m, t2)⟩]) g0 g1 (th ++ [(nm a.m, tn)]) du (ds ++ [⟨da, true, c, ct⟩]) := by
  have e1 : wd a.m (a.c - a.c + 1) = 46 :: nm a.m := by rw [Int.sub_self]; rfl
  refine ⟨?_, ?_, ws.h0, ws.h1, ?_, ws.hd, ?_⟩
  · rw [List.map_append, List.map_append, ws.hl]; exact congrArg (fun z => _ ++ [z]) e1.symm
  · rw [List.map_append, List.map_append, ws.hp]; exact congrArg (fun z => _ ++ [z]) e1.symm
  · rw [List.map_append, List.map_append, ws.ht]; rfl
  · rw [List.map_append, ws.hD, hc]; rfl
theorem Words.go {a : AS} {x : Wd} {lr' : List Wd} {pr' : List PR} {q : PR} {g0 g1 th' du : List Wd} {y : Wd} {ds : List DP} {x0 yP : Nat × Int} {L1 P1 : List (Nat × Int)} (ws : Words a (x :: lr') (pr' ++ [q]) g0 g1 (th' ++ [y]) du ds)
    (hL : a.L = x0 :: L1) (hP : a.Pl = P1 ++ [yP]) (ct : Tok) (da : Addr) (c : Int) (hc : c = a.c) :
    Words ⟨a.c, L1, P1, a.G0 ++ [(x0.1, a.c - x0.2 + 1)], a.G1 ++ [(yP.1, a.c - yP.2 + 1)], a.D ++ [(false, a.c)], a.m⟩ lr' pr' (g0 ++ [x]) (g1 ++ [q.x]) th' (du ++ [y]) (ds ++ [⟨da, false, c, ct⟩]) := by
  obtain ⟨wl, wp, w0, w1, wt, wdd, wD⟩ := ws
  rw [hL, List.map_cons, List.map_cons, List.cons.injEq] at wl
  rw [hP, List.map_append, List.map_append] at wp wt
  obtain ⟨p1, p2⟩ := List.append_inj' wp rfl
  obtain ⟨t1, t2⟩ := List.append_inj' wt rfl
  refine ⟨wl.2, p1, ?_, ?_, t1, ?_, ?_⟩
  · rw [List.map_append, List.map_append, w0]; exact congrArg (fun z => _ ++ [z]) wl.1
  · rw [List.map_append, List.map_append, w1]; exact congrArg (fun z => _ ++ z) p2
  · rw [List.map_append, List.map_append, wdd]; exact congrArg (fun z => _ ++ z) t2
  · rw [List.map_append, wD, hc]; rfl
theorem Reach.come0 {a : AS} (hr : Reach a) (h4 : a.m < 4) : Reach ⟨a.c, a.L ++ [(a.m, a.c)], a.Pl ++ [(a.m, a.c)], a.G0, a.G1, a.D ++ [(true, a.c)], a.m + 1⟩ := by
  have := Reach.come a 0 hr h4 (Int.le_refl _) (by decide)
  rwa [Int.add_zero] at this
theorem Reach.go0 {a : AS} {x y : Nat × Int} {L' Pl' : List (Nat × Int)} (hr : Reach a) (hL : a.L = x :: L') (hP : a.Pl = Pl' ++ [y]) : Reach ⟨a.c, L', Pl', a.G0 ++ [(x.1, a.c - x.2 + 1)], a.G1 ++ [(y.1, a.c - y.2 + 1)], a.D ++ [(false, a.c)], a.m⟩ := by
  have := Reach.go a 0 x y L' Pl' hr hL hP (Int.le_refl _) (by decide)
  rwa [Int.add_zero] at this
theorem len1 {α : Type} (l : List α) (x : α) : (l ++ [x]).length = l.length + 1 := by simp
theorem tOf_le (X : Int) : 0 ≤ tOf X ∧ tOf X ≤ 2 := by
  rcases tOf_cases X with h | h | h <;> rw [h] <;> decide

section
variable (w : WK) (rest : Array GenState × Drawn × OsState) (m0 : List Addr) (s0 : Shared) (extra : List (Addr × Obj)) (T : LP) (J : NT) (iv : List (Int × Tok)) (hiv : iv.length < 99999) (p5 p6 : Pos) (R : Result → Shared → Prop)
include hiv
theorem main_step (a : AS) (hr : Reach a) (h8 : a.D.length < 8) (p : Pos) (s : Shared) (hI : Inv w rest m0 s0 extra T J iv s a)
    (ih : ∀ a' p' s', Reach a' → a'.D.length = a.D.length + 1 → Inv w rest m0 s0 extra T J iv s' a' → wpCode (E2 w).M (Γof mainC (lawBel p5 p6)) R p' s') : wpCode (E2 w).M (Γof mainC (lawBel p5 p6)) R p s := by
  obtain ⟨F, V, fr, lr, pr, g0, g1, th, du, ds, e, hI⟩ := hI
  have hf := hr.facts
  have ws := hI.ws
  have hds : ds.length = a.D.length := by rw [← ws.hD, List.length_map]
  have key := mlAll w p5 p6 T F V J iv fr a.m a.G0.length a.L.length a.D.length lr pr g0 g1 th du ds e hiv hI.hfr hf.m4 hf.lm hf.ld.symm h8 (len_of ws.hl) ((len_of ws.hp).trans hf.lp.symm) (len_of ws.h0) ((len_of ws.h1).trans hf.lg.symm) ((len_of ws.ht).trans hf.lp.symm) ((len_of ws.hd).trans hf.lg.symm) hds hI.hm hI.htk
  refine key rest m0 s0 extra p s hI.loc R fun n p' s' hn A => ?_
  rcases hn with ⟨h4, d, ⟨hc', hm'⟩, rfl⟩ | ⟨x, lr', pr', q, th', y, ⟨rfl, rfl, rfl⟩, d, ⟨hc', hm'⟩, rfl⟩
  · refine mid w rest m0 s0 extra T J iv p5 p6 d.it d.X ⟨a.c, a.L ++ [(a.m, a.c)], a.Pl ++ [(a.m, a.c)], a.G0, a.G1, a.D ++ [(true, a.c)], a.m + 1⟩ d.F d.V _ _ g0 g1 _ du _ d.e (hr.come0 h4).facts (Nat.le_trans (Nat.le_of_eq (len1 _ _)) h8) (Nat.le_add_left _ _) (hc'.trans hI.hc) (by rw [hm', hI.hm]; rfl)
      (ws.come d.t1 d.t2 d.u (nmT J a.m) V.ct d.ta d.da V.c hI.hc) _ (by rw [len1]; rfl) R p' s' A fun p'' s3 hI' => ih _ p'' s3 (.come a (tOf d.X) hr h4 (tOf_le _).1 (tOf_le _).2) (len1 _ _) hI'
  · obtain ⟨x0, L1, hL⟩ : ∃ x0 L1, a.L = x0 :: L1 := List.exists_cons_of_length_eq_add_one (len_of ws.hl).symm
    obtain ⟨yP, P1, hP⟩ : ∃ yP P1, a.Pl = P1 ++ [yP] := by
      have : a.Pl ≠ [] := fun h => by have := len_of ws.hp; rw [h, len1] at this; cases this
      exact ⟨a.Pl.getLast this, a.Pl.dropLast, (List.dropLast_concat_getLast this).symm⟩
    have hm1 : 1 ≤ a.m := by rw [← hf.lm, hL]; exact Nat.le_add_left _ _
    refine mid w rest m0 s0 extra T J iv p5 p6 d.it d.X ⟨a.c, L1, P1, a.G0 ++ [(x0.1, a.c - x0.2 + 1)], a.G1 ++ [(yP.1, a.c - yP.2 + 1)], a.D ++ [(false, a.c)], a.m⟩ d.F d.V _ _ _ _ _ _ _ d.e (hr.go0 hL hP).facts (Nat.le_trans (Nat.le_of_eq (len1 _ _)) h8) hm1 (hc'.trans hI.hc) (hm'.trans hI.hm)
      (ws.go hL hP V.ct d.da V.c hI.hc) _ (by rw [len1]; rfl) R p' s' A fun p'' s3 hI' => ih _ p'' s3 (.go a (tOf d.X) x0 yP L1 P1 hr hL hP (tOf_le _).1 (tOf_le _).2) (len1 _ _) hI'
theorem main_loop (hend : ∀ a p s, Reach a → a.D.length = 8 → Inv w rest m0 s0 extra T J iv s a → wpCode (E2 w).M (Γof mainC (lawBel p5 p6)) R p s) :
    ∀ (n : Nat) (a : AS) (p : Pos) (s : Shared), Reach a → a.D.length + n = 8 → Inv w rest m0 s0 extra T J iv s a → wpCode (E2 w).M (Γof mainC (lawBel p5 p6)) R p s
  | 0, a, p, s, hr, h8, hI => hend a p s hr h8 hI
  | n + 1, a, p, s, hr, h8, hI => main_step w rest m0 s0 extra T J iv hiv p5 p6 R a hr (by rw [← h8]; exact Nat.lt_add_of_pos_right (Nat.succ_pos n)) p s hI fun a' p' s' hr' h' hI' => main_loop hend n a' p' s' hr' (by rw [h', Nat.add_assoc, Nat.add_comm 1 n]; exact h8) hI'
/-- the main loop -/
theorem main_wp (F0 : FT) (V0 : FV) (e0 : Ep) (hc : V0.c = 0) (hm : V0.m = 0) (htk : V0.tk = none) (p : Pos) (s : Shared)
    (h : At (E2 w).kt rest m0 s0 s (mainL w.params T (lawF0 w.params F0 V0) J 0 iv [] [] [] [] [] [] [] e0 ++ extra))
    (hR : ∀ (a : AS) (F : FT) (V : FV) (g0 g1 du : List Wd) (ds : List DP) (e : Ep) s', Reach a → a.D.length = 8 → a.m = 4 → Words a [] [] g0 g1 [] du ds →
      At (E2 w).kt rest m0 s0 s' (mainL w.params T (lawF w.params F V) J 8 iv [] [] g0 g1 [] du ds e ++ extra) → R (.ok .next) s') : wpCode (E2 w).M (Γof mainC (lawBel p5 p6)) R p s := by
  refine main_loop w rest m0 s0 extra T J iv hiv p5 p6 R ?_ 8 ⟨0, [], [], [], [], [], 0⟩ p s .zero rfl ⟨F0, V0, lawF0 w.params F0 V0, [], [], [], [], [], [], [], e0, .inr ⟨rfl, rfl⟩, fun _ => htk, hc, hm, ⟨rfl, rfl, rfl, rfl, rfl, rfl, rfl⟩, h⟩
  intro a p' s' ha h8 ⟨F, V, fr, lr, pr, g0, g1, th, du, ds, e, hI⟩
  have hf := ha.facts
  have e1 := hf.lm
  have e2 := hf.ld
  have e3 := hf.m4
  have hL : a.L = [] := List.length_eq_zero_iff.mp (by omega)
  have hP : a.Pl = [] := List.length_eq_zero_iff.mp (by rw [← hf.lp, hL]; rfl)
  have hm4 : a.m = 4 := by omega
  have hw := hI.ws
  obtain rfl : lr = [] := by have := hw.hl; rw [hL] at this; simpa using this
  obtain rfl : pr = [] := by have := hw.hp; rw [hP] at this; simpa using this
  obtain rfl : th = [] := by have := hw.ht; rw [hP] at this; simpa using this
  obtain ⟨_, rfl⟩ : 1 ≤ a.m ∧ fr = _ := hI.hfr.elim id fun h => absurd h.1 (by rw [hm4]; decide)
  have h1 := hI.loc
  rw [h8] at h1
  let X : List (Addr × Obj) := [(209, listO (intsV iv) 0), (241, listO (ds.map DP.ref) e.e4), (242, listO (g0.map rowV) e.e5), (243, listO (g1.map rowV) e.e6), (244, listO [.ref 242, .ref 243] 0), (245, listO [] e.e7), (246, listO (du.map rowV) e.e8)] ++ (dps ds ++ extra)
  have h2 : At (E2 w).kt rest m0 s0 s' ([(256, riO 8 0)] ++ (coreL w.params T (lawF w.params F V) J [] [] e ++ X)) := At.pick [coreL w.params T (lawF w.params F V) J [] [] e, [(256, riO 8 0)], X] [1, 0, 2] h1 rfl
  refine wp_run (E2 w) den_eq 100000 (lawBel p5 p6) _ p' s' _ h2.left.loc h2.since.ktk h2.since.rest R (fun N K => .fin 15 [1, 1, 1, 1, 1, 3]) fun N K _ _ => ?_
  refine .mk' [] [] (.ans (.ok .next)) [(256, riO 8 0)] (N, 2) (K, 0) [0] (by kernel_rfl) noG trivial rfl fun s2 A => ?_
  exact hR a F V g0 g1 du ds e s2 ha h8 hm4 hw (At.pick [[(256, riO 8 0)], coreL w.params T (lawF w.params F V) J [] [] e, X] [1, 0, 2] (h2.step rfl A) rfl)
end
end Mine
end
noncomputable section
namespace Mine
open PySem PySem.W PySem.W.X

/-! ## what _law_ways meets -/
noncomputable def fWays : Stmt := fTop 15
noncomputable def wyEnv (L cc : Addr) : Env := { scope := fScope fWays, locals := L, globals := 3, cells := [(S "clock", cc)], qual := S "_law_ways.<locals>.", func := some 198, code := .ref 197, frame := some L, builtins := 0 }
noncomputable def stAt (l : List Stmt) (i : Nat) : Stmt := (l[i]?).getD (.Pass ⟨0, 0, 0, 0⟩)
noncomputable def wyFor : Stmt := stAt (fBody fWays) 1
noncomputable def ifB : Stmt → List Stmt
  | .If _ b _ _ => b
  | _ => []
noncomputable def ifO : Stmt → List Stmt
  | .If _ _ o _ => o
  | _ => []
noncomputable def retV : Stmt → PySem.Expr
  | .Return (some v) _ => v
  | _ => .Constant .none 0 ⟨0, 0, 0, 0⟩
noncomputable def wyCome : PySem.Expr := asV (stAt (ifB (stAt (forB wyFor) 0)) 0)
noncomputable def wyGo : PySem.Expr := asV (stAt (ifO (stAt (forB wyFor) 0)) 0)
noncomputable def wyRet : PySem.Expr := retV (stAt (fBody fWays) 2)
/-- a comprehension's environment -/
noncomputable def cpScope (e : PySem.Expr) : Scope := { lcS e with names := (lcS e).names.map fun x => (x.1, match x.2 with | .free => .cell | k => k) }
noncomputable def wcEnv (e : PySem.Expr) (φ L cc : Addr) : Env := { scope := cpScope e, locals := φ, globals := 3, cells := [(S "clock", cc)], qual := S "_law_ways.<locals>.", func := none, code := .ref 197, frame := some L, builtins := 0 }
structure Tl where
  (s5 : List Stmt) (e5 : Env) (p5 p6 : Pos)
noncomputable def Tl.l (u : Tl) : List (Code × Pos) := [(.func u.s5 u.e5, u.p5), (.builtin "claim.caller" {}, u.p6)]
structure Wb where
  (L cc fit : Addr) (p1 p2 : Pos) (u : Tl)
noncomputable def Wb.l (b : Wb) : List (Code × Pos) := (.forLoop (forT wyFor) (.ref b.fit) (forB wyFor) (forE wyFor) (wyEnv b.L b.cc), b.p1) :: (.func (fBody fWays) (wyEnv b.L b.cc), b.p2) :: b.u.l
noncomputable abbrev It := Int × Tok
structure WAY where
  (a ta wa : Addr) (th ws : List It)
noncomputable def WAY.ref (W : WAY) : Value := .ref W.a
noncomputable def WAY.objs (W : WAY) : List (Addr × Obj) := [(W.a, listO [.ref W.ta, .ref W.wa] 0), (W.ta, listO (intsV W.th) 0), (W.wa, listO (intsV W.ws) 0)]
/-- the dict of the comprehension's own names -/
inductive Sh where
  | z
  | two (t1 t2 : Tok) (v1 v2 : Value)
  | three (t1 t2 t3 : Tok) (v1 v2 v3 : Value)
noncomputable def Sh.o (P : Params) : Sh → Obj
  | .z => ⟨.type "dict", none, .dict #[] 0, #[]⟩
  | .two t1 t2 v1 v2 => ⟨.type "dict", none, .dict #[eD P (S "there") t1 v1, eD P (S "waits") t2 v2] 2, #[]⟩
  | .three t1 t2 t3 v1 v2 v3 => ⟨.type "dict", none, .dict #[eD P (S "there") t1 v1, eD P (S "waits") t2 v2, eD P (S "k") t3 v3] 3, #[]⟩
noncomputable def wyC (e : PySem.Expr) (φ it acc L cc : Addr) : Code := .compLoop e 0 (.ref it) (.ref acc) (wcEnv e φ L cc)
noncomputable def h76 : List Nat := [2, 6, 6, 6, 1, 0, 0, 6, 9, 9, 9, 9, 9, 6, 9, 8, 9, 9, 9, 9, 6, 9, 8, 9, 9, 9, 9, 6, 9, 8, 11, 0, 1, 0, 0, 1, 0, 1, 4, 7, 12, 7, 7]

theorem come_turn (w : WK) (b : Wb) (sh : Sh) (hsh : ∀ t1 t2 t3 v1 v2 v3, sh ≠ .three t1 t2 t3 v1 v2 v3) (φ it acc l : Addr) (i : Nat) (accs xs : List Value) (ea el : Nat) (c : Int) (ct : Tok) (W : WAY) (hx : xs[i]? = some W.ref) (hacc : accs.length < 100000) (hth : W.th.length < 1000)
    {rest : Array GenState × Drawn × OsState} (p : Pos) (s : Shared) (R : Result → Shared → Prop) (hk : ∀ a o, (E2 w).kt.get a = some o → s.heap.get? a = some o) (hr : (s.gens, s.drawn, s.os) = rest)
    (L : Loc (E2 w).kt s ([(φ, sh.o w.params), (it, liO l i), (acc, listO accs ea), (b.cc, cellO (.int c ct)), (l, listO xs el)] ++ W.objs))
    (next : ∀ (t1 t2 : Tok) (a' ta' : Addr) (ea' top tok : Nat) p' s', AtH (E2 w).kt rest s.heap [φ, it, acc, b.cc, l, W.a, W.ta, W.wa]
      ([(φ, (Sh.two t1 t2 (.ref W.ta) (.ref W.wa)).o w.params), (it, liO l (i + 1)), (acc, listO (accs ++ [.ref a']) ea'), (b.cc, cellO (.int c ct)), (l, listO xs el)] ++ W.objs ++ [(a', listO [.ref ta', .ref W.wa] 0), (ta', listO (intsV W.th ++ [.int c ct]) 0)]) top tok s' →
      wpCode (E2 w).M (Γof (wyC wyCome φ it acc b.L b.cc) b.l) R p' s') :
    wpCode (E2 w).M (Γof (wyC wyCome φ it acc b.L b.cc) b.l) R p s := by
  refine wp_run (E2 w) den_eq 100000 b.l _ p s _ L hk hr R (fun N K => .dat 4 [2, 2] [1, 4] (fLn l i W.ref (listO xs el)) (0, 0) fun d1 =>
    .dat 76 h76 [6, 11] (fNew (listO (intsV W.th ++ [.int c ct]) 0) [listO (intsV W.th) 0, listO [.int c ct] 0]) (0, 0, 0) fun d2 =>
    .dat 7 [1, 3] [2] (fApp accs (.ref (d2.2.1 + 0))) (0, 0, 0) fun d3 => .fin 1 []) fun N K hN hK => fun d1 => fun d2 => fun d3 => ?_
  obtain ⟨bL, bcc, bfit, bp1, bp2, bs5, be5, bp5, bp6⟩ := b
  obtain ⟨Wa, Wta, Wwa, Wth, Wws⟩ := W
  have hth : Wth.length < 1000 := hth
  cases sh with
  | z =>
    refine FinI.mk' [] [(none, .builtin "list_iterator.__next__" ⟨[.ref it], []⟩, [(it, liO l i), (l, listO xs el)]),
      (none, .builtin "list.__add__" ⟨[.ref Wta, .ref (d1.1 + 3)], []⟩, [(Wta, listO (intsV Wth) 0), (d1.1 + 3, listO [.int c ct] 0)]),
      (none, .builtin "list.append" ⟨[.ref acc, .ref (d2.2.1 + 0)], []⟩, [(acc, listO accs ea)])] (.nxt (wyC wyCome φ it acc bL bcc))
      ([(φ, (Sh.two (d1.2 + 0) (d1.2 + 1) (.ref Wta) (.ref Wwa)).o w.params), (it, liO l (i + 1)), (acc, listO (accs ++ [.ref (d2.2.1 + 0)]) d3.1), (bcc, cellO (.int c ct)), (l, listO xs el)] ++ WAY.objs ⟨Wa, Wta, Wwa, Wth, Wws⟩ ++ [(d2.2.1 + 0, listO [.ref d2.1, .ref Wwa] 0), (d2.1, listO (intsV Wth ++ [.int c ct]) 0)])
      (d3.2.1, 0) (d3.2.2, 0) [0, 1, 2, 3, 4, 5, 6, 7, 13, 12] ?_ (fun _ h => (nomatch h)) ?_ rfl (fun p' s' A => next _ _ _ _ _ _ _ p' s' A)
    · kernel_rfl
    · exact ⟨fun b => (ctF_lnext _ b _ _ _ _ _ _ hx).toH, fun b => (ctF_ladd _ b _ _ _ _ _ _ (by simp [intsV]; omega) (by simp)).toH, fun b => (ctF_append _ b _ _ _ _ hacc).toH, trivial⟩
  | two t1 t2 v1 v2 =>
    refine FinI.mk' [] [(none, .builtin "list_iterator.__next__" ⟨[.ref it], []⟩, [(it, liO l i), (l, listO xs el)]),
      (none, .builtin "list.__add__" ⟨[.ref Wta, .ref (d1.1 + 3)], []⟩, [(Wta, listO (intsV Wth) 0), (d1.1 + 3, listO [.int c ct] 0)]),
      (none, .builtin "list.append" ⟨[.ref acc, .ref (d2.2.1 + 0)], []⟩, [(acc, listO accs ea)])] (.nxt (wyC wyCome φ it acc bL bcc))
      ([(φ, (Sh.two t1 t2 (.ref Wta) (.ref Wwa)).o w.params), (it, liO l (i + 1)), (acc, listO (accs ++ [.ref (d2.2.1 + 0)]) d3.1), (bcc, cellO (.int c ct)), (l, listO xs el)] ++ WAY.objs ⟨Wa, Wta, Wwa, Wth, Wws⟩ ++ [(d2.2.1 + 0, listO [.ref d2.1, .ref Wwa] 0), (d2.1, listO (intsV Wth ++ [.int c ct]) 0)])
      (d3.2.1, 0) (d3.2.2, 0) [0, 1, 2, 3, 4, 5, 6, 7, 13, 12] ?_ (fun _ h => (nomatch h)) ?_ rfl (fun p' s' A => next _ _ _ _ _ _ _ p' s' A)
    · kernel_rfl
    · exact ⟨fun b => (ctF_lnext _ b _ _ _ _ _ _ hx).toH, fun b => (ctF_ladd _ b _ _ _ _ _ _ (by simp [intsV]; omega) (by simp)).toH, fun b => (ctF_append _ b _ _ _ _ hacc).toH, trivial⟩
  | three => exact absurd rfl (hsh _ _ _ _ _ _)
end Mine
end
noncomputable section
namespace Mine
open PySem PySem.W PySem.W.X

theorem pick_upto (xs : List Value) (k : Nat) (hk : k ≤ xs.length) : (slicePick xs.toArray none (some (k : Int)) none).toList = xs.take k := by
  rw [kmk_pick_nat (a := 0) (b := k)]
  · simp
  · unfold sliceBounds
    simp only [List.size_toArray, Option.getD_none]
    have h1 : ¬ ((k : Int) < 0) := by omega
    simp only [h1, if_false]
    have h2 : max (0 : Int) (min (k : Int) (xs.length : Int)) = (k : Int) := by omega
    simp [h2]
theorem pick_from (xs : List Value) (k : Nat) (hk : k ≤ xs.length) : (slicePick xs.toArray (some (k : Int)) none none).toList = xs.drop k := by
  rw [kmk_pick_nat (a := k) (b := xs.length)]
  · simp only [List.toList_toArray]
    exact List.take_of_length_le (by simp)
  · unfold sliceBounds
    simp only [List.size_toArray, Option.getD_none]
    have h1 : ¬ ((k : Int) < 0) := by omega
    simp only [h1, if_false]
    have h2 : max (0 : Int) (min (k : Int) (xs.length : Int)) = (k : Int) := by omega
    simp [h2]
noncomputable def wyC1 (φ ri acc L cc : Addr) : Code := .compLoop wyGo 1 (.ref ri) (.ref acc) (wcEnv wyGo φ L cc)
noncomputable def Wb.l1 (b : Wb) (φ it acc : Addr) (q : Pos) : List (Code × Pos) := (wyC wyGo φ it acc b.L b.cc, q) :: b.l
noncomputable def Sh.withK (t3 : Tok) (v : Value) : Sh → Sh
  | .two t1 t2 v1 v2 => .three t1 t2 t3 v1 v2 v
  | .three t1 t2 t3' v1 v2 _ => .three t1 t2 t3' v1 v2 v
  | .z => .z
noncomputable def Sh.has (a b : Value) : Sh → Prop
  | .two _ _ v1 v2 => v1 = a ∧ v2 = b
  | .three _ _ _ v1 v2 _ => v1 = a ∧ v2 = b
  | .z => False
theorem intsV_len (xs : List It) : (intsV xs).length = xs.length := List.length_map ..
theorem intsV_at {xs : List It} {k : Nat} {x : It} (h : xs[k]? = some x) : (intsV xs)[k]? = some (.int x.1 x.2) := by
  unfold intsV; rw [List.getElem?_map, h]; rfl

theorem go1_turn (w : WK) (b : Wb) (sh : Sh) (φ it ri acc ta wa : Addr) (q : Pos) (k r : Nat) (accs : List Value) (ea : Nat) (c : Int) (ct : Tok) (th ws : List It) (x : It) (hsh : sh.has (.ref ta) (.ref wa)) (hx : th[k]? = some x) (hacc : accs.length < 100000) (hth : th.length < 1000) (hws : ws.length < 1000)
    {rest : Array GenState × Drawn × OsState} (p : Pos) (s : Shared) (R : Result → Shared → Prop) (hk : ∀ a o, (E2 w).kt.get a = some o → s.heap.get? a = some o) (hr : (s.gens, s.drawn, s.os) = rest)
    (L : Loc (E2 w).kt s [(φ, sh.o w.params), (ri, riN (k : Nat) ((r + 1 : Nat) : Int)), (acc, listO accs ea), (b.cc, cellO (.int c ct)), (ta, listO (intsV th) 0), (wa, listO (intsV ws) 0)])
    (next : ∀ (t3 kt : Tok) (a' ta' wa' : Addr) (u : Tok) (ea' top tok : Nat) p' s', AtH (E2 w).kt rest s.heap [φ, ri, acc, b.cc, ta, wa]
      [(φ, (sh.withK t3 (.int (k : Nat) kt)).o w.params), (ri, riN ((k + 1 : Nat) : Int) (r : Nat)), (acc, listO (accs ++ [.ref a']) ea'), (b.cc, cellO (.int c ct)), (ta, listO (intsV th) 0), (wa, listO (intsV ws) 0),
       (a', listO [.ref ta', .ref wa'] 0), (ta', listO ((intsV th).take k ++ (intsV th).drop (k + 1)) 0), (wa', listO (intsV ws ++ [.int (c - x.1 + 1) u]) 0)] top tok s' →
      wpCode (E2 w).M (Γof (wyC1 φ ri acc b.L b.cc) (b.l1 φ it acc q)) R p' s') :
    wpCode (E2 w).M (Γof (wyC1 φ ri acc b.L b.cc) (b.l1 φ it acc q)) R p s := by
  have hkl : k < th.length := (List.getElem?_eq_some_iff.mp hx).1
  refine wp_run (E2 w) den_eq 100000 (b.l1 φ it acc q) _ p s _ L hk hr R (fun N K => .dat 4 [2, 2] [1] (fRn k r) (0, 0, 0) fun d1 =>
    .dat 20 [0, 1, 0, 1, 1, 5, 5, 5, 5] [4, 6] (fNew (listO ((intsV th).take k) 0) [listO (intsV th) 0, slO .none (.int (k : Nat) d1.1) .none]) (0, 0, 0) fun d2 =>
    .dat 19 [1, 1, 5, 5, 5, 5] [4, 8] (fNew (listO ((intsV th).drop (k + 1)) 0) [listO (intsV th) 0, slO (.int ((k + 1 : Nat) : Int) (d2.2.2 + 1)) .none .none]) (0, 0, 0) fun d3 =>
    .dat 9 [8, 10, 8, 8] [7, 9] (fNew (listO ((intsV th).take k ++ (intsV th).drop (k + 1)) 0) [listO ((intsV th).take k) 0, listO ((intsV th).drop (k + 1)) 0]) (0, 0, 0) fun d4 =>
    .dat 17 [1, 4, 1, 1, 5, 5, 5, 5] [4] (fItm (.int x.1 x.2) (listO (intsV th) 0)) (0, 0) fun d5 =>
    .dat 20 [6, 12, 6, 6] [5, 11] (fNew (listO (intsV ws ++ [.int (c - x.1 + 1) (d5.2 + 2)]) 0) [listO (intsV ws) 0, listO [.int (c - x.1 + 1) (d5.2 + 2)] 0]) (0, 0, 0) fun d6 =>
    .dat 5 [3] [2] (fApp accs (.ref (d6.2.1 + 0))) (0, 0, 0) fun d7 => .fin 1 []) fun N K hN hK => fun d1 => fun d2 => fun d3 => fun d4 => fun d5 => fun d6 => fun d7 => ?_
  obtain ⟨bL, bcc, bfit, bp1, bp2, bs5, be5, bp5, bp6⟩ := b
  refine FinI.mk' [] [(none, .builtin "range_iterator.__next__" ⟨[.ref ri], []⟩, [(ri, riN (k : Nat) ((r + 1 : Nat) : Int))]),
      (none, .builtin "list.__getitem__" ⟨[.ref ta, .ref (d1.2.1 + 0)], []⟩, [(ta, listO (intsV th) 0), (d1.2.1 + 0, slO .none (.int (k : Nat) d1.1) .none)]),
      (none, .builtin "list.__getitem__" ⟨[.ref ta, .ref (d2.2.1 + 0)], []⟩, [(ta, listO (intsV th) 0), (d2.2.1 + 0, slO (.int ((k + 1 : Nat) : Int) (d2.2.2 + 1)) .none .none)]),
      (none, .builtin "list.__add__" ⟨[.ref d2.1, .ref d3.1], []⟩, [(d2.1, listO ((intsV th).take k) 0), (d3.1, listO ((intsV th).drop (k + 1)) 0)]),
      (none, .builtin "list.__getitem__" ⟨[.ref ta, .int (Int.ofNat k) d1.1], []⟩, [(ta, listO (intsV th) 0)]),
      (none, .builtin "list.__add__" ⟨[.ref wa, .ref (d5.1 + 0)], []⟩, [(wa, listO (intsV ws) 0), (d5.1 + 0, listO [.int (c - x.1 + 1) (d5.2 + 2)] 0)]),
      (none, .builtin "list.append" ⟨[.ref acc, .ref (d6.2.1 + 0)], []⟩, [(acc, listO accs ea)])] (.nxt (wyC1 φ ri acc bL bcc))
      [(φ, (sh.withK (d1.2.2 + 0) (.int (k : Nat) d1.1)).o w.params), (ri, riN ((k + 1 : Nat) : Int) (r : Nat)), (acc, listO (accs ++ [.ref (d6.2.1 + 0)]) d7.1), (bcc, cellO (.int c ct)), (ta, listO (intsV th) 0), (wa, listO (intsV ws) 0),
       (d6.2.1 + 0, listO [.ref d4.1, .ref d6.1] 0), (d4.1, listO ((intsV th).take k ++ (intsV th).drop (k + 1)) 0), (d6.1, listO (intsV ws ++ [.int (c - x.1 + 1) (d5.2 + 2)]) 0)]
      (d7.2.1, 0) (d7.2.2, 0) [0, 1, 2, 3, 4, 5, 13, 10, 12] ?_ (fun _ h => (nomatch h)) ?_ rfl (fun p' s' A => next _ _ _ _ _ _ _ _ _ p' s' A)
  · cases sh with
    | z => exact hsh.elim
    | two t1 t2 v1 v2 =>
      obtain ⟨rfl, rfl⟩ := hsh
      kernel_rfl
    | three t1 t2 t3 v1 v2 v3 =>
      obtain ⟨rfl, rfl⟩ := hsh
      kernel_rfl
  · have hl := intsV_len th
    have hl2 := intsV_len ws
    exact ⟨fun b => (ctF_rnext _ b _ _ _).toH, fun b => (ctF_slice _ b _ _ _ _ _ _ _ none (some (k : Int)) none .none (.int _ _) .none (by decide) (by omega) _ (pick_upto _ _ (by omega))).toH,
      fun b => (ctF_slice _ b _ _ _ _ _ _ _ (some ((k + 1 : Nat) : Int)) none none (.int _ _) .none .none (by decide) (by omega) _ (pick_from _ _ (by omega))).toH,
      fun b => (ctF_ladd _ b _ _ _ _ _ _ (by simp; omega) (by simp; omega)).toH, fun b => (ctF_item _ b _ _ _ k _ _ (intsV_at hx) (by omega)).toH,
      fun b => (ctF_ladd _ b _ _ _ _ _ _ (by omega) (by simp)).toH, fun b => (ctF_append _ b _ _ _ _ hacc).toH, trivial⟩
end Mine
end
noncomputable section
namespace Mine
open PySem PySem.W PySem.W.X

noncomputable def WAY.v (W : WAY) : List Int × List Int := (W.th.map (·.1), W.ws.map (·.1))
noncomputable def goAt (c : Int) (p : List Int × List Int) (k : Nat) : List Int × List Int := (p.1.take k ++ p.1.drop (k + 1), p.2 ++ [c - (p.1[k]?).getD 0 + 1])
theorem cat_perm {α : Type} (a b c : List α) : (a ++ (b ++ c)).Perm (a ++ b ++ c) := by rw [List.append_assoc]

noncomputable def Sh.is2 : Sh → Bool
  | .two .. => true
  | _ => false
noncomputable def Sh.is3 : Sh → Bool
  | .three .. => true
  | _ => false
theorem go1_end (w : WK) (b : Wb) (φ it ri acc : Addr) (q : Pos) (k : Nat) (fo ao : Obj)
    {rest : Array GenState × Drawn × OsState} (p : Pos) (s : Shared) (R : Result → Shared → Prop) (hk : ∀ a o, (E2 w).kt.get a = some o → s.heap.get? a = some o) (hr : (s.gens, s.drawn, s.os) = rest)
    (L : Loc (E2 w).kt s [(ri, riN (k : Nat) 0)])
    (next : ∀ top tok s', AtH (E2 w).kt rest s.heap [ri] [(ri, riN (k : Nat) 0)] top tok s' → R (.ok .next) s') :
    wpCode (E2 w).M (Γof (wyC1 φ ri acc b.L b.cc) (b.l1 φ it acc q)) R p s := by
  refine wp_run (E2 w) den_eq 100000 (b.l1 φ it acc q) _ p s _ L hk hr R (fun N K => .fin 14 [1, 1, 1, 1, 1, 3]) fun N K hN hK => ?_
  obtain ⟨bL, bcc, bfit, bp1, bp2, bs5, be5, bp5, bp6⟩ := b
  refine FinI.mk' [] [] (.ans (.ok .next)) [(ri, riN (k : Nat) 0)] (N, 2) (K, 0) [0] ?_ (fun _ h => (nomatch h)) trivial rfl (fun s' A => next _ _ s' A)
  kernel_rfl

theorem go1_loop (w : WK) (b : Wb) (φ it ri acc ta wa : Addr) (q : Pos) (c : Int) (ct : Tok) (th ws : List It) (hth : th.length < 1000) (hws : ws.length < 1000)
    {rest : Array GenState × Drawn × OsState} {m0 : List Addr} {s0 : Shared} (R : Result → Shared → Prop) : ∀ (r k : Nat) (sh : Sh) (accs : List Value) (ea : Nat) (extra : List (Addr × Obj)) (p : Pos) (s : Shared), k + r = th.length → sh.has (.ref ta) (.ref wa) → accs.length + r < 100000 →
    At (E2 w).kt rest m0 s0 s ([(φ, sh.o w.params), (ri, riN (k : Nat) (r : Nat)), (acc, listO accs ea), (b.cc, cellO (.int c ct)), (ta, listO (intsV th) 0), (wa, listO (intsV ws) 0)] ++ extra) →
    (∀ (news : List WAY) (sh' : Sh) (ea' : Nat) (s' : Shared), sh'.has (.ref ta) (.ref wa) → (1 ≤ r ∨ sh.is3 = true → sh'.is3 = true) → news.map WAY.v = (List.range' k r).map (goAt c (th.map (·.1), ws.map (·.1))) →
      At (E2 w).kt rest m0 s0 s' ([(φ, sh'.o w.params), (acc, listO (accs ++ news.map WAY.ref) ea'), (b.cc, cellO (.int c ct)), (ta, listO (intsV th) 0), (wa, listO (intsV ws) 0)] ++ (news.flatMap WAY.objs ++ extra)) → R (.ok .next) s') →
    wpCode (E2 w).M (Γof (wyC1 φ ri acc b.L b.cc) (b.l1 φ it acc q)) R p s
  | 0, k, sh, accs, ea, extra, p, s, hkr, hsh, hacc, h, hR => by
    have h' : At (E2 w).kt rest m0 s0 s ([(ri, riN (k : Nat) 0)] ++ ([(φ, sh.o w.params), (acc, listO accs ea), (b.cc, cellO (.int c ct)), (ta, listO (intsV th) 0), (wa, listO (intsV ws) 0)] ++ extra)) := h.perm (List.Perm.swap _ _ _)
    refine go1_end w b φ it ri acc q k default default p s R h.since.ktk h.since.rest h'.left.loc fun top tok s' A => ?_
    have := h'.step rfl A
    exact hR [] sh ea s' hsh (fun h => h.elim (fun h => absurd h (by omega)) id) rfl (by rw [show accs ++ List.map WAY.ref [] = accs from List.append_nil accs]; exact this.pk2 [extra] [1, 2, 3, 4, 5, 6] rfl)
  | r + 1, k, sh, accs, ea, extra, p, s, hkr, hsh, hacc, h, hR => by
    have hkl : k < th.length := by omega
    refine go1_turn w b sh φ it ri acc ta wa q k r accs ea c ct th ws th[k] hsh (List.getElem?_eq_getElem hkl) (by omega) hth hws p s R h.since.ktk h.since.rest h.left.loc ?_
    intro t3 kt a' ta' wa' u ea' top tok p' s' A
    have h2 := h.step rfl A
    let W' : WAY := ⟨a', ta', wa', th.take k ++ th.drop (k + 1), ws ++ [(c - th[k].1 + 1, u)]⟩
    have e1 : (intsV th).take k ++ (intsV th).drop (k + 1) = intsV W'.th := by simp [intsV, W']
    have e2 : intsV ws ++ [.int (c - th[k].1 + 1) u] = intsV W'.ws := by simp [intsV, W']
    rw [e1, e2] at h2
    have hsh' : (sh.withK t3 (.int (k : Nat) kt)).has (.ref ta) (.ref wa) := by cases sh <;> exact hsh
    refine go1_loop w b φ it ri acc ta wa q c ct th ws hth hws R r (k + 1) _ (accs ++ [.ref a']) ea' (W'.objs ++ extra) p' s' (by omega) hsh' (by simp; omega) h2 ?_
    intro news sh' ea'' s'' hs' h3 hv hA
    have hw : (sh.withK t3 (.int (k : Nat) kt)).is3 = true := by cases sh <;> first | rfl | exact hsh.elim
    refine hR (W' :: news) sh' ea'' s'' hs' (fun _ => h3 (.inr hw)) ?_ ?_
    · rw [List.map_cons, hv, List.range'_succ, List.map_cons]
      congr 1
      unfold WAY.v goAt
      simp only [W', List.map_append, List.map_take, List.map_drop, List.map_cons, List.map_nil, List.getElem?_map, List.getElem?_eq_getElem hkl, Option.map_some, Option.getD_some]
    · have e3 : accs ++ (W' :: news).map WAY.ref = accs ++ [.ref a'] ++ news.map WAY.ref := by simp [WAY.ref, W']
      rw [e3]
      exact hA.pkx [extra] [0, 1, 2, 3, 4, 6, 7, 8, 5, 9] rfl
end Mine
end
noncomputable section
namespace Mine
open PySem PySem.W PySem.W.X
open PySem.Sem (wp finPost)

/-! ## a code that begins by asking the world: both answers -/
noncomputable def askK (t : Sem Fin) (S : Setting) : Sem Fin := match t with
  | .ask k => k S
  | t => t
noncomputable def isAsk (t : Sem Fin) : Bool := match t with
  | .ask _ => true
  | _ => false
noncomputable def xAsk (E : En) (c : Code) (p : Pos) (pre : List (Addr × Obj)) (N K : Nat) (b : Bool) : X := ⟨c, p, askK (E.dn c) (Srow E.set0 b), [], ⟨treeOf pre, pre.length, N, 0, K, 0⟩, [], acc0⟩
theorem wp_ask (E : En) (hdn : denote table = E.dn) (F : Nat) (bel : List (Code × Pos)) (c : Code) (r : Nat) (h1 : isAsk (E.dn c) = true) (h2 : askK (E.dn c) = fun S => askK (E.dn c) (Srow S (S.params.followText (rowName r))))
    (p : Pos) (s : Shared) (pre : List (Addr × Obj)) {rest : Array GenState × Drawn × OsState} (L : Loc E.kt s pre) (hk : ∀ a o, E.kt.get a = some o → s.heap.get? a = some o) (hr : (s.gens, s.drawn, s.os) = rest)
    (R₀ : Result → Shared → Prop) (T : Bool → Nat → Nat → Tele) (h : ∀ b N K, (T b N K).All fun is Qs n hs => FinI (E.on bel) F s.heap (pre.map fun x : Addr × Obj => x.1) rest R₀ (xAsk E c p pre N K b) is Qs n hs) : wpCode E.M (Γof c bel) R₀ p s := by
  refine (code_means (E.on bel) hdn R₀ (κ := [])).mpr ?_
  show Means E.M bel R₀ c p (E.dn c) [] s
  cases ht : E.dn c with
  | ask k =>
    rw [ht] at h2
    have h2 : k = fun S => k (Srow S (S.params.followText (rowName r))) := h2
    show wp _ _ (.ask k) _ _ p s
    rw [h2]
    show wp _ _ (k (Srow E.set0 (E.set0.params.followText (rowName r)))) _ _ p s
    generalize E.set0.params.followText (rowName r) = b
    have := run_sound' (E.on bel) hdn F s.heap (pre.map fun x : Addr × Obj => x.1) rest R₀ (T b s.heap.objs.size s.toks) (xAsk E c p pre s.heap.objs.size s.toks b) (h b _ _) s (L.start hk hr)
    have this : Means E.M bel R₀ c p (askK (E.dn c) (Srow E.set0 b)) [] s := this
    rw [ht] at this
    exact this
  | _ => rw [ht] at h1; cases h1
end Mine
end
noncomputable section
namespace Mine
open PySem PySem.W PySem.W.X

theorem ctF_rangeIt (w : WK) (bel : List (Code × Pos)) (x : Addr) (n : Nat) (a b c : Tok) (ht : n ≤ 4) : Ctr (E2 w) bel (.builtin "range.__iter__" ⟨[.ref x], []⟩) [(x, rangeO n a b c)] (QF (fNew (riN 0 n) [rangeO n a b c])) := by
  refine Ctr.run den_eq 100000 (fun N K p => .fin 4 [1, 1, 1]) fun rest s N K p => ?_
  refine FinI.mk' [] [] (.ans (.ok (.ret (.ref (N + 0))))) [(x, rangeO n a b c), (N + 0, riN 0 n)] (N, 1) (K, 0) [0, 1] ?_ (fun _ h => (nomatch h)) trivial rfl (fun s' A => ⟨_, rfl, ⟨(_, _, _), rfl⟩, Post.of (upd := [(x, rangeO n a b c)]) (new := [(N + 0, riN 0 n)]) A rfl⟩)
  match n, ht with
  | 0, _ => kernel_rfl
  | 1, _ => kernel_rfl
  | 2, _ => kernel_rfl
  | 3, _ => kernel_rfl
  | 4, _ => kernel_rfl
  | n + 5, h => omega

noncomputable def wyS (e : PySem.Expr) (φ it acc L cc : Addr) : Code := .compStart e 0 (.ref it) (.ref acc) (wcEnv e φ L cc)
noncomputable def wyS1 (φ ri acc L cc : Addr) : Code := .compStart wyGo 1 (.ref ri) (.ref acc) (wcEnv wyGo φ L cc)
noncomputable def tSt (b : Bool) : Tele := match b with
  | true => .fin 0 []
  | false => .fin 10 [1, 1, 1, 0, 0, 1, 1]
/-- a comprehension asks its iterator for itself -/
theorem go1_start (w : WK) (b : Wb) (φ it ri acc : Addr) (q : Pos) (k : Nat)
    {rest : Array GenState × Drawn × OsState} (p : Pos) (s : Shared) (R : Result → Shared → Prop) (n : Nat) (hk : ∀ a o, (E2 w).kt.get a = some o → s.heap.get? a = some o) (hr : (s.gens, s.drawn, s.os) = rest)
    (L : Loc (E2 w).kt s [(ri, riN (k : Nat) (n : Nat))])
    (next : ∀ top tok p' s', AtH (E2 w).kt rest s.heap [ri] [(ri, riN (k : Nat) (n : Nat))] top tok s' → wpCode (E2 w).M (Γof (wyC1 φ ri acc b.L b.cc) (b.l1 φ it acc q)) R p' s') :
    wpCode (E2 w).M (Γof (wyS1 φ ri acc b.L b.cc) (b.l1 φ it acc q)) R p s := by
  obtain ⟨bL, bcc, bfit, bp1, bp2, bs5, be5, bp5, bp6⟩ := b
  refine wp_ask (E2 w) den_eq 100000 (Wb.l1 ⟨bL, bcc, bfit, bp1, bp2, bs5, be5, bp5, bp6⟩ φ it acc q) _ 2 (by kernel_rfl) (by kernel_rfl) p s _ L hk hr R (fun b N K => tSt b) fun b N K => ?_
  cases b <;> exact FinI.mk' [] [] (.nxt (wyC1 φ ri acc bL bcc)) [(ri, riN (k : Nat) (n : Nat))] (N, 0) (K, 0) [0] (by kernel_rfl) (fun _ h => (nomatch h)) trivial rfl (fun p' s' A => next _ _ p' s' A)
theorem come_start (w : WK) (b : Wb) (e : PySem.Expr) (he : e = wyCome ∨ e = wyGo) (φ it acc l : Addr) (i : Nat)
    {rest : Array GenState × Drawn × OsState} (p : Pos) (s : Shared) (R : Result → Shared → Prop) (hk : ∀ a o, (E2 w).kt.get a = some o → s.heap.get? a = some o) (hr : (s.gens, s.drawn, s.os) = rest)
    (L : Loc (E2 w).kt s [(it, liO l i)])
    (next : ∀ top tok p' s', AtH (E2 w).kt rest s.heap [it] [(it, liO l i)] top tok s' → wpCode (E2 w).M (Γof (wyC e φ it acc b.L b.cc) b.l) R p' s') :
    wpCode (E2 w).M (Γof (wyS e φ it acc b.L b.cc) b.l) R p s := by
  obtain ⟨bL, bcc, bfit, bp1, bp2, bs5, be5, bp5, bp6⟩ := b
  refine wp_ask (E2 w) den_eq 100000 (Wb.l ⟨bL, bcc, bfit, bp1, bp2, bs5, be5, bp5, bp6⟩) _ 2 (by rcases he with rfl | rfl <;> kernel_rfl) (by rcases he with rfl | rfl <;> kernel_rfl) p s _ L hk hr R (fun b N K => tSt b) fun b N K => ?_
  cases b <;> exact FinI.mk' [] [] (.nxt (wyC e φ it acc bL bcc)) [(it, liO l i)] (N, 0) (K, 0) [0] (by rcases he with rfl | rfl <;> kernel_rfl) (fun _ h => (nomatch h)) trivial rfl (fun p' s' A => next _ _ p' s' A)
/-- the end of a comprehension over a list -/
theorem come_end (w : WK) (b : Wb) (e : PySem.Expr) (he : e = wyCome ∨ e = wyGo) (φ it acc l : Addr) (i : Nat) (xs : List Value) (el : Nat) (hx : xs[i]? = none)
    {rest : Array GenState × Drawn × OsState} (p : Pos) (s : Shared) (R : Result → Shared → Prop) (hk : ∀ a o, (E2 w).kt.get a = some o → s.heap.get? a = some o) (hr : (s.gens, s.drawn, s.os) = rest)
    (L : Loc (E2 w).kt s [(it, liO l i), (l, listO xs el)])
    (next : ∀ top tok s', AtH (E2 w).kt rest s.heap [it, l] [(it, liEn i), (l, listO xs el)] top tok s' → R (.ok .next) s') :
    wpCode (E2 w).M (Γof (wyC e φ it acc b.L b.cc) b.l) R p s := by
  refine wp_run (E2 w) den_eq 100000 b.l _ p s _ L hk hr R (fun N K => .dat 4 [1, 1] [0, 1] (fLe i (listO xs el)) (0, 0, 0, 0) fun d1 => .fin 2 [3]) fun N K hN hK => fun d => ?_
  obtain ⟨bL, bcc, bfit, bp1, bp2, bs5, be5, bp5, bp6⟩ := b
  refine FinI.mk' [] [(none, .builtin "list_iterator.__next__" ⟨[.ref it], []⟩, [(it, liO l i), (l, listO xs el)])] (.ans (.ok .next)) [(it, liEn i), (l, listO xs el)] (d.2.2.1, 0) (d.2.2.2, 0) [0, 1] ?_ (fun _ h => (nomatch h)) ⟨fun b => (ctF_lend w b _ _ _ _ _ hx).toH, trivial⟩ rfl (fun s' A => next _ _ s' A)
  rcases he with rfl | rfl <;> kernel_rfl

noncomputable def h72 : List Nat := [2, 6, 6, 6, 1, 0, 0, 6, 9, 9, 9, 9, 9, 6, 9, 8, 9, 9, 9, 9, 6, 9, 8, 9, 9, 9, 9, 6, 9, 8, 11, 0, 1, 0, 0, 1, 0, 0, 0, 0, 0, 1]
/-- the dict behind the names of a way -/
noncomputable def Sh.named (t1 t2 : Tok) (v1 v2 : Value) : Sh → Sh
  | .z => .two t1 t2 v1 v2
  | .two t1' t2' _ _ => .two t1' t2' v1 v2
  | .three t1' t2' t3 _ _ v3 => .three t1' t2' t3 v1 v2 v3
theorem go_turn (w : WK) (b : Wb) (sh : Sh) (φ it acc l : Addr) (i : Nat) (accs xs : List Value) (ea el : Nat) (c : Int) (ct : Tok) (W : WAY) (hx : xs[i]? = some W.ref) (hacc : accs.length < 10000) (hth : W.th.length ≤ 4) (hws : W.ws.length < 1000)
    {rest : Array GenState × Drawn × OsState} {m0 : List Addr} {s0 : Shared} (extra : List (Addr × Obj)) (p : Pos) (s : Shared) (R : Result → Shared → Prop)
    (h : At (E2 w).kt rest m0 s0 s ([(φ, sh.o w.params), (it, liO l i), (acc, listO accs ea), (b.cc, cellO (.int c ct)), (l, listO xs el)] ++ W.objs ++ extra))
    (next : ∀ (news : List WAY) (sh' : Sh) (ea' : Nat) p' s', (W.th ≠ [] → sh'.is3 = true) → (sh.is3 = true → sh'.is3 = true) → news.map WAY.v = (List.range W.th.length).map (goAt c W.v) →
      At (E2 w).kt rest m0 s0 s' ([(φ, sh'.o w.params), (it, liO l (i + 1)), (acc, listO (accs ++ news.map WAY.ref) ea'), (b.cc, cellO (.int c ct)), (l, listO xs el)] ++ (news.flatMap WAY.objs ++ extra)) →
      wpCode (E2 w).M (Γof (wyC wyGo φ it acc b.L b.cc) b.l) R p' s') :
    wpCode (E2 w).M (Γof (wyC wyGo φ it acc b.L b.cc) b.l) R p s := by
  have hl := intsV_len W.th
  refine wp_run (E2 w) den_eq 100000 b.l _ p s _ h.left.loc h.since.ktk h.since.rest R (fun N K => .dat 4 [2, 2] [1, 4] (fLn l i W.ref (listO xs el)) (0, 0) fun d1 =>
    .dat 72 h72 [6] (fLen (intsV W.th).length (listO (intsV W.th) 0)) (0, 0, 0) fun d2 =>
    .dat 6 [] [] (fRg ((intsV W.th).length : Nat) d2.1) (0, 0, 0, 0, 0) fun d3 =>
    .dat 16 [12, 12, 12, 12, 12, 12, 1, 0, 0, 12] [11] (fNew (riN 0 ((intsV W.th).length : Nat)) [rangeO ((intsV W.th).length : Nat) d3.2.1 d2.1 d3.2.2.1]) (0, 0, 0) fun d4 => .fin 2 [13]) fun N K hN hK => fun d1 => fun d2 => fun d3 => fun d4 => ?_
  refine FinI.mk' [] [(none, .builtin "list_iterator.__next__" ⟨[.ref it], []⟩, [(it, liO l i), (l, listO xs el)]),
      (none, .builtin "len" ⟨[.ref W.ta], []⟩, [(W.ta, listO (intsV W.th) 0)]),
      (none, .builtin "range.__new__" ⟨[.type "range", .int ((intsV W.th).length : Nat) d2.1], []⟩, []),
      (none, .builtin "range.__iter__" ⟨[.ref d3.1], []⟩, [(d3.1, rangeO ((intsV W.th).length : Nat) d3.2.1 d2.1 d3.2.2.1)])] (.cal (wyS1 φ d4.1 acc b.L b.cc) (b.l1 φ it acc ⟨114, 114, 114, 131⟩))
      ([(φ, (sh.named (d1.2 + 0) (d1.2 + 1) (.ref W.ta) (.ref W.wa)).o w.params), (it, liO l (i + 1)), (acc, listO accs ea), (b.cc, cellO (.int c ct)), (l, listO xs el)] ++ W.objs ++ [(d4.1, riN 0 ((intsV W.th).length : Nat))])
      (d4.2.1, 0) (d4.2.2, 0) [0, 1, 2, 3, 4, 5, 6, 7, 12] ?_ (fun _ h => (nomatch h)) ?_ rfl ?_
  · obtain ⟨bL, bcc, bfit, bp1, bp2, bs5, be5, bp5, bp6⟩ := b
    cases sh <;> kernel_rfl
  · exact ⟨fun b => (ctF_lnext _ b _ _ _ _ _ _ hx).toH, fun b => (ctF_len _ b _ _ _ (by omega)).toH, fun b => (ctF_range w b _ _).toH, fun b => (ctF_rangeIt w b _ _ _ _ _ (by omega)).toH, trivial⟩
  · intro p' s' A
    have h2 := h.step rfl A
    have hsh' : (sh.named (d1.2 + 0) (d1.2 + 1) (.ref W.ta) (.ref W.wa)).has (.ref W.ta) (.ref W.wa) := by cases sh <;> exact ⟨rfl, rfl⟩
    have hs3 : sh.is3 = true → (sh.named (d1.2 + 0) (d1.2 + 1) (.ref W.ta) (.ref W.wa)).is3 = true := by cases sh <;> simp [Sh.is3, Sh.named]
    generalize sh.named (d1.2 + 0) (d1.2 + 1) (.ref W.ta) (.ref W.wa) = sh1 at h2 hsh' hs3
    rw [hl] at h2
    have h3 : At (E2 w).kt rest m0 s0 s' ([(d4.1, riN (0 : Nat) (W.th.length : Nat))] ++ ([(φ, sh1.o w.params), (acc, listO accs ea), (b.cc, cellO (.int c ct)), (W.ta, listO (intsV W.th) 0), (W.wa, listO (intsV W.ws) 0)] ++
        ([(it, liO l (i + 1)), (l, listO xs el)] ++ extra))) := h2.pk [extra] [8, 0, 2, 3, 6, 7, 1, 4, 9] rfl
    refine go1_start w b φ it d4.1 acc _ 0 p' s' _ W.th.length h3.since.ktk h3.since.rest h3.left.loc fun top tok p2 s2 A2 => ?_
    have h4 := h3.step rfl A2
    have h5 : At (E2 w).kt rest m0 s0 s2 ([(φ, sh1.o w.params), (d4.1, riN (0 : Nat) (W.th.length : Nat)), (acc, listO accs ea), (b.cc, cellO (.int c ct)), (W.ta, listO (intsV W.th) 0), (W.wa, listO (intsV W.ws) 0)] ++
        ([(it, liO l (i + 1)), (l, listO xs el)] ++ extra)) := h4.perm (List.Perm.swap _ _ _)
    refine go1_loop w b φ it d4.1 acc W.ta W.wa _ c ct W.th W.ws (by omega) (by omega) _ W.th.length 0 sh1 accs ea _ p2 s2 (by omega) hsh' (by omega) h5 ?_
    intro news sh' ea' s3 hsh3 hi3 hv h6
    refine run_on (E2 w) den_eq 100000 b.l _ _ s3 [] (rest := rest) ⟨fun _ h => (nomatch h), List.nodup_nil, fun _ h => (nomatch h)⟩ h6.since.ktk h6.since.rest R (fun N K => .fin 0 []) fun N' K' _ _ => ?_
    refine FinI.mk' [] [] (.nxt (wyC wyGo φ it acc b.L b.cc)) [] (N', 0) (K', 0) [] ?_ (fun _ h => (nomatch h)) trivial rfl fun p4 s4 A4 => ?_
    · obtain ⟨bL, bcc, bfit, bp1, bp2, bs5, be5, bp5, bp6⟩ := b
      cases sh <;> kernel_rfl
    · have h7 := h6.step0 A4
      refine next news sh' ea' p4 s4 (fun hne => hi3 (.inl (List.length_pos_iff.mpr hne))) (fun h => hi3 (.inr (hs3 h))) (by rw [hv, List.range_eq_range']; rfl) (h7.pkx [extra] [0, 6, 1, 2, 7, 5, 8] rfl)
end Mine
end
noncomputable section
namespace Mine
open PySem PySem.W PySem.W.X

theorem drop_head {α : Type} {xs : List α} {i : Nat} {x : α} {ys : List α} (h : xs.drop i = x :: ys) : xs[i]? = some x ∧ xs.drop (i + 1) = ys := by
  have h1 : (xs.drop i)[0]? = some x := by rw [h]; rfl
  rw [List.getElem?_drop, Nat.add_zero] at h1
  refine ⟨h1, ?_⟩
  rw [← List.drop_drop, h]; rfl
theorem drop_none {α : Type} {xs : List α} {i : Nat} (h : xs.drop i = []) : xs[i]? = none := by
  have := List.drop_eq_nil_iff.mp h
  exact List.getElem?_eq_none this
noncomputable def comeAt (c : Int) (p : List Int × List Int) : List Int × List Int := (p.1 ++ [c], p.2)

section
variable (w : WK) (b : Wb) (φ it acc l : Addr) (xs : List Value) (el : Nat) (c : Int) (ct : Tok) {rest : Array GenState × Drawn × OsState} {m0 : List Addr} {s0 : Shared} (R : Result → Shared → Prop)
theorem come_loop : ∀ (todo : List WAY) (i : Nat) (sh : Sh) (accs : List Value) (ea : Nat) (extra : List (Addr × Obj)) (p : Pos) (s : Shared), xs.drop i = todo.map WAY.ref → (∀ t1 t2 t3 v1 v2 v3, sh ≠ .three t1 t2 t3 v1 v2 v3) → (∀ W ∈ todo, W.th.length < 1000) → accs.length + todo.length < 100000 →
    At (E2 w).kt rest m0 s0 s ([(φ, sh.o w.params), (it, liO l i), (acc, listO accs ea), (b.cc, cellO (.int c ct)), (l, listO xs el)] ++ (todo.flatMap WAY.objs ++ extra)) →
    (∀ (news : List WAY) (sh' : Sh) (ea' : Nat) (s' : Shared), (todo ≠ [] ∨ sh.is2 = true → sh'.is2 = true) → news.map WAY.v = (todo.map fun W => comeAt c W.v) →
      At (E2 w).kt rest m0 s0 s' ([(φ, sh'.o w.params), (acc, listO (accs ++ news.map WAY.ref) ea'), (b.cc, cellO (.int c ct)), (l, listO xs el)] ++ (news.flatMap WAY.objs ++ extra)) → R (.ok .next) s') →
    wpCode (E2 w).M (Γof (wyC wyCome φ it acc b.L b.cc) b.l) R p s
  | [], i, sh, accs, ea, extra, p, s, hd, hsh, hT, hacc, h, hR => by
    have h' : At (E2 w).kt rest m0 s0 s ([(it, liO l i), (l, listO xs el)] ++ ([(φ, sh.o w.params), (acc, listO accs ea), (b.cc, cellO (.int c ct))] ++ extra)) := h.pk [extra] [1, 4, 0, 2, 3, 5] rfl
    refine come_end w b wyCome (.inl rfl) φ it acc l i xs el (drop_none hd) p s R h.since.ktk h.since.rest h'.left.loc fun top tok s' A => ?_
    have := h'.step rfl A
    refine hR [] sh ea s' (fun h => h.elim (fun h => absurd rfl h) id) rfl (by rw [show accs ++ List.map WAY.ref [] = accs from List.append_nil accs]; exact this.pk2 [extra] [2, 3, 4, 1, 5] rfl)
  | W :: todo, i, sh, accs, ea, extra, p, s, hd, hsh, hT, hacc, h, hR => by
    obtain ⟨hx, hd'⟩ := drop_head hd
    have h' : At (E2 w).kt rest m0 s0 s (([(φ, sh.o w.params), (it, liO l i), (acc, listO accs ea), (b.cc, cellO (.int c ct)), (l, listO xs el)] ++ W.objs) ++ (todo.flatMap WAY.objs ++ extra)) := h
    refine come_turn w b sh hsh φ it acc l i accs xs ea el c ct W hx (by rw [List.length_cons] at hacc; omega) (hT W (.head _)) p s R h.since.ktk h.since.rest h'.left.loc ?_
    intro t1 t2 a' ta' ea' top tok p' s' A
    have h2 := h'.step rfl A
    let W' : WAY := ⟨a', ta', W.wa, W.th ++ [(c, ct)], W.ws⟩
    have e1 : intsV W.th ++ [.int c ct] = intsV W'.th := by simp [intsV, W']
    rw [e1] at h2
    have h3 : At (E2 w).kt rest m0 s0 s' ([(φ, (Sh.two t1 t2 (.ref W.ta) (.ref W.wa)).o w.params), (it, liO l (i + 1)), (acc, listO (accs ++ [.ref a']) ea'), (b.cc, cellO (.int c ct)), (l, listO xs el)] ++ (todo.flatMap WAY.objs ++ (W'.objs ++ extra))) := h2.pk [todo.flatMap WAY.objs, extra] [0, 1, 2, 3, 4, 10, 8, 9, 7, 11] rfl
    refine come_loop todo (i + 1) _ (accs ++ [.ref a']) ea' (W'.objs ++ extra) p' s' hd' (fun _ _ _ _ _ _ h => by cases h) (fun V hV => hT V (.tail _ hV)) (by simp at hacc ⊢; omega) h3 ?_
    intro news sh' ea'' s'' hi2 hv hA
    refine hR (W' :: news) sh' ea'' s'' (fun _ => hi2 (.inr rfl)) ?_ ?_
    · rw [List.map_cons, hv, List.map_cons]
      congr 1
      simp [WAY.v, comeAt, W']
    · have e3 : accs ++ (W' :: news).map WAY.ref = accs ++ [.ref a'] ++ news.map WAY.ref := by simp [WAY.ref, W']
      rw [e3]
      exact hA.pkx [extra] [0, 1, 2, 3, 5, 6, 7, 4, 8] rfl
theorem go_loop : ∀ (todo : List WAY) (i : Nat) (sh : Sh) (accs : List Value) (ea : Nat) (extra : List (Addr × Obj)) (p : Pos) (s : Shared), xs.drop i = todo.map WAY.ref → (∀ W ∈ todo, W.th.length ≤ 4 ∧ W.ws.length < 1000 ∧ W.th ≠ []) → accs.length + 4 * todo.length < 10000 →
    At (E2 w).kt rest m0 s0 s ([(φ, sh.o w.params), (it, liO l i), (acc, listO accs ea), (b.cc, cellO (.int c ct)), (l, listO xs el)] ++ (todo.flatMap WAY.objs ++ extra)) →
    (∀ (news : List WAY) (sh' : Sh) (ea' : Nat) (s' : Shared), (todo ≠ [] ∨ sh.is3 = true → sh'.is3 = true) → (news.map WAY.v = todo.flatMap fun W => (List.range W.th.length).map (goAt c W.v)) →
      At (E2 w).kt rest m0 s0 s' ([(φ, sh'.o w.params), (acc, listO (accs ++ news.map WAY.ref) ea'), (b.cc, cellO (.int c ct)), (l, listO xs el)] ++ (news.flatMap WAY.objs ++ extra)) → R (.ok .next) s') →
    wpCode (E2 w).M (Γof (wyC wyGo φ it acc b.L b.cc) b.l) R p s
  | [], i, sh, accs, ea, extra, p, s, hd, hT, hacc, h, hR => by
    have h' : At (E2 w).kt rest m0 s0 s ([(it, liO l i), (l, listO xs el)] ++ ([(φ, sh.o w.params), (acc, listO accs ea), (b.cc, cellO (.int c ct))] ++ extra)) := h.pk [extra] [1, 4, 0, 2, 3, 5] rfl
    refine come_end w b wyGo (.inr rfl) φ it acc l i xs el (drop_none hd) p s R h.since.ktk h.since.rest h'.left.loc fun top tok s' A => ?_
    have := h'.step rfl A
    refine hR [] sh ea s' (fun h => h.elim (fun h => absurd rfl h) id) rfl (by rw [show accs ++ List.map WAY.ref [] = accs from List.append_nil accs]; exact this.pk2 [extra] [2, 3, 4, 1, 5] rfl)
  | W :: todo, i, sh, accs, ea, extra, p, s, hd, hT, hacc, h, hR => by
    obtain ⟨hx, hd'⟩ := drop_head hd
    rw [List.length_cons] at hacc
    have h' : At (E2 w).kt rest m0 s0 s (([(φ, sh.o w.params), (it, liO l i), (acc, listO accs ea), (b.cc, cellO (.int c ct)), (l, listO xs el)] ++ W.objs) ++ (todo.flatMap WAY.objs ++ extra)) := h
    have hW := hT W (.head _)
    refine go_turn w b sh φ it acc l i accs xs ea el c ct W hx (by omega) hW.1 hW.2.1 (todo.flatMap WAY.objs ++ extra) p s R h' ?_
    intro news sh' ea' p' s' hz _ hv hA
    have hlen : news.length ≤ 4 := by have := congrArg List.length hv; simp at this; omega
    have h3 : At (E2 w).kt rest m0 s0 s' ([(φ, sh'.o w.params), (it, liO l (i + 1)), (acc, listO (accs ++ news.map WAY.ref) ea'), (b.cc, cellO (.int c ct)), (l, listO xs el)] ++ (todo.flatMap WAY.objs ++ (news.flatMap WAY.objs ++ extra))) := hA.pk [news.flatMap WAY.objs, todo.flatMap WAY.objs, extra] [0, 1, 2, 3, 4, 6, 5, 7] rfl
    refine go_loop todo (i + 1) _ (accs ++ news.map WAY.ref) ea' (news.flatMap WAY.objs ++ extra) p' s' hd' (fun V hV => hT V (.tail _ hV)) (by simp; omega) h3 ?_
    intro news2 sh2 ea2 s2 hi3 hv2 hA2
    refine hR (news ++ news2) sh2 ea2 s2 (fun _ => hi3 (.inr (hz hW.2.2))) ?_ ?_
    · rw [List.map_append, hv, hv2, List.flatMap_cons]
    · have e3 : accs ++ (news ++ news2).map WAY.ref = accs ++ news.map WAY.ref ++ news2.map WAY.ref := by simp
      rw [e3, List.flatMap_append, List.append_assoc (news.flatMap WAY.objs)]
      exact hA2.pk [news2.flatMap WAY.objs, news.flatMap WAY.objs, extra] [0, 1, 2, 3, 5, 4, 6] rfl

noncomputable def stepV (b : Bool) (c : Int) (ps : List (List Int × List Int)) : List (List Int × List Int) := match b with
  | true => ps.map (comeAt c)
  | false => ps.flatMap fun p => (List.range p.1.length).map (goAt c p)
noncomputable def exprOf : Bool → PySem.Expr
  | true => wyCome
  | false => wyGo
noncomputable def Sh.full (sh : Sh) (cm : Bool) : Bool := match cm with
  | true => sh.is2
  | false => sh.is3
theorem comp_all (cm : Bool) (ws : List WAY) (extra : List (Addr × Obj)) (p : Pos) (s : Shared) (hxs : xs = ws.map WAY.ref) (hT : ∀ W ∈ ws, W.th.length ≤ 4 ∧ W.ws.length < 1000) (hn : ws.length < 1000) (hne : ws ≠ []) (hg : cm = false → ∀ W ∈ ws, W.th ≠ [])
    (h : At (E2 w).kt rest m0 s0 s ([(φ, Sh.z.o w.params), (it, liO l 0), (acc, listO [] 0), (b.cc, cellO (.int c ct)), (l, listO xs el)] ++ (ws.flatMap WAY.objs ++ extra)))
    (hR : ∀ (news : List WAY) (sh' : Sh) (ea' : Nat) (s' : Shared), sh'.full cm = true → news.map WAY.v = stepV cm c (ws.map WAY.v) →
      At (E2 w).kt rest m0 s0 s' ([(φ, sh'.o w.params), (acc, listO (news.map WAY.ref) ea'), (b.cc, cellO (.int c ct)), (l, listO xs el)] ++ (news.flatMap WAY.objs ++ extra)) → R (.ok .next) s') :
    wpCode (E2 w).M (Γof (wyS (exprOf cm) φ it acc b.L b.cc) b.l) R p s := by
  have h' : At (E2 w).kt rest m0 s0 s ([(it, liO l 0)] ++ ((φ, Sh.z.o w.params) :: ([(acc, listO [] 0), (b.cc, cellO (.int c ct)), (l, listO xs el)] ++ (ws.flatMap WAY.objs ++ extra)))) := h.perm (List.Perm.swap _ _ _)
  refine come_start w b (exprOf cm) (by cases cm <;> simp [exprOf]) φ it acc l 0 p s R h.since.ktk h.since.rest h'.left.loc fun top tok p' s' A => ?_
  have h2 : At (E2 w).kt rest m0 s0 s' ([(φ, Sh.z.o w.params), (it, liO l 0), (acc, listO [] 0), (b.cc, cellO (.int c ct)), (l, listO xs el)] ++ (ws.flatMap WAY.objs ++ extra)) := (h'.step rfl A).perm (List.Perm.swap _ _ _)
  cases cm with
  | true => exact come_loop w b φ it acc l xs el c ct R ws 0 .z [] 0 extra p' s' (by rw [List.drop_zero, hxs]) (fun _ _ _ _ _ _ h => by cases h) (fun W hW => by have := (hT W hW).1; omega) (by simp; omega) h2 (fun news sh' ea' s'' hi hv hA => hR news sh' ea' s'' (hi (.inl hne)) (by rw [hv]; simp [stepV]) hA)
  | false => exact go_loop w b φ it acc l xs el c ct R ws 0 .z [] 0 extra p' s' (by rw [List.drop_zero, hxs]) (fun W hW => ⟨(hT W hW).1, (hT W hW).2, hg rfl W hW⟩) (by simp; omega) h2 (fun news sh' ea' s'' hi hv hA => hR news sh' ea' s'' (hi (.inl hne)) (by rw [hv]; simp [stepV, List.flatMap_map, WAY.v]) hA)
end
end Mine
end
noncomputable section
namespace Mine
open PySem PySem.W PySem.W.X

/-- the frame of _law_ways -/
noncomputable def wyF (P : Params) (t1 t2 : Tok) (dl wl : Addr) : Option (Tok × Bool) → Obj
  | none => ⟨.type "frame", none, .dict #[eD P (S "deeds") t1 (.ref dl), eD P (S "ways") t2 (.ref wl)] 2, #[]⟩
  | some x => ⟨.type "frame", none, .dict #[eD P (S "deeds") t1 (.ref dl), eD P (S "ways") t2 (.ref wl), eD P (S "comes") x.1 (.bool x.2)] 3, #[]⟩
noncomputable def wyCell : Option It → Obj
  | none => ⟨.type "cell", none, .cell none, #[]⟩
  | some x => cellO (.int x.1 x.2)
noncomputable def h80 : List Nat := [2, 6, 6, 6, 1, 0, 0, 6, 7, 7, 7, 7, 7, 6, 7, 6, 7, 7, 7, 7, 6, 7, 6, 7, 7, 7, 7, 6, 7, 6, 9, 0, 1, 0, 4, 3, 1, 1, 5, 5, 1, 0, 0, 5, 10]
noncomputable def wyFC (fit L cc : Addr) : Code := .forLoop (forT wyFor) (.ref fit) (forB wyFor) (forE wyFor) (wyEnv L cc)
noncomputable def posOf : Bool → Pos
  | true => ⟨112, 19, 112, 70⟩
  | false => ⟨114, 19, 114, 132⟩
noncomputable def hsOf : Bool → Nat × List Nat
  | true => (18, [0, 1, 0, 2, 2, 1, 2, 2, 1])
  | false => (23, [0, 1, 0, 2, 2, 1, 2, 2, 1, 2, 2, 1])
noncomputable def wb (L cc fit : Addr) (cm : Bool) (p2 : Pos) (u : Tl) : Wb := ⟨L, cc, fit, posOf cm, p2, u⟩
noncomputable def fBel (L cc : Addr) (p2 : Pos) (u : Tl) : List (Code × Pos) := (.func (fBody fWays) (wyEnv L cc), p2) :: u.l

noncomputable def tkOf (fs : Option (Tok × Bool)) (k : Tok) : Tok := match fs with
  | none => k
  | some x => x.1
section
variable (w : WK) (L cc fit dl wl : Addr) (p2 : Pos) (u : Tl) (t1 t2 : Tok) (fs : Option (Tok × Bool)) (cs : Option It) (i : Nat) (xs : List Value) (ed ew : Nat) (d : DP) (ws : List Value) (p : Pos) (N K : Nat) (d1 : Nat × Nat)
noncomputable def ftPre : List (Addr × Obj) := [(L, wyF w.params t1 t2 dl wl fs), (fit, liO dl i), (dl, listO xs ed), (cc, wyCell cs), (wl, listO ws ew), (d.a, dpO d)]
noncomputable def ftX : Option Res := exec ((E2 w).on (fBel L cc p2 u)) 100000 [.ctr 4 [2, 2] [1, 2] (fLn dl i d.ref (listO xs ed) d1)] 80 h80 (x0 (E2 w) (wyFC fit L cc) p (ftPre w L cc fit dl wl t1 t2 fs cs i xs ed ew d ws) N K)
noncomputable def ftQ : List Qv := [(none, .builtin "list_iterator.__next__" ⟨[.ref fit], []⟩, [(fit, liO dl i), (dl, listO xs ed)])]
noncomputable def ftL1 : List (Addr × Obj) := [(L, wyF w.params t1 t2 dl wl (some (tkOf fs (d1.2 + 0), d.b))), (fit, liO dl (i + 1)), (dl, listO xs ed), (cc, wyCell (some (d.c, d.t))), (d.a, dpO d), (d1.1 + 5, Sh.z.o w.params), (d1.1 + 3, liO wl 0), (d1.1 + 4, listO [] 0), (wl, listO ws ew)]
noncomputable def ftA : Option V4 := lhsE ((E2 w).on (fBel L cc p2 u)) (ftX w L cc fit dl wl p2 u t1 t2 fs cs i xs ed ew d ws p N K d1) (ftQ fit dl i xs ed) [0, 1, 2, 3, 5, 11, 9, 10, 4]
noncomputable def ftB : Option V4 := rhsE (ftX w L cc fit dl wl p2 u t1 t2 fs cs i xs ed ew d ws p N K d1) [] (ftQ fit dl i xs ed) (.cal (wyS (exprOf d.b) (d1.1 + 5) (d1.1 + 3) (d1.1 + 4) L cc) (wb L cc fit d.b p2 u).l) (ftL1 w L cc fit dl wl t1 t2 fs i xs ed ew d ws d1) (d1.1, 6) (d1.2, 1)
theorem ft_eq : ftA w L cc fit dl wl p2 u t1 t2 fs cs i xs ed ew d ws p N K d1 = ftB w L cc fit dl wl p2 u t1 t2 fs cs i xs ed ew d ws p N K d1 := by
  obtain ⟨da, db, dc, dt⟩ := d
  obtain ⟨us5, ue5, up5, up6⟩ := u
  cases db <;> cases fs <;> cases cs <;> kernel_rfl
variable (sh : Sh) (M O : Nat)
noncomputable def ftZ : Option Res := exec ((E2 w).on (fBel L cc p2 u)) 100000 [] (hsOf d.b).1 (hsOf d.b).2 (cutX (ftX w L cc fit dl wl p2 u t1 t2 fs cs i xs ed ew d ws p N K d1) (.ok .next) ⟨treeOf [(L, wyF w.params t1 t2 dl wl (some (tkOf fs (d1.2 + 0), d.b))), (d1.1 + 5, sh.o w.params)], 2, M, 0, O, 0⟩)
noncomputable def ftC : Option V4 := lhsE ((E2 w).on (fBel L cc p2 u)) (ftZ w L cc fit dl wl p2 u t1 t2 fs cs i xs ed ew d ws p N K d1 sh M O) [] [0]
noncomputable def ftD : Option V4 := rhsE (ftZ w L cc fit dl wl p2 u t1 t2 fs cs i xs ed ew d ws p N K d1 sh M O) [] [] (.nxt (wyFC fit L cc)) [(L, wyF w.params t1 t2 dl (d1.1 + 4) (some (tkOf fs (d1.2 + 0), d.b)))] (M, 0) (O, 1)
theorem ft_eq2 (hi : sh.full d.b = true) : ftC w L cc fit dl wl p2 u t1 t2 fs cs i xs ed ew d ws p N K d1 sh M O = ftD w L cc fit dl wl p2 u t1 t2 fs cs i xs ed ew d ws p N K d1 sh M O := by
  obtain ⟨da, db, dc, dt⟩ := d
  obtain ⟨us5, ue5, up5, up6⟩ := u
  cases db <;> cases sh <;> first | (cases hi; done) | (cases fs <;> cases cs <;> kernel_rfl)
end
theorem for_turn (w : WK) (L cc fit dl wl : Addr) (p2 : Pos) (u : Tl) (t1 t2 : Tok) (fs : Option (Tok × Bool)) (cs : Option It) (i : Nat) (xs : List Value) (ed ew : Nat) (d : DP) (ws : List WAY) (hx : xs[i]? = some d.ref) (hT : ∀ W ∈ ws, W.th.length ≤ 4 ∧ W.ws.length < 1000) (hn : ws.length < 1000) (hne : ws ≠ []) (hg : d.b = false → ∀ W ∈ ws, W.th ≠ [])
    {rest : Array GenState × Drawn × OsState} {m0 : List Addr} {s0 : Shared} (extra : List (Addr × Obj)) (p : Pos) (s : Shared) (R : Result → Shared → Prop)
    (h : At (E2 w).kt rest m0 s0 s (ftPre w L cc fit dl wl t1 t2 fs cs i xs ed ew d (ws.map WAY.ref) ++ (ws.flatMap WAY.objs ++ extra)))
    (next : ∀ (wl' : Addr) (ew' : Nat) (t3 : Tok) (news : List WAY) p' s', news.map WAY.v = stepV d.b d.c (ws.map WAY.v) →
      At (E2 w).kt rest m0 s0 s' (ftPre w L cc fit dl wl' t1 t2 (some (t3, d.b)) (some (d.c, d.t)) (i + 1) xs ed ew' d (news.map WAY.ref) ++ (news.flatMap WAY.objs ++ extra)) →
      wpCode (E2 w).M (Γof (wyFC fit L cc) (fBel L cc p2 u)) R p' s') :
    wpCode (E2 w).M (Γof (wyFC fit L cc) (fBel L cc p2 u)) R p s := by
  refine wp_run (E2 w) den_eq 100000 (fBel L cc p2 u) _ p s _ h.left.loc h.since.ktk h.since.rest R (fun N K => .dat 4 [2, 2] [1, 2] (fLn dl i d.ref (listO xs ed)) (0, 0) fun d1 => .fin 80 h80) fun N K hN hK d1 => ?_
  refine .mk' [] (ftQ fit dl i xs ed) (.cal (wyS (exprOf d.b) (d1.1 + 5) (d1.1 + 3) (d1.1 + 4) L cc) (wb L cc fit d.b p2 u).l) (ftL1 w L cc fit dl wl t1 t2 fs i xs ed ew d (ws.map WAY.ref) d1) (d1.1, 6) (d1.2, 1) [0, 1, 2, 3, 5, 11, 9, 10, 4]
    (ft_eq w L cc fit dl wl p2 u t1 t2 fs cs i xs ed ew d (ws.map WAY.ref) p N K d1) noG ⟨fun b => (ctF_lnext _ b _ _ _ _ _ _ hx).toH, trivial⟩ rfl fun p' s' A => ?_
  have h2 := h.step rfl A
  have h3 : At (E2 w).kt rest m0 s0 s' ([(d1.1 + 5, Sh.z.o w.params), (d1.1 + 3, liO wl 0), (d1.1 + 4, listO [] 0), (cc, cellO (.int d.c d.t)), (wl, listO (ws.map WAY.ref) ew)] ++ (ws.flatMap WAY.objs ++
      ([(L, wyF w.params t1 t2 dl wl (some (tkOf fs (d1.2 + 0), d.b))), (fit, liO dl (i + 1)), (dl, listO xs ed), (d.a, dpO d)] ++ extra))) := h2.pk [ws.flatMap WAY.objs, extra] [5, 6, 7, 3, 8, 9, 0, 1, 2, 4, 10] rfl
  refine comp_all w (wb L cc fit d.b p2 u) (d1.1 + 5) (d1.1 + 3) (d1.1 + 4) wl (ws.map WAY.ref) ew d.c d.t _ d.b ws _ p' s' rfl hT hn hne hg h3 ?_
  intro news sh' ea' s2 hi hv h4
  have h5 : At (E2 w).kt rest m0 s0 s2 ([(L, wyF w.params t1 t2 dl wl (some (tkOf fs (d1.2 + 0), d.b))), (d1.1 + 5, sh'.o w.params)] ++ ([(fit, liO dl (i + 1)), (dl, listO xs ed), (cc, wyCell (some (d.c, d.t))), (d1.1 + 4, listO (news.map WAY.ref) ea'), (d.a, dpO d)] ++ (news.flatMap WAY.objs ++ extra))) := h4.pkx [extra] [5, 0, 6, 7, 2, 1, 8, 4, 9] rfl
  refine run_on (E2 w) den_eq 100000 (fBel L cc p2 u) _ _ s2 _ h5.left.loc h5.since.ktk h5.since.rest R (fun N K => .fin (hsOf d.b).1 (hsOf d.b).2) fun M O _ _ => ?_
  refine .mk' [] [] (.nxt (wyFC fit L cc)) [(L, wyF w.params t1 t2 dl (d1.1 + 4) (some (tkOf fs (d1.2 + 0), d.b)))] (M, 0) (O, 1) [0] (ft_eq2 w L cc fit dl wl p2 u t1 t2 fs cs i xs ed ew d (ws.map WAY.ref) p N K d1 sh' M O hi) noG trivial rfl fun p4 s4 A4 => ?_
  exact next (d1.1 + 4) ea' _ news p4 s4 hv (h5.step rfl A4)
end Mine
end
noncomputable section
namespace Mine
open PySem PySem.W PySem.W.X PyProof.Rows
open PySem.Sem (wp finPost)

noncomputable def sortI (l : List Int) : List Int := l.mergeSort (fun a b => decide (a ≤ b))
theorem sortI_eq {l m : List Int} (hp : m.Perm l) (hs : m.Pairwise (· ≤ ·)) : m = sortI l := by
  have h1 : (sortI l).Perm l := List.mergeSort_perm l _
  have h2 : (sortI l).Pairwise (· ≤ ·) := by
    have := List.pairwise_mergeSort (le := fun a b : Int => decide (a ≤ b)) (fun a b c h1 h2 => by simp at *; omega) (fun a b => by simp; omega) l
    exact this.imp fun h => by simpa using h
  exact List.Perm.eq_of_pairwise (fun a b _ _ h1 h2 => Int.le_antisymm h1 h2) hs h2 (hp.trans h1.symm)
theorem ints_of {vs : List Value} {ns : List Int} (h : IntsAre vs ns) : ∃ ys : List (Int × Tok), vs = intsV ys ∧ ys.map (·.1) = ns := by
  induction h with
  | nil => exact ⟨[], rfl, rfl⟩
  | cons _ _ _ ih =>
    obtain ⟨ys, rfl, rfl⟩ := ih
    exact ⟨(_, _) :: ys, rfl, rfl⟩
theorem of_ints : ∀ xs : List (Int × Tok), IntsAre (intsV xs) (xs.map (·.1))
  | [] => .nil
  | x :: xs => .cons _ _ (of_ints xs)
theorem ctr_sorted (E : En) (bel : List (Code × Pos)) (l : Addr) (xs : List (Int × Tok)) (ep : Nat) (hx : xs.length < 64) :
    Ctr E bel (.builtin "sorted" ⟨[.ref l], []⟩) [(l, listO (intsV xs) ep)] (fun o => ∃ (ys : List (Int × Tok)) (a e top tok : Nat), ys.map (·.1) = sortI (xs.map (·.1)) ∧ o = ⟨.ok (.ret (.ref a)), [listO (intsV xs) ep], [(a, listO (intsV ys) e)], top, tok⟩) := by
  refine ctr_lib fun A s rest hh hk hp hn hkn hr => ?_
  have hl : s.heap.get? l = some (listO (intsV xs) ep) := hp _ (.head _)
  have hlist : s.heap.IsList l (intsV xs).toArray := ⟨_, hl, rfl, ep, rfl⟩
  have hlen : (intsV xs).length < 64 := by simpa [intsV] using hx
  refine codeAny_builtin entry_sorted ?_
  rw [Around.under_plainId plain_sorted _]
  unfold Builtin.«sorted»
  refine wpAny_bind (m := checkCount "sorted" 1 1 _) (wpAny_pure ?_)
  refine wpAny_bind (collect_list hlist ?_)
  refine wpAny_bind (wpAny_newList ?_)
  have hsz : ((s.heap.push (seqObj "list" #[] 0)).update s.heap.objs.size (Obj.mapSeq (· ++ (intsV xs).toArray))).objs.size = s.heap.objs.size + 1 := by
    rw [Heap.size_update, size_push']
  have hoL : (((s.heap.push (seqObj "list" #[] 0)).update s.heap.objs.size (Obj.mapSeq (· ++ (intsV xs).toArray))).push (seqObj "list" (intsV xs).toArray 0)).get? (s.heap.objs.size + 1) = some (seqObj "list" (intsV xs).toArray 0) := by
    rw [← hsz]; exact Heap.get?_push_size _ rfl
  show wpAny _ _ _ _ _ { s with heap := ((s.heap.push (seqObj "list" #[] 0)).update s.heap.objs.size (Obj.mapSeq (· ++ (intsV xs).toArray))).push (seqObj "list" (intsV xs).toArray 0) }
  rw [hsz]
  refine wpAny_bind (wpAny_holding (wpAny_call_entry slot_list_sort ⟨_, hoL, rfl⟩ entry_list_sort (list_sort_tree hoL (of_ints xs) hlen fun out ns' a1 a2 a3 => ⟨_, rfl, ?_⟩) (args_list_sort _)))
  refine wpAny_pure ?_
  obtain ⟨ys, e1, e2⟩ := ints_of a1
  obtain ⟨e, he⟩ := sortedAll_at s.heap (intsV xs) out
  refine ⟨⟨.ok (.ret (.ref (s.heap.objs.size + 1))), [listO (intsV xs) ep], [(s.heap.objs.size + 1, listO (intsV ys) e)], (sortedAll s.heap (intsV xs) out).objs.size, s.toks⟩, rfl, ⟨ys, _, e, _, _, e2 ▸ sortI_eq a2 a3, rfl⟩, ?_⟩
  have eo : listO (intsV ys) e = seqObj "list" out e := by rw [← e1]; simp [listO, seqObj]
  refine ⟨upd_of (upd := [(l, listO (intsV xs) ep)]) rfl (fun x hx => ?_), fun x hx => ?_, by simp, fun b ob hb _ => sortedAll_old hb, rfl, rfl, hr⟩
  · obtain rfl : x = _ := by simpa using hx
    exact sortedAll_old hl
  · obtain rfl : x = _ := by simpa using hx
    exact ⟨by rw [eo]; exact he, Nat.le_succ _⟩
structure S4 where
  (y1 y2 y3 y4 : Int × Tok)
  (a e top tok : Nat)
noncomputable def S4.l (d : S4) : List (Int × Tok) := [d.y1, d.y2, d.y3, d.y4]
noncomputable def fSort (xs : List Int) (ob : Obj) (d : {d : S4 // d.l.map (·.1) = xs}) : Outc := ⟨.ok (.ret (.ref d.1.a)), [ob], [(d.1.a, listO (intsV d.1.l) d.1.e)], d.1.top, d.1.tok⟩
theorem sortI_len (l : List Int) : (sortI l).length = l.length := List.length_mergeSort ..
theorem ctF_sorted (E : En) (bel : List (Code × Pos)) (l : Addr) (x1 x2 x3 x4 : Int × Tok) (ep : Nat) :
    Ctr E bel (.builtin "sorted" ⟨[.ref l], []⟩) [(l, listO (intsV [x1, x2, x3, x4]) ep)] (QF (fSort (sortI [x1.1, x2.1, x3.1, x4.1]) (listO (intsV [x1, x2, x3, x4]) ep))) :=
  (ctr_sorted E bel l [x1, x2, x3, x4] ep (by simp)).mono fun o ⟨ys, a, e, top, tok, h1, h2⟩ => by
    have hl := congrArg List.length h1
    rw [sortI_len] at hl
    match ys, hl, h1, h2 with
    | [y1, y2, y3, y4], _, h1, h2 => exact ⟨⟨⟨y1, y2, y3, y4, a, e, top, tok⟩, h1⟩, h2⟩
noncomputable def fSum (xs : List (Int × Tok)) (ob : Obj) (d : Nat × Nat × Nat) : Outc := ⟨.ok (.ret (.int (xs.map (·.1)).sum d.1)), [ob], [], d.2.1, d.2.2⟩
theorem ctF_sum (E : En) (bel : List (Code × Pos)) (l : Addr) (xs : List (Int × Tok)) (ep : Nat) (hx : xs.length < 100000) :
    Ctr E bel (.builtin "sum" ⟨[.ref l], []⟩) [(l, listO (intsV xs) ep)] (QF (fSum xs (listO (intsV xs) ep))) :=
  (ctr_sum E bel l xs ep hx).mono fun o ⟨i, t, top, tok, h1, h2⟩ => by subst h1; exact ⟨(t, top, tok), h2⟩
end Mine
end
noncomputable section
namespace Mine
open PySem PySem.W PySem.W.X

/-- the stack above which _law_sums is called -/
structure Sb where
  (k : Bool) (t : PySem.Expr) (gn : List Comprehension) (sc : Scope) (po : Pos) (dp : Nat) (v1 v4 : Value) (e1 : Env) (p1 : Pos) (s2 : List Stmt) (e2 : Env) (p2 : Pos) (s3 : List Stmt) (e3 : Env) (p3 p4 : Pos)
noncomputable def Sb.l (b : Sb) : List (Code × Pos) := (.compLoop (.ListComp b.t b.gn b.sc b.po) b.dp b.v1 b.v4 b.e1, b.p1) :: (.func b.s2 b.e2, b.p2) :: match b.k with
  | true => [(.func b.s3 b.e3, b.p3), (.builtin "claim.caller" {}, b.p4)]
  | false => [(.builtin "claim.caller" {}, b.p4)]
/-- the sum of the k longest, k from 1 -/
noncomputable def sumsOf (l : List Int) : List Int := [((sortI l).drop 3).sum, ((sortI l).drop 2).sum, ((sortI l).drop 1).sum, (sortI l).sum]
noncomputable def h30 (a : Nat) : List Nat := [7, a, a, a, a, a + 1, a + 1, a + 1, a + 1, a + 1, a]
noncomputable def h41 : List Nat := [6, 6, 5, 6, 5, 5, 5, 5, 5, 5, 4, 5, 4, 0, 7, 6, 0, 0, 0, 0, 3]
noncomputable def h104 : List Nat := [0, 0, 3, 2, 0, 0, 0, 0, 0, 3, 1, 1, 1, 4, 4, 4, 4, 4, 4, 1, 0, 0, 4, 4, 4, 4, 5, 2, 2, 12, 5, 5, 1, 0, 0, 5, 5, 5, 5, 5, 5, 5, 5, 4, 5, 4, 0, 7, 6, 0, 0, 0, 0, 3]
noncomputable def exS4 (xs : List Int) (h : xs.length = 4) : {d : S4 // d.l.map (·.1) = xs} := match xs, h with
  | [a, b, c, d], _ => ⟨⟨(a, 0), (b, 0), (c, 0), (d, 0), 0, 0, 0, 0⟩, rfl⟩
noncomputable def QSums (l : List Int) (ob : Obj) (o : Outc) : Prop := ∃ (zs : List It) (a e top tok : Nat), zs.map (·.1) = sumsOf l ∧ o = ⟨.ok (.ret (.ref a)), [ob], [(a, listO (intsV zs) e)], top, tok⟩
theorem sums_ctr (w : WK) (b : Sb) (wa : Addr) (x1 x2 x3 x4 : It) (ep : Nat) :
    Ctr (E2 w) b.l (.call (.ref 203) ⟨[.ref wa], []⟩) [(wa, listO (intsV [x1, x2, x3, x4]) ep)] (QSums [x1.1, x2.1, x3.1, x4.1] (listO (intsV [x1, x2, x3, x4]) ep)) := by
  have hl : (sortI [x1.1, x2.1, x3.1, x4.1]).length = 4 := sortI_len _
  refine Ctr.run den_eq 100000 (fun N K p => .dat 104 h104 [0] (fSort (sortI [x1.1, x2.1, x3.1, x4.1]) (listO (intsV [x1, x2, x3, x4]) ep)) (exS4 _ hl) fun d1 => .dat 30 (h30 8) [9] (fSum [d1.1.y4] (listO (intsV [d1.1.y4]) 0)) (0, 0, 0) fun s1 =>
    .dat 41 h41 [0] (fSort (sortI [x1.1, x2.1, x3.1, x4.1]) (listO (intsV [x1, x2, x3, x4]) ep)) (exS4 _ hl) fun d2 => .dat 30 (h30 11) [12] (fSum [d2.1.y3, d2.1.y4] (listO (intsV [d2.1.y3, d2.1.y4]) 0)) (0, 0, 0) fun s2 =>
    .dat 41 h41 [0] (fSort (sortI [x1.1, x2.1, x3.1, x4.1]) (listO (intsV [x1, x2, x3, x4]) ep)) (exS4 _ hl) fun d3 => .dat 30 (h30 14) [15] (fSum [d3.1.y2, d3.1.y3, d3.1.y4] (listO (intsV [d3.1.y2, d3.1.y3, d3.1.y4]) 0)) (0, 0, 0) fun s3 =>
    .dat 41 h41 [0] (fSort (sortI [x1.1, x2.1, x3.1, x4.1]) (listO (intsV [x1, x2, x3, x4]) ep)) (exS4 _ hl) fun d4 => .dat 30 (h30 17) [18] (fSum [d4.1.y1, d4.1.y2, d4.1.y3, d4.1.y4] (listO (intsV [d4.1.y1, d4.1.y2, d4.1.y3, d4.1.y4]) 0)) (0, 0, 0) fun s4 =>
    .fin 30 [6, 6, 5, 6, 5, 5, 5, 5, 5, 21, 7, 7, 6]) fun rest s N K p d1 s1 d2 s2 d3 s3 d4 s4 => ?_
  let zs : List It := [(([d1.1.y4].map (·.1)).sum, s1.1), (([d2.1.y3, d2.1.y4].map (·.1)).sum, s2.1), (([d3.1.y2, d3.1.y3, d3.1.y4].map (·.1)).sum, s3.1), (([d4.1.y1, d4.1.y2, d4.1.y3, d4.1.y4].map (·.1)).sum, s4.1)]
  refine FinI.mk' [] [(none, .builtin "sorted" ⟨[.ref wa], []⟩, [(wa, listO (intsV [x1, x2, x3, x4]) ep)]), (none, .builtin "sum" ⟨[.ref (d1.1.top + 1)], []⟩, [(d1.1.top + 1, listO (intsV [d1.1.y4]) 0)]),
      (none, .builtin "sorted" ⟨[.ref wa], []⟩, [(wa, listO (intsV [x1, x2, x3, x4]) ep)]), (none, .builtin "sum" ⟨[.ref (d2.1.top + 1)], []⟩, [(d2.1.top + 1, listO (intsV [d2.1.y3, d2.1.y4]) 0)]),
      (none, .builtin "sorted" ⟨[.ref wa], []⟩, [(wa, listO (intsV [x1, x2, x3, x4]) ep)]), (none, .builtin "sum" ⟨[.ref (d3.1.top + 1)], []⟩, [(d3.1.top + 1, listO (intsV [d3.1.y2, d3.1.y3, d3.1.y4]) 0)]),
      (none, .builtin "sorted" ⟨[.ref wa], []⟩, [(wa, listO (intsV [x1, x2, x3, x4]) ep)]), (none, .builtin "sum" ⟨[.ref (d4.1.top + 1)], []⟩, [(d4.1.top + 1, listO (intsV [d4.1.y1, d4.1.y2, d4.1.y3, d4.1.y4]) 0)])]
    (.ans (.ok (.ret (.ref (N + 4))))) [(wa, listO (intsV [x1, x2, x3, x4]) ep), (N + 4, listO (intsV zs) 4)] (s4.2.1, 2) (s4.2.2, 0) [0, 5] ?_ (fun _ h => (nomatch h)) ?_ rfl (fun s' A => ⟨_, rfl, ⟨zs, _, _, _, _, ?_, rfl⟩, Post.of (upd := [(wa, listO (intsV [x1, x2, x3, x4]) ep)]) (new := [(N + 4, listO (intsV zs) 4)]) A rfl⟩)
  · obtain ⟨k, t, gn, sc, po, dp, v1, v4, e1, p1, s2, e2, p2, s3, e3, p3, p4⟩ := b
    cases k <;> kernel_rfl
  · exact ⟨fun b => (ctF_sorted _ b _ _ _ _ _ _).toH, fun b => (ctF_sum _ b _ [d1.1.y4] _ (by simp)).toH, fun b => (ctF_sorted _ b _ _ _ _ _ _).toH, fun b => (ctF_sum _ b _ [d2.1.y3, d2.1.y4] _ (by simp)).toH,
      fun b => (ctF_sorted _ b _ _ _ _ _ _).toH, fun b => (ctF_sum _ b _ [d3.1.y2, d3.1.y3, d3.1.y4] _ (by simp)).toH, fun b => (ctF_sorted _ b _ _ _ _ _ _).toH, fun b => (ctF_sum _ b _ [d4.1.y1, d4.1.y2, d4.1.y3, d4.1.y4] _ (by simp)).toH, trivial⟩
  · have e : zs.map (·.1) = [((d1.1.l.map (·.1)).drop 3).sum, ((d2.1.l.map (·.1)).drop 2).sum, ((d3.1.l.map (·.1)).drop 1).sum, (d4.1.l.map (·.1)).sum] := rfl
    rw [e, d1.2, d2.2, d3.2, d4.2]
    rfl
end Mine
end
noncomputable section
namespace Mine
open PySem PySem.W PySem.W.X

structure RS where
  (a : Addr) (zs : List It) (e : Nat)
noncomputable def RS.ref (r : RS) : Value := .ref r.a
noncomputable def RS.ob (r : RS) : Addr × Obj := (r.a, listO (intsV r.zs) r.e)
noncomputable def fSums (l : List Int) (ob : Obj) (d : {d : RS × Nat × Nat // d.1.zs.map (·.1) = sumsOf l}) : Outc := ⟨.ok (.ret (.ref d.1.1.a)), [ob], [d.1.1.ob], d.1.2.1, d.1.2.2⟩
theorem ctF_sums (w : WK) (b : Sb) (wa : Addr) (x1 x2 x3 x4 : It) (ep : Nat) :
    Ctr (E2 w) b.l (.call (.ref 203) ⟨[.ref wa], []⟩) [(wa, listO (intsV [x1, x2, x3, x4]) ep)] (QF (fSums [x1.1, x2.1, x3.1, x4.1] (listO (intsV [x1, x2, x3, x4]) ep))) :=
  (sums_ctr w b wa x1 x2 x3 x4 ep).mono fun o ⟨zs, a, e, top, tok, h1, h2⟩ => ⟨⟨(⟨a, zs, e⟩, top, tok), h1⟩, h2⟩
noncomputable abbrev fSums0 (l : List Int) : {d : RS × Nat × Nat // d.1.zs.map (·.1) = sumsOf l} := ⟨(⟨0, (sumsOf l).map fun x => (x, 0), 0⟩, 0, 0), by simp [Function.comp_def]⟩

noncomputable def wrEnv (φ L : Addr) : Env := { scope := cpScope wyRet, locals := φ, globals := 3, cells := [], qual := S "_law_ways.<locals>.", func := none, code := .ref 197, frame := some L, builtins := 0 }
noncomputable def wrC (φ it acc L : Addr) : Code := .compLoop wyRet 0 (.ref it) (.ref acc) (wrEnv φ L)
noncomputable def wrS (φ it acc L : Addr) : Code := .compStart wyRet 0 (.ref it) (.ref acc) (wrEnv φ L)
noncomputable def h68 : List Nat := [2, 5, 5, 5, 1, 0, 0, 5, 8, 8, 8, 8, 8, 5, 8, 7, 8, 8, 8, 8, 5, 8, 7, 8, 8, 8, 8, 5, 8, 7, 10, 0, 1, 0, 0, 1, 0, 0, 1, 0]
/-- the stack of a call of _law_sums in the last comprehension of _law_ways -/
noncomputable def sbW (φ it acc L cc : Addr) (p2 q : Pos) (u : Tl) : Sb := ⟨true, lcE wyRet, lcG wyRet, lcS wyRet, lcP wyRet, 0, .ref it, .ref acc, wrEnv φ L, q, fBody fWays, wyEnv L cc, p2, u.s5, u.e5, u.p5, u.p6⟩

section
variable (w : WK) (L cc : Addr) (p2 : Pos) (u : Tl) (φ it acc l : Addr) (xs : List Value) (el : Nat) {rest : Array GenState × Drawn × OsState} {m0 : List Addr} {s0 : Shared} (R : Result → Shared → Prop)
theorem ret_turn (sh : Sh) (hsh : sh.is3 = false) (i : Nat) (accs : List Value) (ea : Nat) (a ta wa : Addr) (th : List It) (x1 x2 x3 x4 : It) (hx : xs[i]? = some (.ref a)) (hacc : accs.length < 100000)
    (p : Pos) (s : Shared) (hk : ∀ a o, (E2 w).kt.get a = some o → s.heap.get? a = some o) (hr : (s.gens, s.drawn, s.os) = rest)
    (Lc : Loc (E2 w).kt s ([(φ, sh.o w.params), (it, liO l i), (acc, listO accs ea), (l, listO xs el)] ++ WAY.objs ⟨a, ta, wa, th, [x1, x2, x3, x4]⟩))
    (next : ∀ (t1 t2 : Tok) (r : RS) (ea' top tok : Nat) p' s', r.zs.map (·.1) = sumsOf [x1.1, x2.1, x3.1, x4.1] → AtH (E2 w).kt rest s.heap [φ, it, acc, l, a, ta, wa]
      ([(φ, (Sh.two t1 t2 (.ref ta) (.ref wa)).o w.params), (it, liO l (i + 1)), (acc, listO (accs ++ [r.ref]) ea'), (l, listO xs el)] ++ WAY.objs ⟨a, ta, wa, th, [x1, x2, x3, x4]⟩ ++ [r.ob]) top tok s' →
      wpCode (E2 w).M (Γof (wrC φ it acc L) (fBel L cc p2 u)) R p' s') :
    wpCode (E2 w).M (Γof (wrC φ it acc L) (fBel L cc p2 u)) R p s := by
  refine wp_run (E2 w) den_eq 100000 (fBel L cc p2 u) _ p s _ Lc hk hr R (fun N K => .dat 4 [2, 2] [1, 3] (fLn l i (.ref a) (listO xs el)) (0, 0) fun d1 =>
    .dat 68 h68 [6] (fSums [x1.1, x2.1, x3.1, x4.1] (listO (intsV [x1, x2, x3, x4]) 0)) (fSums0 _) fun d2 =>
    .dat 3 [3] [2] (fApp accs (.ref d2.1.1.a)) (0, 0, 0) fun d3 => .fin 1 []) fun N K hN hK => fun d1 => fun d2 => fun d3 => ?_
  let t1 : Tok := match sh with | .two t1 _ _ _ => t1 | _ => d1.2 + 0
  let t2 : Tok := match sh with | .two _ t2 _ _ => t2 | _ => d1.2 + 1
  refine FinI.mk' [] [(none, .builtin "list_iterator.__next__" ⟨[.ref it], []⟩, [(it, liO l i), (l, listO xs el)]),
      (some (sbW φ it acc L cc p2 ⟨115, 12, 115, 28⟩ u).l, .call (.ref 203) ⟨[.ref wa], []⟩, [(wa, listO (intsV [x1, x2, x3, x4]) 0)]),
      (none, .builtin "list.append" ⟨[.ref acc, .ref d2.1.1.a], []⟩, [(acc, listO accs ea)])] (.nxt (wrC φ it acc L))
      ([(φ, (Sh.two t1 t2 (.ref ta) (.ref wa)).o w.params), (it, liO l (i + 1)), (acc, listO (accs ++ [.ref d2.1.1.a]) d3.1), (l, listO xs el)] ++ WAY.objs ⟨a, ta, wa, th, [x1, x2, x3, x4]⟩ ++ [d2.1.1.ob])
      (d3.2.1, 0) (d3.2.2, 0) [0, 1, 2, 3, 4, 5, 6, 10] ?_ (fun _ h => (nomatch h)) ?_ rfl (fun p' s' A => next t1 t2 d2.1.1 _ _ _ p' s' d2.2 A)
  · obtain ⟨us5, ue5, up5, up6⟩ := u
    cases sh with
    | z => kernel_rfl
    | two => kernel_rfl
    | three => cases hsh
  · exact ⟨fun b => (ctF_lnext _ b _ _ _ _ _ _ hx).toH, (ctF_sums w _ _ _ _ _ _ _).toH, fun b => (ctF_append _ b _ _ _ _ hacc).toH, trivial⟩
theorem ret_start (i : Nat) (p : Pos) (s : Shared) (hk : ∀ a o, (E2 w).kt.get a = some o → s.heap.get? a = some o) (hr : (s.gens, s.drawn, s.os) = rest)
    (Lc : Loc (E2 w).kt s [(it, liO l i)])
    (next : ∀ top tok p' s', AtH (E2 w).kt rest s.heap [it] [(it, liO l i)] top tok s' → wpCode (E2 w).M (Γof (wrC φ it acc L) (fBel L cc p2 u)) R p' s') :
    wpCode (E2 w).M (Γof (wrS φ it acc L) (fBel L cc p2 u)) R p s := by
  obtain ⟨us5, ue5, up5, up6⟩ := u
  refine wp_ask (E2 w) den_eq 100000 (fBel L cc p2 ⟨us5, ue5, up5, up6⟩) _ 2 (by kernel_rfl) (by kernel_rfl) p s _ Lc hk hr R (fun b N K => tSt b) fun b N K => ?_
  cases b <;> exact FinI.mk' [] [] (.nxt (wrC φ it acc L)) [(it, liO l i)] (N, 0) (K, 0) [0] (by kernel_rfl) (fun _ h => (nomatch h)) trivial rfl (fun p' s' A => next _ _ p' s' A)
theorem ret_end (i : Nat) (hx : xs[i]? = none) (p : Pos) (s : Shared) (hk : ∀ a o, (E2 w).kt.get a = some o → s.heap.get? a = some o) (hr : (s.gens, s.drawn, s.os) = rest)
    (Lc : Loc (E2 w).kt s [(it, liO l i), (l, listO xs el)])
    (next : ∀ top tok s', AtH (E2 w).kt rest s.heap [it, l] [(it, liEn i), (l, listO xs el)] top tok s' → R (.ok .next) s') :
    wpCode (E2 w).M (Γof (wrC φ it acc L) (fBel L cc p2 u)) R p s := by
  refine wp_run (E2 w) den_eq 100000 (fBel L cc p2 u) _ p s _ Lc hk hr R (fun N K => .dat 4 [1, 1] [0, 1] (fLe i (listO xs el)) (0, 0, 0, 0) fun d1 => .fin 2 [3]) fun N K hN hK => fun d => ?_
  obtain ⟨us5, ue5, up5, up6⟩ := u
  exact FinI.mk' [] [(none, .builtin "list_iterator.__next__" ⟨[.ref it], []⟩, [(it, liO l i), (l, listO xs el)])] (.ans (.ok .next)) [(it, liEn i), (l, listO xs el)] (d.2.2.1, 0) (d.2.2.2, 0) [0, 1] (by kernel_rfl) (fun _ h => (nomatch h)) ⟨fun b => (ctF_lend w b _ _ _ _ _ hx).toH, trivial⟩ rfl (fun s' A => next _ _ s' A)
theorem ret_loop : ∀ (todo : List WAY) (i : Nat) (sh : Sh) (accs : List Value) (ea : Nat) (extra : List (Addr × Obj)) (p : Pos) (s : Shared), xs.drop i = todo.map WAY.ref → sh.is3 = false → (∀ W ∈ todo, W.ws.length = 4) → accs.length + todo.length < 100000 →
    At (E2 w).kt rest m0 s0 s ([(φ, sh.o w.params), (it, liO l i), (acc, listO accs ea), (l, listO xs el)] ++ (todo.flatMap WAY.objs ++ extra)) →
    (∀ (rs : List RS) (sh' : Sh) (ea' : Nat) (s' : Shared), (todo ≠ [] ∨ sh.is2 = true → sh'.is2 = true) → rs.map (fun r => r.zs.map (·.1)) = todo.map (fun W => sumsOf (W.ws.map (·.1))) →
      At (E2 w).kt rest m0 s0 s' ([(φ, sh'.o w.params), (acc, listO (accs ++ rs.map RS.ref) ea'), (l, listO xs el)] ++ (rs.map RS.ob ++ extra)) → R (.ok .next) s') →
    wpCode (E2 w).M (Γof (wrC φ it acc L) (fBel L cc p2 u)) R p s
  | [], i, sh, accs, ea, extra, p, s, hd, hsh, hT, hacc, h, hR => by
    have h' : At (E2 w).kt rest m0 s0 s ([(it, liO l i), (l, listO xs el)] ++ ([(φ, sh.o w.params), (acc, listO accs ea)] ++ extra)) := h.pk [extra] [1, 3, 0, 2, 4] rfl
    refine ret_end w L cc p2 u φ it acc l xs el R i (drop_none hd) p s h.since.ktk h.since.rest h'.left.loc fun top tok s' A => ?_
    have := h'.step rfl A
    refine hR [] sh ea s' (fun h => h.elim (fun h => absurd rfl h) id) rfl (by rw [show accs ++ List.map RS.ref [] = accs from List.append_nil accs]; exact this.pk2 [extra] [2, 3, 1, 4] rfl)
  | W :: todo, i, sh, accs, ea, extra, p, s, hd, hsh, hT, hacc, h, hR => by
    obtain ⟨hx, hd'⟩ := drop_head hd
    have hW := hT W (.head _)
    obtain ⟨a, ta, wa, th, ws⟩ := W
    match ws, hW with
    | [x1, x2, x3, x4], _ =>
    have h' : At (E2 w).kt rest m0 s0 s (([(φ, sh.o w.params), (it, liO l i), (acc, listO accs ea), (l, listO xs el)] ++ WAY.objs ⟨a, ta, wa, th, [x1, x2, x3, x4]⟩) ++ (todo.flatMap WAY.objs ++ extra)) := h
    refine ret_turn w L cc p2 u φ it acc l xs el R sh hsh i accs ea a ta wa th x1 x2 x3 x4 hx (by rw [List.length_cons] at hacc; omega) p s h.since.ktk h.since.rest h'.left.loc ?_
    intro t1 t2 r ea' top tok p' s' hz A
    have h2 := h'.step rfl A
    have h3 : At (E2 w).kt rest m0 s0 s' ([(φ, (Sh.two t1 t2 (.ref ta) (.ref wa)).o w.params), (it, liO l (i + 1)), (acc, listO (accs ++ [r.ref]) ea'), (l, listO xs el)] ++ (todo.flatMap WAY.objs ++ ([r.ob] ++ extra))) := h2.pk [todo.flatMap WAY.objs, extra] [0, 1, 2, 3, 8, 7, 9] rfl
    refine ret_loop todo (i + 1) _ (accs ++ [r.ref]) ea' ([r.ob] ++ extra) p' s' hd' rfl (fun V hV => hT V (.tail _ hV)) (by simp at hacc ⊢; omega) h3 ?_
    intro rs sh' ea'' s'' hi2 hv hA
    refine hR (r :: rs) sh' ea'' s'' (fun _ => hi2 (.inr rfl)) ?_ ?_
    · rw [List.map_cons, hv, List.map_cons, hz]; rfl
    · have e3 : accs ++ (r :: rs).map RS.ref = accs ++ [r.ref] ++ rs.map RS.ref := by simp
      rw [e3]
      exact hA.pkx [extra] [0, 1, 2, 4, 3, 5] rfl
end
end Mine
end
noncomputable section
namespace Mine
open PySem PySem.W PySem.W.X

noncomputable def wayOk (ps : List (List Int × List Int)) : Prop := ps ≠ [] ∧ ps.length < 1000 ∧ ∀ p ∈ ps, p.1.length ≤ 4 ∧ p.2.length < 1000
noncomputable def okW : List (Bool × Int) → List (List Int × List Int) → Prop
  | [], ps => wayOk ps ∧ ∀ p ∈ ps, p.2.length = 4
  | d :: ds, ps => wayOk ps ∧ (d.1 = false → ∀ p ∈ ps, p.1 ≠ []) ∧ okW ds (stepV d.1 d.2 ps)
noncomputable def foldW : List (Bool × Int) → List (List Int × List Int) → List (List Int × List Int)
  | [], ps => ps
  | d :: ds, ps => foldW ds (stepV d.1 d.2 ps)
theorem wayOk.ways {ws : List WAY} (h : wayOk (ws.map WAY.v)) : (∀ W ∈ ws, W.th.length ≤ 4 ∧ W.ws.length < 1000) ∧ ws.length < 1000 ∧ ws ≠ [] :=
  ⟨fun W hW => by have := h.2.2 _ (List.mem_map_of_mem hW); simpa [WAY.v] using this, by have := h.2.1; simpa using this, fun e => h.1 (by rw [e]; rfl)⟩

section
variable (w : WK) (L cc fit dl : Addr) (p2 : Pos) (u : Tl) (t1 t2 : Tok) (xs : List Value) (ed : Nat) {rest : Array GenState × Drawn × OsState} {m0 : List Addr} {s0 : Shared} (R : Result → Shared → Prop)
theorem for_end (i : Nat) (hx : xs[i]? = none) (p : Pos) (s : Shared) (hk : ∀ a o, (E2 w).kt.get a = some o → s.heap.get? a = some o) (hr : (s.gens, s.drawn, s.os) = rest)
    (Lc : Loc (E2 w).kt s [(fit, liO dl i), (dl, listO xs ed)])
    (next : ∀ top tok s', AtH (E2 w).kt rest s.heap [fit, dl] [(fit, liEn i), (dl, listO xs ed)] top tok s' → R (.ok .next) s') :
    wpCode (E2 w).M (Γof (wyFC fit L cc) (fBel L cc p2 u)) R p s := by
  refine wp_run (E2 w) den_eq 100000 (fBel L cc p2 u) _ p s _ Lc hk hr R (fun N K => .dat 4 [1, 1] [0, 1] (fLe i (listO xs ed)) (0, 0, 0, 0) fun d1 => .fin 3 [3]) fun N K hN hK => fun d => ?_
  obtain ⟨us5, ue5, up5, up6⟩ := u
  exact FinI.mk' [] [(none, .builtin "list_iterator.__next__" ⟨[.ref fit], []⟩, [(fit, liO dl i), (dl, listO xs ed)])] (.ans (.ok .next)) [(fit, liEn i), (dl, listO xs ed)] (d.2.2.1, 0) (d.2.2.2, 0) [0, 1] (by kernel_rfl) (fun _ h => (nomatch h)) ⟨fun b => (ctF_lend w b _ _ _ _ _ hx).toH, trivial⟩ rfl (fun s' A => next _ _ s' A)
theorem for_loop : ∀ (todo : List DP) (i : Nat) (wl : Addr) (ew : Nat) (fs : Option (Tok × Bool)) (cs : Option It) (ws : List WAY) (extra : List (Addr × Obj)) (p : Pos) (s : Shared), xs.drop i = todo.map DP.ref → okW (todo.map fun d => (d.b, d.c)) (ws.map WAY.v) →
    At (E2 w).kt rest m0 s0 s ([(L, wyF w.params t1 t2 dl wl fs), (fit, liO dl i), (dl, listO xs ed), (cc, wyCell cs), (wl, listO (ws.map WAY.ref) ew)] ++ (ws.flatMap WAY.objs ++ (dps todo ++ extra))) →
    (∀ (wl' : Addr) (ew' : Nat) (fs' : Option (Tok × Bool)) (news : List WAY) (s' : Shared), news.map WAY.v = foldW (todo.map fun d => (d.b, d.c)) (ws.map WAY.v) → wayOk (news.map WAY.v) → (∀ W ∈ news, W.ws.length = 4) →
      At (E2 w).kt rest m0 s0 s' ([(L, wyF w.params t1 t2 dl wl' fs'), (dl, listO xs ed), (wl', listO (news.map WAY.ref) ew')] ++ (news.flatMap WAY.objs ++ (dps todo ++ extra))) → R (.ok .next) s') →
    wpCode (E2 w).M (Γof (wyFC fit L cc) (fBel L cc p2 u)) R p s
  | [], i, wl, ew, fs, cs, ws, extra, p, s, hd, ho, h, hR => by
    have h' : At (E2 w).kt rest m0 s0 s ([(fit, liO dl i), (dl, listO xs ed)] ++ ([(L, wyF w.params t1 t2 dl wl fs), (wl, listO (ws.map WAY.ref) ew)] ++ (ws.flatMap WAY.objs ++ (dps [] ++ extra)))) := h.pk [ws.flatMap WAY.objs, dps [], extra] [1, 2, 0, 4, 5, 6, 7] rfl
    refine for_end w L cc fit dl p2 u xs ed R i (drop_none hd) p s h.since.ktk h.since.rest h'.left.loc fun top tok s' A => ?_
    have := h'.step rfl A
    refine hR wl ew fs ws s' rfl ho.1 (fun W hW => by have := ho.2 _ (List.mem_map_of_mem hW); simpa [WAY.v] using this) (this.pk2 [ws.flatMap WAY.objs, dps [], extra] [2, 1, 3, 4, 5, 6] rfl)
  | d :: todo, i, wl, ew, fs, cs, ws, extra, p, s, hd, ho, h, hR => by
    obtain ⟨hx, hd'⟩ := drop_head hd
    obtain ⟨ho1, ho2, ho3⟩ := ho
    obtain ⟨q1, q2, q3⟩ := ho1.ways
    have h' : At (E2 w).kt rest m0 s0 s ([(L, wyF w.params t1 t2 dl wl fs), (fit, liO dl i), (dl, listO xs ed), (cc, wyCell cs), (wl, listO (ws.map WAY.ref) ew), (d.a, dpO d)] ++ (ws.flatMap WAY.objs ++ (dps todo ++ extra))) := h.pk [ws.flatMap WAY.objs, [(d.a, dpO d)], dps todo, extra] [0, 1, 2, 3, 4, 6, 5, 7, 8] rfl
    refine for_turn w L cc fit dl wl p2 u t1 t2 fs cs i xs ed ew d ws hx q1 q2 q3 (fun hb W hW => by have := ho2 hb _ (List.mem_map_of_mem hW); simpa [WAY.v] using this) _ p s R h' ?_
    intro wl' ew' t3 news p' s' hv h2
    have h3 : At (E2 w).kt rest m0 s0 s' ([(L, wyF w.params t1 t2 dl wl' (some (t3, d.b))), (fit, liO dl (i + 1)), (dl, listO xs ed), (cc, wyCell (some (d.c, d.t))), (wl', listO (news.map WAY.ref) ew')] ++ (news.flatMap WAY.objs ++ (dps todo ++ ([(d.a, dpO d)] ++ extra)))) := h2.pk [news.flatMap WAY.objs, dps todo, extra] [0, 1, 2, 3, 4, 6, 7, 5, 8] rfl
    refine for_loop todo (i + 1) wl' ew' _ _ news ([(d.a, dpO d)] ++ extra) p' s' hd' (by rw [hv]; exact ho3) h3 ?_
    intro wl2 ew2 fs2 news2 s2 hv2 ho4 hw4 h4
    refine hR wl2 ew2 fs2 news2 s2 (by rw [hv2, hv]; rfl) ho4 hw4 (h4.pk [news2.flatMap WAY.objs, dps todo, [(d.a, dpO d)], extra] [0, 1, 2, 3, 5, 4, 6] rfl)
end

/-- _law_ways -/
theorem ways_wp (w : WK) (u : Tl) (dl : Addr) (ds : List DP) (ed : Nat) (ho : okW (ds.map fun d => (d.b, d.c)) [([], [])]) {rest : Array GenState × Drawn × OsState} {m0 : List Addr} {s0 : Shared} (R : Result → Shared → Prop) (extra : List (Addr × Obj)) (p : Pos) (s : Shared)
    (h : At (E2 w).kt rest m0 s0 s ([(dl, listO (ds.map DP.ref) ed)] ++ (dps ds ++ extra)))
    (hR : ∀ (rl : Addr) (el : Nat) (rs : List RS) (s' : Shared), rs.map (fun r => r.zs.map (·.1)) = (foldW (ds.map fun d => (d.b, d.c)) [([], [])]).map (fun q => sumsOf q.2) → rs ≠ [] → rs.length < 1000 →
      At (E2 w).kt rest m0 s0 s' ([(rl, listO (rs.map RS.ref) el)] ++ (rs.map RS.ob ++ extra)) → R (.ok (.ret (.ref rl))) s') :
    wpCode (E2 w).M (Γof (.call (.ref 198) ⟨[.ref dl], []⟩) u.l) R p s := by
  refine wp_run (E2 w) den_eq 100000 u.l _ p s _ h.left.loc h.since.ktk h.since.rest R (fun N K => .fin 41 [0, 0, 0, 2, 1, 0, 0, 2, 1, 2, 1, 1, 1, 0, 0, 1, 8]) fun N K hN hK => ?_
  refine FinI.mk' [] [] (.cal (wyFC (N + 6) (N + 0) (N + 1)) (fBel (N + 0) (N + 1) ⟨110, 24, 110, 29⟩ u))
    [(dl, listO (ds.map DP.ref) ed), (N + 0, wyF w.params (K + 0) (K + 1) dl (N + 5) none), (N + 6, liO dl 0), (N + 1, wyCell none), (N + 5, listO [.ref (N + 4)] 0), (N + 4, listO [.ref (N + 2), .ref (N + 3)] 0), (N + 2, listO [] 0), (N + 3, listO [] 0)]
    (N, 7) (K, 2) [0, 1, 7, 2, 6, 5, 3, 4] ?_ (fun _ h => (nomatch h)) trivial rfl ?_
  · obtain ⟨us5, ue5, up5, up6⟩ := u
    kernel_rfl
  · intro p' s' A
    have h2 := h.step rfl A
    let W0 : WAY := ⟨N + 4, N + 2, N + 3, [], []⟩
    have h3 : At (E2 w).kt rest m0 s0 s' ([(N + 0, wyF w.params (K + 0) (K + 1) dl (N + 5) none), (N + 6, liO dl 0), (dl, listO (ds.map DP.ref) ed), (N + 1, wyCell none), (N + 5, listO ([W0].map WAY.ref) 0)] ++ ([W0].flatMap WAY.objs ++ (dps ds ++ extra))) := h2.pk [dps ds, extra] [1, 2, 0, 3, 4, 5, 6, 7, 8, 9] rfl
    refine for_loop w (N + 0) (N + 1) (N + 6) dl _ u (K + 0) (K + 1) (ds.map DP.ref) ed _ ds 0 (N + 5) 0 none none [W0] extra p' s' (by rw [List.drop_zero]) ho h3 ?_
    intro wl ew fs news s2 hv hoS hw4 h4
    have h5 : At (E2 w).kt rest m0 s0 s2 ([(N + 0, wyF w.params (K + 0) (K + 1) dl wl fs), (wl, listO (news.map WAY.ref) ew)] ++ (news.flatMap WAY.objs ++ extra)) := h4.pk [news.flatMap WAY.objs, dps ds, extra] [0, 2, 3, 5] rfl
    refine run_on (E2 w) den_eq 100000 u.l _ _ s2 _ h5.left.loc h5.since.ktk h5.since.rest R (fun N K => .fin 15 [1, 2, 2, 1, 0, 0, 2, 3]) fun N2 K2 _ _ => ?_
    refine FinI.mk' [] [] (.cal (wrS (N2 + 2) (N2 + 0) (N2 + 1) (N + 0)) (fBel (N + 0) (N + 1) ⟨115, 49, 115, 53⟩ u))
      [(N2 + 0, liO wl 0), (N2 + 2, Sh.z.o w.params), (N2 + 1, listO [] 0), (wl, listO (news.map WAY.ref) ew)] (N2, 3) (K2, 0) [2, 4, 3, 1] ?_ (fun _ h => (nomatch h)) trivial rfl ?_
    · obtain ⟨us5, ue5, up5, up6⟩ := u
      cases fs <;> kernel_rfl
    · intro p3 s3 A3
      have h6 : At (E2 w).kt rest m0 s0 s3 ([(N2 + 0, liO wl 0)] ++ ([(N2 + 2, Sh.z.o w.params), (N2 + 1, listO [] 0), (wl, listO (news.map WAY.ref) ew)] ++ (news.flatMap WAY.objs ++ extra))) := h5.step rfl A3
      refine ret_start w (N + 0) (N + 1) _ u (N2 + 2) (N2 + 0) (N2 + 1) wl _ 0 p3 s3 h6.since.ktk h6.since.rest h6.left.loc fun top tok p4 s4 A4 => ?_
      have h7 : At (E2 w).kt rest m0 s0 s4 ([(N2 + 2, Sh.z.o w.params), (N2 + 0, liO wl 0), (N2 + 1, listO [] 0), (wl, listO (news.map WAY.ref) ew)] ++ (news.flatMap WAY.objs ++ extra)) := (h6.step rfl A4).perm (List.Perm.swap _ _ _)
      refine ret_loop w (N + 0) (N + 1) _ u (N2 + 2) (N2 + 0) (N2 + 1) wl (news.map WAY.ref) ew _ news 0 .z [] 0 extra p4 s4 (by rw [List.drop_zero]) rfl hw4 (by have := hoS.2.1; simp at this ⊢; omega) h7 ?_
      intro rs sh' ea' s5 hi2 hrs h8
      have hne : news ≠ [] := hoS.ways.2.2
      have h9 : At (E2 w).kt rest m0 s0 s5 ([(N2 + 2, sh'.o w.params)] ++ ([(N2 + 1, listO (rs.map RS.ref) ea')] ++ (rs.map RS.ob ++ extra))) := h8.pk [rs.map RS.ob, extra] [0, 1, 3, 4] rfl
      refine run_on (E2 w) den_eq 100000 u.l _ _ s5 _ h9.left.loc h9.since.ktk h9.since.rest R (fun N K => .fin 10 [1, 1, 0, 1, 1, 0]) fun N5 K5 _ _ => ?_
      refine FinI.mk' [] [] (.ans (.ok (.ret (.ref (N2 + 1))))) [] (N5, 0) (K5, 0) [] ?_ (fun _ h => (nomatch h)) trivial rfl ?_
      · obtain ⟨us5, ue5, up5, up6⟩ := u
        have := hi2 (.inl hne)
        cases sh' with
        | z => cases this
        | three => cases this
        | two => cases fs <;> kernel_rfl
      · intro s6 A6
        refine hR (N2 + 1) ea' rs s6 ?_ ?_ ?_ (h9.step rfl A6)
        · rw [hrs]
          have : (fun W : WAY => sumsOf (W.ws.map (·.1))) = (fun q : List Int × List Int => sumsOf q.2) ∘ WAY.v := rfl
          rw [this, ← List.map_map, hv]; rfl
        · intro e
          have := congrArg List.length hrs
          rw [e] at this
          simp at this
          exact hne (List.length_eq_zero_iff.mp this.symm)
        · have := congrArg List.length hrs
          have h1 := hoS.2.1
          simp at this h1
          omega
end Mine
end
noncomputable section
namespace Mine

/-! ## the plain law: who goes first and who goes last -/
noncomputable abbrev Dd := List (Bool × Int)
noncomputable def fθ (θ x : Int) : Int := max 0 (x - θ)
noncomputable def Fθ (θ : Int) (l : List Int) : Int := (l.map (fθ θ)).sum
theorem Fθ_append (θ : Int) (l m : List Int) : Fθ θ (l ++ m) = Fθ θ l + Fθ θ m := by simp [Fθ]
theorem monge (θ a b c d : Int) (h1 : a ≤ b) (h2 : c ≤ d) : fθ θ (c - a + 1) + fθ θ (d - b + 1) ≤ fθ θ (d - a + 1) + fθ θ (c - b + 1) := by
  unfold fθ; omega
/-- the cost of letting the first one go -/
noncomputable def fifo (θ : Int) : Dd → List Int → Int
  | [], _ => 0
  | (true, c) :: ds, th => fifo θ ds (th ++ [c])
  | (false, c) :: ds, x :: th => fθ θ (c - x + 1) + fifo θ ds th
  | (false, _) :: _, [] => 0
/-- the cost of letting the last one go; the last one stands at the head -/
noncomputable def lifo (θ : Int) : Dd → List Int → Int
  | [], _ => 0
  | (true, c) :: ds, th => lifo θ ds (c :: th)
  | (false, c) :: ds, x :: th => fθ θ (c - x + 1) + lifo θ ds th
  | (false, _) :: _, [] => 0
/-- all go in the end -/
noncomputable def comp : Dd → Nat → Prop
  | [], n => n = 0
  | (true, _) :: ds, n => comp ds (n + 1)
  | (false, _) :: ds, n => ∃ m, n = m + 1 ∧ comp ds m
/-- clocks that rise, from c on -/
noncomputable def rise : Int → Dd → Prop
  | _, [] => True
  | c, d :: ds => c ≤ d.2 ∧ rise d.2 ds
theorem rise.mono {c c' : Int} (h : c ≤ c') : ∀ {ds : Dd}, rise c' ds → rise c ds
  | [], _ => trivial
  | d :: ds, ⟨h1, h2⟩ => ⟨by omega, h2⟩
theorem fifo_swap (θ : Int) : ∀ (ds : Dd) (c h x : Int) (l r : List Int), rise c ds → h ≤ x → (∀ y ∈ l, y ≤ x) → comp ds (l.length + r.length + 1) →
    fθ θ (c - h + 1) + fifo θ ds (l ++ x :: r) ≤ fθ θ (c - x + 1) + fifo θ ds (h :: (l ++ r))
  | [], c, h, x, l, r, hr, hx, hl, hc => absurd hc (by show ¬ l.length + r.length + 1 = 0; omega)
  | (true, c') :: ds, c, h, x, l, r, hr, hx, hl, hc => by
    have ih := fifo_swap θ ds c h x l (r ++ [c']) (hr.2.mono hr.1) hx hl (by simp only [List.length_append, List.length_cons, List.length_nil]; exact hc)
    simp only [fifo]
    rw [List.append_assoc, List.cons_append, List.cons_append, List.append_assoc]
    exact ih
  | (false, c') :: ds, c, h, x, [], r, hr, hx, hl, hc => by
    have := monge θ h x c c' hx hr.1
    simp only [fifo, List.nil_append]
    omega
  | (false, c') :: ds, c, h, x, y :: l, r, hr, hx, hl, hc => by
    obtain ⟨n, hn, hc'⟩ := hc
    have ih := fifo_swap θ ds c' y x l r hr.2 (hl y (.head _)) (fun z hz => hl z (.tail _ hz)) (by
      have : n = l.length + r.length + 1 := by simp only [List.length_cons] at hn; omega
      exact this ▸ hc')
    have := monge θ h x c c' hx hr.1
    simp only [fifo, List.cons_append]
    omega
theorem lifo_swap (θ : Int) : ∀ (ds : Dd) (c z x : Int) (u l r : List Int), rise c ds → x ≤ z → (∀ y ∈ l, x ≤ y) → comp ds (u.length + l.length + r.length + 1) →
    fθ θ (c - x + 1) + lifo θ ds (u ++ z :: (l ++ r)) ≤ fθ θ (c - z + 1) + lifo θ ds (u ++ (l ++ x :: r))
  | [], c, z, x, u, l, r, hr, hx, hl, hc => absurd hc (by show ¬ u.length + l.length + r.length + 1 = 0; omega)
  | (true, c') :: ds, c, z, x, u, l, r, hr, hx, hl, hc => by
    have ih := lifo_swap θ ds c z x (c' :: u) l r (hr.2.mono hr.1) hx hl (by
      have : (c' :: u).length + l.length + r.length + 1 = u.length + l.length + r.length + 1 + 1 := by simp only [List.length_cons]; omega
      rw [this]; exact hc)
    simp only [lifo]
    exact ih
  | (false, c') :: ds, c, z, x, y :: u, l, r, hr, hx, hl, hc => by
    obtain ⟨n, hn, hc'⟩ := hc
    have ih := lifo_swap θ ds c z x u l r (hr.2.mono hr.1) hx hl (by
      have : n = u.length + l.length + r.length + 1 := by simp only [List.length_cons] at hn; omega
      exact this ▸ hc')
    simp only [lifo, List.cons_append]
    omega
  | (false, c') :: ds, c, z, x, [], [], r, hr, hx, hl, hc => by
    have := monge θ x z c c' hx hr.1
    simp only [lifo, List.nil_append]
    omega
  | (false, c') :: ds, c, z, x, [], y :: l, r, hr, hx, hl, hc => by
    obtain ⟨n, hn, hc'⟩ := hc
    have ih := lifo_swap θ ds c' y x [] l r hr.2 (hl y (.head _)) (fun z hz => hl z (.tail _ hz)) (by
      have : n = ([] : List Int).length + l.length + r.length + 1 := by simp only [List.length_cons, List.length_nil] at hn ⊢; omega
      exact this ▸ hc')
    have := monge θ x z c c' hx hr.1
    simp only [lifo, List.nil_append, List.cons_append] at ih ⊢
    omega

/-- what a way's state asks -/
structure PW (c : Int) (ds : Dd) (th : List Int) : Prop where
  up : th.Pairwise (· ≤ ·)
  le : ∀ x ∈ th, x ≤ c
  co : comp ds th.length
theorem pick {α : Type} {l : List α} {k : Nat} (h : k < l.length) : l = l.take k ++ l[k] :: l.drop (k + 1) := by
  rw [List.getElem_cons_drop, List.take_append_drop]
theorem PW.come {c c' : Int} {ds : Dd} {th : List Int} (h : PW c ((true, c') :: ds) th) (hc : c ≤ c') : PW c' ds (th ++ [c']) := by
  refine ⟨?_, fun x hx => ?_, by
    have := h.co
    rw [List.length_append]
    exact this⟩
  · rw [List.pairwise_append]
    exact ⟨h.up, by simp, fun a ha b hb => by have := h.le a ha; simp at hb; omega⟩
  · rcases List.mem_append.mp hx with hx | hx
    · have := h.le x hx; omega
    · simp at hx; omega
theorem PW.go {c c' : Int} {ds : Dd} {th : List Int} (h : PW c ((false, c') :: ds) th) (hc : c ≤ c') {k : Nat} (hk : k < th.length) : PW c' ds (th.take k ++ th.drop (k + 1)) := by
  have hs : (th.take k ++ th.drop (k + 1)).Sublist th := by
    conv => rhs; rw [pick hk]
    exact List.Sublist.append_left (List.sublist_cons_self _ _) _
  refine ⟨h.up.sublist hs, fun x hx => by have := h.le x (hs.subset hx); omega, ?_⟩
  obtain ⟨m, hm, hc'⟩ := h.co
  have : (th.take k ++ th.drop (k + 1)).length = m := by simp only [List.length_append, List.length_take, List.length_drop]; omega
  rw [this]; exact hc'
theorem PW.low (θ : Int) {c c' : Int} {ds : Dd} {th : List Int} (h : PW c ((false, c') :: ds) th) (hr : rise c' ds) {k : Nat} (hk : k < th.length) :
    fifo θ ((false, c') :: ds) th ≤ fθ θ (c' - th[k] + 1) + fifo θ ds (th.take k ++ th.drop (k + 1)) := by
  match k, th, hk, h with
  | 0, x :: th, _, h => simp only [fifo]; exact Int.le_refl _
  | k + 1, x :: th, hk, h =>
    have hk' : k < th.length := by simp only [List.length_cons] at hk; omega
    obtain ⟨m, hm, hc'⟩ := h.co
    obtain ⟨h1, h2⟩ := List.pairwise_cons.mp h.up
    have key := fifo_swap θ ds c' x th[k] (th.take k) (th.drop (k + 1)) hr (h1 _ (List.getElem_mem hk')) (fun y hy => ?_) (by
      have : (th.take k).length + (th.drop (k + 1)).length + 1 = m := by simp only [List.length_cons] at hm; simp only [List.length_take, List.length_drop]; omega
      rw [this]; exact hc')
    · rw [← pick hk'] at key
      simp only [fifo, List.getElem_cons_succ, List.take_succ_cons, List.drop_succ_cons, List.cons_append]
      exact key
    · rw [pick hk', List.pairwise_append] at h2
      exact h2.2.2 y hy _ (.head _)
theorem PW.high (θ : Int) {c c' : Int} {ds : Dd} {th : List Int} (h : PW c ((false, c') :: ds) th) (hr : rise c' ds) {k : Nat} (hk : k < th.length) :
    fθ θ (c' - th[k] + 1) + lifo θ ds (th.take k ++ th.drop (k + 1)).reverse ≤ lifo θ ((false, c') :: ds) th.reverse := by
  obtain ⟨m, hm, hc'⟩ := h.co
  have hu := h.up
  rw [pick hk, List.pairwise_append, List.pairwise_cons] at hu
  have e1 : th.reverse = (th.drop (k + 1)).reverse ++ th[k] :: (th.take k).reverse := by
    conv => lhs; rw [pick hk]
    simp
  rw [e1, List.reverse_append]
  cases hd : (th.drop (k + 1)).reverse with
  | nil => simp only [lifo, List.nil_append]; exact Int.le_refl _
  | cons z l =>
    have hz : ∀ y ∈ z :: l, th[k] ≤ y := fun y hy => hu.2.1.1 y (List.mem_reverse.mp (hd ▸ hy))
    have hlen : l.length + 1 = (th.drop (k + 1)).length := by have := congrArg List.length hd; rw [List.length_reverse] at this; exact this.symm
    have key := lifo_swap θ ds c' z th[k] [] l (th.take k).reverse hr (hz z (.head _)) (fun y hy => hz y (.tail _ hy)) (by
      have : ([] : List Int).length + l.length + (th.take k).reverse.length + 1 = m := by simp only [List.length_nil, List.length_reverse, List.length_take, List.length_drop] at hlen ⊢; omega
      rw [this]; exact hc')
    simp only [List.nil_append] at key
    simp only [lifo, List.cons_append]
    exact key

theorem ways_both (θ : Int) : ∀ (ds : Dd) (c : Int) (ps : List (List Int × List Int)), rise c ds → (∀ p ∈ ps, PW c ds p.1) → ∀ q ∈ foldW ds ps, ∃ p ∈ ps, Fθ θ p.2 + fifo θ ds p.1 ≤ Fθ θ q.2 ∧ Fθ θ q.2 ≤ Fθ θ p.2 + lifo θ ds p.1.reverse
  | [], c, ps, hr, hp, q, hq => ⟨q, hq, by simp [fifo], by simp [lifo]⟩
  | (true, c') :: ds, c, ps, hr, hp, q, hq => by
    obtain ⟨p', hp', h1, h2⟩ := ways_both θ ds c' (stepV true c' ps) hr.2 (fun p' hp' => by
      obtain ⟨p, hpp, rfl⟩ := List.mem_map.mp hp'
      exact (hp p hpp).come hr.1) q hq
    obtain ⟨p, hpp, rfl⟩ := List.mem_map.mp hp'
    refine ⟨p, hpp, h1, ?_⟩
    have e : (comeAt c' p).1.reverse = c' :: p.1.reverse := by simp [comeAt]
    rw [e] at h2
    exact h2
  | (false, c') :: ds, c, ps, hr, hp, q, hq => by
    obtain ⟨p', hp', h1, h2⟩ := ways_both θ ds c' (stepV false c' ps) hr.2 (fun p' hp' => by
      obtain ⟨p, hpp, hk⟩ := List.mem_flatMap.mp hp'
      obtain ⟨k, hk2, rfl⟩ := List.mem_map.mp hk
      exact (hp p hpp).go hr.1 (List.mem_range.mp hk2)) q hq
    obtain ⟨p, hpp, hk1⟩ := List.mem_flatMap.mp hp'
    obtain ⟨k, hk2, rfl⟩ := List.mem_map.mp hk1
    have hk := List.mem_range.mp hk2
    have l1 := (hp p hpp).low θ hr.2 hk
    have l2 := (hp p hpp).high θ hr.2 hk
    have e : Fθ θ (goAt c' p k).2 = Fθ θ p.2 + fθ θ (c' - p.1[k] + 1) := by
      unfold goAt
      rw [Fθ_append, List.getElem?_eq_getElem hk]
      simp [Fθ]
    rw [e] at h1 h2
    refine ⟨p, hpp, ?_, ?_⟩
    · have : Fθ θ p.2 + fθ θ (c' - p.1[k] + 1) + fifo θ ds (p.1.take k ++ p.1.drop (k + 1)) ≤ Fθ θ q.2 := h1
      omega
    · have : Fθ θ q.2 ≤ Fθ θ p.2 + fθ θ (c' - p.1[k] + 1) + lifo θ ds (p.1.take k ++ p.1.drop (k + 1)).reverse := h2
      omega

/-! ## the sums of the longest, from the costs -/
theorem perm_sum {l m : List Int} (h : l.Perm m) : l.sum = m.sum := by
  induction h with
  | nil => rfl
  | cons x _ ih => rw [List.sum_cons, List.sum_cons, ih]
  | swap x y l => rw [List.sum_cons, List.sum_cons, List.sum_cons, List.sum_cons]; omega
  | trans _ _ h1 h2 => exact h1.trans h2
theorem fz0 {θ x : Int} (h : x ≤ θ) : fθ θ x = 0 := by unfold fθ; omega
theorem fz1 {θ x : Int} (h : θ ≤ x) : fθ θ x = x - θ := by unfold fθ; omega
theorem fz2 (θ x : Int) : x - θ ≤ fθ θ x := by unfold fθ; omega
theorem fz3 (θ x : Int) : 0 ≤ fθ θ x := by unfold fθ; omega
theorem F_sort (θ : Int) (l : List Int) : Fθ θ (sortI l) = Fθ θ l := by
  unfold Fθ
  exact perm_sum ((List.mergeSort_perm l _).map _)
theorem sortI_up (l : List Int) : (sortI l).Pairwise (· ≤ ·) := by
  have := List.pairwise_mergeSort (le := fun a b : Int => decide (a ≤ b)) (fun a b c h1 h2 => by simp at *; omega) (fun a b => by simp; omega) l
  exact this.imp fun h => by simpa using h
theorem sums_le {l m : List Int} (hl : l.length = 4) (hm : m.length = 4) (h : ∀ θ, Fθ θ l ≤ Fθ θ m) : ∀ k, k < 4 → ((sumsOf l)[k]?).getD 0 ≤ ((sumsOf m)[k]?).getD 0 := by
  have h1 : ∀ θ, Fθ θ (sortI l) ≤ Fθ θ (sortI m) := fun θ => by rw [F_sort, F_sort]; exact h θ
  have ul := sortI_up l
  have um := sortI_up m
  have ll : (sortI l).length = 4 := by rw [sortI_len]; exact hl
  have lm : (sortI m).length = 4 := by rw [sortI_len]; exact hm
  unfold sumsOf
  generalize sortI l = a at *
  generalize sortI m = b at *
  match a, ll, b, lm with
  | [a1, a2, a3, a4], _, [b1, b2, b3, b4], _ =>
    simp only [List.pairwise_cons, List.mem_cons, List.not_mem_nil, or_false, forall_eq_or_imp, forall_eq] at ul um
    obtain ⟨⟨u12, u13, u14⟩, ⟨u23, u24⟩, u34, _⟩ := um
    clear ul h ll lm
    intro k hk
    match k, hk with
    | 0, _ =>
      have t := h1 b4
      have e1 := fz0 u14; have e2 := fz0 u24; have e3 := fz0 u34; have e4 := fz0 (Int.le_refl b4)
      have g1 := fz3 b4 a1; have g2 := fz3 b4 a2; have g3 := fz3 b4 a3; have g4 := fz2 b4 a4
      simp only [Fθ, List.map_cons, List.map_nil, List.sum_cons, List.sum_nil, e1, e2, e3, e4] at t
      show a4 + 0 ≤ b4 + 0
      omega
    | 1, _ =>
      have t := h1 b3
      have e1 := fz0 u13; have e2 := fz0 u23; have e3 := fz0 (Int.le_refl b3); have e4 := fz1 u34
      have g1 := fz3 b3 a1; have g2 := fz3 b3 a2; have g3 := fz2 b3 a3; have g4 := fz2 b3 a4
      simp only [Fθ, List.map_cons, List.map_nil, List.sum_cons, List.sum_nil, e1, e2, e3, e4] at t
      show a3 + (a4 + 0) ≤ b3 + (b4 + 0)
      omega
    | 2, _ =>
      have t := h1 b2
      have e1 := fz0 u12; have e2 := fz0 (Int.le_refl b2); have e3 := fz1 u23; have e4 := fz1 u24
      have g1 := fz3 b2 a1; have g2 := fz2 b2 a2; have g3 := fz2 b2 a3; have g4 := fz2 b2 a4
      simp only [Fθ, List.map_cons, List.map_nil, List.sum_cons, List.sum_nil, e1, e2, e3, e4] at t
      show a2 + (a3 + (a4 + 0)) ≤ b2 + (b3 + (b4 + 0))
      omega
    | 3, _ =>
      have t := h1 b1
      have e1 := fz0 (Int.le_refl b1); have e2 := fz1 u12; have e3 := fz1 u13; have e4 := fz1 u14
      have g1 := fz2 b1 a1; have g2 := fz2 b1 a2; have g3 := fz2 b1 a3; have g4 := fz2 b1 a4
      simp only [Fθ, List.map_cons, List.map_nil, List.sum_cons, List.sum_nil, e1, e2, e3, e4] at t
      show a1 + (a2 + (a3 + (a4 + 0))) ≤ b1 + (b2 + (b3 + (b4 + 0)))
      omega

/-! ## the states of the main loop -/
theorem foldW_app : ∀ (ds es : Dd) (ps : List (List Int × List Int)), foldW (ds ++ es) ps = foldW es (foldW ds ps)
  | [], es, ps => rfl
  | d :: ds, es, ps => foldW_app ds es _
noncomputable def L2 (l : List (Nat × Int)) : List Int := l.map (·.2)
theorem Reach.fifo {a : AS} (h : Reach a) (θ : Int) : ∀ ds, Mine.fifo θ (a.D ++ ds) [] = Fθ θ (L2 a.G0) + Mine.fifo θ ds (L2 a.L) := by
  induction h with
  | zero => intro ds; simp [Fθ, L2]
  | come a t hr hm h0 h2 ih =>
    intro ds
    dsimp only
    rw [List.append_assoc, ih]
    simp [Mine.fifo, L2]
  | go a t x y L' Pl' hr hL hPl h0 h2 ih =>
    intro ds
    dsimp only
    rw [List.append_assoc, ih, hL]
    simp [Mine.fifo, L2, Fθ]
    omega
theorem Reach.lifo {a : AS} (h : Reach a) (θ : Int) : ∀ ds, Mine.lifo θ (a.D ++ ds) [] = Fθ θ (L2 a.G1) + Mine.lifo θ ds (L2 a.Pl).reverse := by
  induction h with
  | zero => intro ds; simp [Fθ, L2]
  | come a t hr hm h0 h2 ih =>
    intro ds
    dsimp only
    rw [List.append_assoc, ih]
    simp [Mine.lifo, L2]
  | go a t x y L' Pl' hr hL hPl h0 h2 ih =>
    intro ds
    dsimp only
    rw [List.append_assoc, ih, hPl]
    simp [Mine.lifo, L2, Fθ]
    omega
noncomputable def start : List (List Int × List Int) := [([], [])]
theorem Reach.in0 {a : AS} (h : Reach a) : (L2 a.L, L2 a.G0) ∈ foldW a.D start := by
  induction h with
  | zero => exact .head _
  | come a t hr hm h0 h2 ih =>
    dsimp only
    rw [foldW_app]
    exact List.mem_map.mpr ⟨_, ih, by simp [comeAt, L2]⟩
  | go a t x y L' Pl' hr hL hPl h0 h2 ih =>
    dsimp only
    rw [foldW_app]
    refine List.mem_flatMap.mpr ⟨_, ih, List.mem_map.mpr ⟨0, List.mem_range.mpr (by rw [hL]; simp [L2]), ?_⟩⟩
    rw [hL]
    simp [goAt, L2]
theorem Reach.in1 {a : AS} (h : Reach a) : (L2 a.Pl, L2 a.G1) ∈ foldW a.D start := by
  induction h with
  | zero => exact .head _
  | come a t hr hm h0 h2 ih =>
    dsimp only
    rw [foldW_app]
    exact List.mem_map.mpr ⟨_, ih, by simp [comeAt, L2]⟩
  | go a t x y L' Pl' hr hL hPl h0 h2 ih =>
    dsimp only
    rw [foldW_app]
    refine List.mem_flatMap.mpr ⟨_, ih, List.mem_map.mpr ⟨Pl'.length, List.mem_range.mpr (by rw [hPl]; simp [L2]), ?_⟩⟩
    rw [hPl]
    simp [goAt, L2]
theorem rise_app {c : Int} : ∀ {ds : Dd} {d : Bool × Int}, rise c ds → (∀ e ∈ ds, e.2 ≤ d.2) → c ≤ d.2 → rise c (ds ++ [d])
  | [], d, _, _, h => ⟨h, trivial⟩
  | e :: ds, d, ⟨h1, h2⟩, h, hc => ⟨h1, rise_app h2 (fun x hx => h x (.tail _ hx)) (h e (.head _))⟩
theorem Reach.rise {a : AS} (h : Reach a) : Mine.rise 0 a.D ∧ (∀ e ∈ a.D, e.2 ≤ a.c) ∧ 0 ≤ a.c := by
  induction h with
  | zero => exact ⟨trivial, fun _ h => (nomatch h), Int.le_refl _⟩
  | come a t hr hm h0 h2 ih =>
    obtain ⟨i1, i2, i3⟩ := ih
    refine ⟨rise_app i1 i2 i3, fun e he => ?_, by dsimp only; omega⟩
    dsimp only at he ⊢
    rcases List.mem_append.mp he with he | he
    · have := i2 e he; omega
    · simp at he; subst he; dsimp only; omega
  | go a t x y L' Pl' hr hL hPl h0 h2 ih =>
    obtain ⟨i1, i2, i3⟩ := ih
    refine ⟨rise_app i1 i2 i3, fun e he => ?_, by dsimp only; omega⟩
    dsimp only at he ⊢
    rcases List.mem_append.mp he with he | he
    · have := i2 e he; omega
    · simp at he; subst he; dsimp only; omega
theorem Reach.comp {a : AS} (h : Reach a) : ∀ ds, Mine.comp ds a.L.length → Mine.comp (a.D ++ ds) 0 := by
  induction h with
  | zero => intro ds h; exact h
  | come a t hr hm h0 h2 ih =>
    intro ds hc
    dsimp only at hc ⊢
    rw [List.append_assoc]
    refine ih _ ?_
    simp at hc
    exact hc
  | go a t x y L' Pl' hr hL hPl h0 h2 ih =>
    intro ds hc
    dsimp only at hc ⊢
    rw [List.append_assoc]
    refine ih _ ?_
    rw [hL]
    exact ⟨_, rfl, hc⟩
/-- sizes of all ways -/
noncomputable def szW (n g : Nat) (ps : List (List Int × List Int)) : Prop := ps ≠ [] ∧ ps.length ≤ 4 ^ g ∧ ∀ p ∈ ps, p.1.length = n ∧ p.2.length = g
theorem szW.come {n g : Nat} {ps : List (List Int × List Int)} (h : szW n g ps) (c : Int) : szW (n + 1) g (stepV true c ps) := by
  obtain ⟨h1, h2, h3⟩ := h
  refine ⟨by simpa [stepV] using h1, by simpa [stepV] using h2, fun p hp => ?_⟩
  obtain ⟨q, hq, rfl⟩ := List.mem_map.mp hp
  have := h3 q hq
  simp [comeAt, this.1, this.2]
theorem flat_len {α β : Type} (f : α → List β) (k : Nat) : ∀ (l : List α), (∀ x ∈ l, (f x).length ≤ k) → (l.flatMap f).length ≤ k * l.length
  | [], _ => Nat.zero_le _
  | x :: l, h => by
    have h1 := h x (.head _)
    have h2 := flat_len f k l fun y hy => h y (.tail _ hy)
    rw [List.flatMap_cons, List.length_append, List.length_cons, Nat.mul_succ]
    omega
theorem szW.go {n g : Nat} {ps : List (List Int × List Int)} (h : szW (n + 1) g ps) (hn : n + 1 ≤ 4) (c : Int) : szW n (g + 1) (stepV false c ps) := by
  obtain ⟨h1, h2, h3⟩ := h
  have e : ∀ p ∈ ps, ((List.range p.1.length).map (goAt c p)).length = n + 1 := fun p hp => by simp [(h3 p hp).1]
  refine ⟨?_, ?_, fun p hp => ?_⟩
  · obtain ⟨p, l, rfl⟩ := List.exists_cons_of_ne_nil h1
    have := e p (.head _)
    intro hc
    have hc2 : ((List.range p.1.length).map (goAt c p)) ++ l.flatMap (fun p => (List.range p.1.length).map (goAt c p)) = [] := hc
    have h0 := congrArg List.length (List.append_eq_nil_iff.mp hc2).1
    rw [this] at h0
    exact absurd h0 (by simp)
  · have := flat_len (fun p : List Int × List Int => (List.range p.1.length).map (goAt c p)) 4 ps fun p hp => by have := e p hp; omega
    rw [Nat.pow_succ]
    show (ps.flatMap _).length ≤ _
    omega
  · obtain ⟨q, hq, hk⟩ := List.mem_flatMap.mp hp
    obtain ⟨k, hk2, rfl⟩ := List.mem_map.mp hk
    have hk := List.mem_range.mp hk2
    have := h3 q hq
    unfold goAt
    simp only [List.length_append, List.length_take, List.length_drop, List.length_cons, List.length_nil]
    omega
theorem Reach.sz {a : AS} (h : Reach a) : szW a.L.length a.G0.length (foldW a.D start) := by
  induction h with
  | zero => exact ⟨by simp [foldW, start], by simp [foldW, start], fun p hp => by simp [foldW, start] at hp; subst hp; exact ⟨rfl, rfl⟩⟩
  | come a t hr hm h0 h2 ih =>
    dsimp only
    rw [foldW_app, List.length_append]
    exact ih.come _
  | go a t x y L' Pl' hr hL hPl h0 h2 ih =>
    have hf := hr.facts
    dsimp only
    rw [foldW_app, List.length_append]
    rw [hL] at ih
    exact ih.go (by have h1 := hf.lm; have h2 := hf.m4; rw [hL, List.length_cons] at h1; omega) _
theorem szW.ok {n g : Nat} {ps : List (List Int × List Int)} (h : szW n g ps) (hn : n ≤ 4) (hg : g ≤ 4) : wayOk ps := by
  refine ⟨h.1, ?_, fun p hp => by have := h.2.2 p hp; omega⟩
  have : 4 ^ g ≤ 4 ^ 4 := Nat.pow_le_pow_right (by decide) hg
  have := h.2.1
  omega
noncomputable def okW' : Dd → List (List Int × List Int) → Prop
  | [], ps => wayOk ps
  | d :: ds, ps => wayOk ps ∧ (d.1 = false → ∀ p ∈ ps, p.1 ≠ []) ∧ okW' ds (stepV d.1 d.2 ps)
theorem okW'_app : ∀ {ds : Dd} {d : Bool × Int} {ps : List (List Int × List Int)}, okW' ds ps → (d.1 = false → ∀ p ∈ foldW ds ps, p.1 ≠ []) → wayOk (stepV d.1 d.2 (foldW ds ps)) → okW' (ds ++ [d]) ps
  | [], d, ps, h, h1, h2 => ⟨h, h1, h2⟩
  | e :: ds, d, ps, ⟨q1, q2, q3⟩, h1, h2 => ⟨q1, q2, okW'_app q3 h1 h2⟩
theorem okW'_end : ∀ {ds : Dd} {ps : List (List Int × List Int)}, okW' ds ps → (∀ p ∈ foldW ds ps, p.2.length = 4) → okW ds ps
  | [], ps, h, h1 => ⟨h, h1⟩
  | e :: ds, ps, ⟨q1, q2, q3⟩, h1 => ⟨q1, q2, okW'_end q3 h1⟩
theorem Reach.ok {a : AS} (h : Reach a) : okW' a.D start := by
  induction h with
  | zero => exact Reach.zero.sz.ok (by decide) (by decide)
  | come a t hr hm h0 h2 ih =>
    refine okW'_app ih (fun h => nomatch h) ?_
    have hf := (Reach.come a t hr hm h0 h2).facts
    have hs := (Reach.come a t hr hm h0 h2).sz
    have := hs.ok (by have := hf.lm; have := hf.m4; omega) (by have := hf.lm; have := hf.m4; omega)
    dsimp only at this
    rw [foldW_app] at this
    exact this
  | go a t x y L' Pl' hr hL hPl h0 h2 ih =>
    refine okW'_app ih (fun _ p hp => ?_) ?_
    · have := (hr.sz.2.2 p hp).1
      rw [hL] at this
      intro e
      rw [e] at this
      simp at this
    · have hf := (Reach.go a t x y L' Pl' hr hL hPl h0 h2).facts
      have hs := (Reach.go a t x y L' Pl' hr hL hPl h0 h2).sz
      have := hs.ok (by have := hf.lm; have := hf.m4; omega) (by have := hf.lm; have := hf.m4; omega)
      dsimp only at this
      rw [foldW_app] at this
      exact this
end Mine
end
noncomputable section
namespace Mine
open PySem PySem.W PySem.W.X
open PySem.Sem (wp finPost)

noncomputable def isLeast (l : List Int) (i : Int) : Prop := i ∈ l ∧ ∀ j ∈ l, i ≤ j
noncomputable def isMost (l : List Int) (i : Int) : Prop := i ∈ l ∧ ∀ j ∈ l, j ≤ i
theorem valAt_map (xs : List (Int × Tok)) (i : Nat) (h : i < xs.length) : valAt xs i ∈ xs.map (·.1) := by
  unfold valAt
  rw [List.getElem?_eq_getElem h]
  exact List.mem_map_of_mem (List.getElem_mem h)
theorem valAt_all (xs : List (Int × Tok)) (P : Int → Prop) (h : ∀ i, i < xs.length → P (valAt xs i)) : ∀ j ∈ xs.map (·.1), P j := by
  intro j hj
  obtain ⟨x, hx, rfl⟩ := List.mem_map.mp hj
  obtain ⟨i, hi, rfl⟩ := List.mem_iff_getElem.mp hx
  have := h i hi
  unfold valAt at this
  rwa [List.getElem?_eq_getElem hi] at this
theorem least_best (xs : List (Int × Tok)) (h : xs ≠ []) : isLeast (xs.map (·.1)) (valAt xs (argBest (fun i j => decide (valAt xs i < valAt xs j)) (xs.length - 1))) := by
  have hl : 0 < xs.length := List.length_pos_iff.mpr h
  obtain ⟨h1, h2⟩ := PySem.argBest_lt (valAt xs) (xs.length - 1)
  exact ⟨valAt_map xs _ (by omega), valAt_all xs _ fun i hi => h2 i (by omega)⟩
theorem most_best (xs : List (Int × Tok)) (h : xs ≠ []) : isMost (xs.map (·.1)) (valAt xs (argBest (fun i j => decide (valAt xs i > valAt xs j)) (xs.length - 1))) := by
  have hl : 0 < xs.length := List.length_pos_iff.mpr h
  obtain ⟨h1, h2⟩ := PySem.argBest_gt (valAt xs) (xs.length - 1)
  exact ⟨valAt_map xs _ (by omega), valAt_all xs _ fun i hi => h2 i (by omega)⟩
theorem intsV_val {xs : List (Int × Tok)} {i : Nat} {v : Value} (h : (intsV xs).toArray[i]? = some v) : ∃ t, v = .int (valAt xs i) t := by
  rw [List.getElem?_toArray, intsV, List.getElem?_map] at h
  obtain ⟨x, hx, rfl⟩ := Option.map_eq_some_iff.mp h
  refine ⟨x.2, ?_⟩
  unfold valAt
  rw [hx]
noncomputable def mmN (m : Bool) : String := match m with | true => "min" | false => "max"
noncomputable def mmP (m : Bool) : List Int → Int → Prop := match m with | true => isLeast | false => isMost
theorem mm_fin {rest : Array GenState × Drawn × OsState} {s s' : Shared} {l : Addr} {xs : List (Int × Tok)} {ep : Nat} {P : Int → Prop} {H2 : Heap} {v : Value} {i : Int} {c : Nat} {wr : List Addr} (hl : s.heap.get? l = some (listO (intsV xs) ep)) (hr : (s.gens, s.drawn, s.os) = rest) (hv : ∃ t, v = .int i t) (hP : P i)
    (up : ∀ b o, s.heap.get? b = some o → H2.get? b = some o) (hw : ∀ a ∈ wr, s.heap.objs.size ≤ a) (hm : Moved wr (fun a b => b = a) { s with heap := H2, toks := c } s') :
      ∃ o : Outc, o.r = .ok (.ret v) ∧ QInt P [listO (intsV xs) ep] o ∧ PostW rest [(l, listO (intsV xs) ep)] s o s' := by
  obtain ⟨t, rfl⟩ := hv
  have hp : ∀ x ∈ [(l, listO (intsV xs) ep)], s.heap.get? x.1 = some x.2 := fun x hx => by
    obtain rfl : x = _ := by simpa using hx
    exact hl
  refine ⟨⟨.ok (.ret (.int i t)), [listO (intsV xs) ep], [], s'.heap.objs.size, s'.toks⟩, rfl, ⟨i, t, _, _, hP, rfl⟩, ?_⟩
  refine postW_same (pre := [(l, listO (intsV xs) ep)]) hp (fun b o e => hm.heap b o (fun hb => ?_) (up b o e)) ?_
  · exact absurd (Nat.lt_of_lt_of_le (Heap.lt_size e) (hw b hb)) (Nat.lt_irrefl _)
  · have h1 := hm.gens
    have h2 := hm.drawn
    have h3 := hm.os
    rw [h1, h2, h3]
    exact hr
theorem ctr_min (E : En) (bel : List (Code × Pos)) (l : Addr) (xs : List (Int × Tok)) (ep : Nat) (hx : xs ≠ []) :
    Ctr E bel (.builtin "min" ⟨[.ref l], []⟩) [(l, listO (intsV xs) ep)] (QInt (isLeast (xs.map (·.1))) [listO (intsV xs) ep]) := by
  have hn' : (intsV xs).toArray.size = xs.length := by simp [intsV]
  have hpos : 0 < (intsV xs).toArray.size := by rw [hn']; exact List.length_pos_iff.mpr hx
  refine ctr_lib fun A s rest hh hk hp hn hkn hr => ?_
  have hl : s.heap.get? l = some (listO (intsV xs) ep) := hp _ (.head _)
  have hlist : s.heap.IsList l (intsV xs).toArray := ⟨_, hl, rfl, ep, rfl⟩
  have hlt : l < s.heap.objs.size := Heap.lt_size hl
  have hne : l ≠ s.heap.objs.size := Nat.ne_of_lt hlt
  have W := (Walks.list (prog := E.prog) (w := E.w) (A := A.in1) hh s.heap.objs.size l hne (intsV xs).toArray).toS
  have hname : (toString "min" ++ toString ".loop" : String) = "min.loop" := by decide
  refine codeAny_builtin F.entry_min ?_
  rw [Around.under_plainId F.plain_min _]
  show wpAny _ A.in1 (Builtin.Builtins.bindParams "min" ["key", "default"] 0 ⟨[], []⟩ >>= _) _ _ s
  refine wpAny_bind (wpAny_of_eq (show Builtin.Builtins.bindParams "min" ["key", "default"] 0 ⟨[], []⟩ = pure [none, none] from rfl) ?_)
  refine wpAny_bind (wpAny_pure ?_)
  refine wpAny_bind (wpAny_pyIter_list hlist ?_)
  refine wpAny_bind (wpAny_newObj_type ?_)
  generalize hH : s.heap.push { cls := .type "list_iterator", data := .fields #[.ref l, .int 0 0] } = H
  have hHs : H.objs.size = s.heap.objs.size + 1 := by rw [← hH, Heap.size_push]
  have up : ∀ b o, s.heap.get? b = some o → H.get? b = some o := fun b o e => by rw [← hH]; exact Heap.get?_push_of_some _ e
  have hI : H.get? s.heap.objs.size = some { cls := .type "list_iterator", data := .fields #[.ref l, .int 0 0] } := by rw [← hH]; exact Heap.get?_push_size _ rfl
  have hSf : H.objs.size ∉ [s.heap.objs.size, l] := fun hm => by
    rcases List.mem_cons.mp hm with q | hm
    · exact absurd (hHs.symm.trans q) (Nat.succ_ne_self _)
    · have q := List.mem_singleton.mp hm
      rw [← q, hHs] at hlt
      exact absurd hlt (Nat.not_lt.mpr (Nat.le_succ _))
  rw [hname]
  refine wpAny_pure ⟨plainId_quiet F.plain_min_loop _, codeAny_min_loop_firstS W _ (CmpOf.ints_lt (valAt xs) fun i v h => intsV_val h) H.objs.size hSf hpos
    ⟨⟨_, Heap.get?_push_of_some _ hI, rfl, rfl⟩, ⟨_, Heap.get?_push_of_some _ (up _ _ hl), rfl, ep, rfl⟩⟩ (Heap.get?_push_size _ rfl) fun v s' hP hm => ?_⟩
  rw [hn'] at hP
  refine mm_fin (P := isLeast (xs.map (·.1))) (c := s.toks) hl hr (intsV_val hP) (least_best xs hx) (fun b o e => Heap.get?_push_of_some _ (up b o e)) (fun a ha => ?_) hm
  rcases List.mem_cons.mp ha with rfl | ha
  · rw [hHs]; exact Nat.le_succ _
  · rw [List.mem_singleton.mp ha]; exact Nat.le_refl _
theorem ctr_max (E : En) (bel : List (Code × Pos)) (l : Addr) (xs : List (Int × Tok)) (ep : Nat) (hx : xs ≠ []) :
    Ctr E bel (.builtin "max" ⟨[.ref l], []⟩) [(l, listO (intsV xs) ep)] (QInt (isMost (xs.map (·.1))) [listO (intsV xs) ep]) := by
  have hn' : (intsV xs).toArray.size = xs.length := by simp [intsV]
  have hpos : 0 < (intsV xs).toArray.size := by rw [hn']; exact List.length_pos_iff.mpr hx
  refine ctr_lib fun A s rest hh hk hp hn hkn hr => ?_
  have hl : s.heap.get? l = some (listO (intsV xs) ep) := hp _ (.head _)
  have hlist : s.heap.IsList l (intsV xs).toArray := ⟨_, hl, rfl, ep, rfl⟩
  have hlt : l < s.heap.objs.size := Heap.lt_size hl
  have hne : l ≠ s.heap.objs.size := Nat.ne_of_lt hlt
  have W := (Walks.list (prog := E.prog) (w := E.w) (A := A.in1) hh s.heap.objs.size l hne (intsV xs).toArray).toS
  have hname : (toString "max" ++ toString ".loop" : String) = "max.loop" := by decide
  refine codeAny_builtin F.entry_max ?_
  rw [Around.under_plainId F.plain_max _]
  show wpAny _ A.in1 (Builtin.Builtins.bindParams "max" ["key", "default"] 0 ⟨[], []⟩ >>= _) _ _ s
  refine wpAny_bind (wpAny_of_eq (show Builtin.Builtins.bindParams "max" ["key", "default"] 0 ⟨[], []⟩ = pure [none, none] from rfl) ?_)
  refine wpAny_bind (wpAny_pure ?_)
  refine wpAny_bind (wpAny_pyIter_list hlist ?_)
  refine wpAny_bind (wpAny_newObj_type ?_)
  generalize hH : s.heap.push { cls := .type "list_iterator", data := .fields #[.ref l, .int 0 0] } = H
  have hHs : H.objs.size = s.heap.objs.size + 1 := by rw [← hH, Heap.size_push]
  have up : ∀ b o, s.heap.get? b = some o → H.get? b = some o := fun b o e => by rw [← hH]; exact Heap.get?_push_of_some _ e
  have hI : H.get? s.heap.objs.size = some { cls := .type "list_iterator", data := .fields #[.ref l, .int 0 0] } := by rw [← hH]; exact Heap.get?_push_size _ rfl
  have hSf : H.objs.size ∉ [s.heap.objs.size, l] := fun hm => by
    rcases List.mem_cons.mp hm with q | hm
    · exact absurd (hHs.symm.trans q) (Nat.succ_ne_self _)
    · have q := List.mem_singleton.mp hm
      rw [← q, hHs] at hlt
      exact absurd hlt (Nat.not_lt.mpr (Nat.le_succ _))
  rw [hname]
  refine wpAny_pure ⟨plainId_quiet F.plain_max_loop _, codeAny_max_loop_firstS W _ (CmpOf.ints_gt (valAt xs) fun i v h => intsV_val h) H.objs.size hSf hpos
    ⟨⟨_, Heap.get?_push_of_some _ hI, rfl, rfl⟩, ⟨_, Heap.get?_push_of_some _ (up _ _ hl), rfl, ep, rfl⟩⟩ (Heap.get?_push_size _ rfl) fun v s' hP hm => ?_⟩
  rw [hn'] at hP
  refine mm_fin (P := isMost (xs.map (·.1))) (c := s.toks) hl hr (intsV_val hP) (most_best xs hx) (fun b o e => Heap.get?_push_of_some _ (up b o e)) (fun a ha => ?_) hm
  rcases List.mem_cons.mp ha with rfl | ha
  · rw [hHs]; exact Nat.le_succ _
  · rw [List.mem_singleton.mp ha]; exact Nat.le_refl _
noncomputable def fMM (P : Int → Prop) (ob : Obj) (d : {d : Int × Nat × Nat × Nat // P d.1}) : Outc := ⟨.ok (.ret (.int d.1.1 d.1.2.1)), [ob], [], d.1.2.2.1, d.1.2.2.2⟩
theorem ctF_mm (E : En) (bel : List (Code × Pos)) (m : Bool) (l : Addr) (xs : List (Int × Tok)) (ep : Nat) (hx : xs ≠ []) :
    Ctr E bel (.builtin (mmN m) ⟨[.ref l], []⟩) [(l, listO (intsV xs) ep)] (QF (fMM (mmP m (xs.map (·.1))) (listO (intsV xs) ep))) := by
  cases m with
  | true => exact (ctr_min E bel l xs ep hx).mono fun o ⟨i, t, a, b, h, e⟩ => ⟨⟨(i, t, a, b), h⟩, e⟩
  | false => exact (ctr_max E bel l xs ep hx).mono fun o ⟨i, t, a, b, h, e⟩ => ⟨⟨(i, t, a, b), h⟩, e⟩
noncomputable def fMM0 (m : Bool) (xs : List (Int × Tok)) (hx : xs ≠ []) : {d : Int × Nat × Nat × Nat // mmP m (xs.map (·.1)) d.1} := match m with
  | true => ⟨(_, 0, 0, 0), least_best xs hx⟩
  | false => ⟨(_, 0, 0, 0), most_best xs hx⟩
end Mine
end
noncomputable section
namespace Mine
open PySem PySem.W PySem.W.X

/-! ## the least and the most of each sum -/
noncomputable def arg0 : PySem.Expr → PySem.Expr
  | .Call _ (a :: _) _ _ => a
  | e => e
noncomputable def mmO : Bool → PySem.Expr
  | true => asV (stAt (fBody fLaw) 7)
  | false => asV (stAt (fBody fLaw) 8)
noncomputable def mmI (m : Bool) : PySem.Expr := arg0 (lcE (mmO m))
noncomputable def moEnv (m : Bool) (φ kc : Addr) : Env := { scope := cpScope (mmO m), locals := φ, globals := 3, cells := [(S "k", kc), (S "ways", 211)], qual := S "law.<locals>.", func := none, code := .ref 207, frame := some 210, builtins := 0 }
noncomputable def miEnv (m : Bool) (φ kc : Addr) : Env := { scope := cpScope (mmI m), locals := φ, globals := 3, cells := [(S "k", kc)], qual := S "law.<locals>.", func := none, code := .ref 207, frame := some 210, builtins := 0 }
noncomputable def moC (m : Bool) (φ it acc kc : Addr) : Code := .compLoop (mmO m) 0 (.ref it) (.ref acc) (moEnv m φ kc)
noncomputable def moS (m : Bool) (φ it acc kc : Addr) : Code := .compStart (mmO m) 0 (.ref it) (.ref acc) (moEnv m φ kc)
noncomputable def miC (m : Bool) (φ it acc kc : Addr) : Code := .compLoop (mmI m) 0 (.ref it) (.ref acc) (miEnv m φ kc)
noncomputable def miS (m : Bool) (φ it acc kc : Addr) : Code := .compStart (mmI m) 0 (.ref it) (.ref acc) (miEnv m φ kc)
noncomputable def mB (p5 p6 : Pos) : List (Code × Pos) := [(.func (fBody fLaw) lawEnv, p5), (.builtin "claim.caller" {}, p6)]
structure Mo where
  (m : Bool) (φ it acc kc : Addr) (q p5 p6 : Pos)
noncomputable def Mo.b (o : Mo) : List (Code × Pos) := (moC o.m o.φ o.it o.acc o.kc, o.q) :: mB o.p5 o.p6
inductive ShW where
  | z
  | one (t : Tok) (v : Value)
noncomputable def ShW.o (P : Params) : ShW → Obj
  | .z => ⟨.type "dict", none, .dict #[] 0, #[]⟩
  | .one t v => ⟨.type "dict", none, .dict #[eD P (S "way") t v] 1, #[]⟩
noncomputable def ShW.is1 : ShW → Bool
  | .one .. => true
  | .z => false

section
variable (w : WK) (o : Mo) (φ it acc l : Addr) (xs : List Value) (el : Nat) {rest : Array GenState × Drawn × OsState} {m0 : List Addr} {s0 : Shared} (R : Result → Shared → Prop)
theorem mi_turn (sh : ShW) (i : Nat) (accs : List Value) (ea k : Nat) (kt : Tok) (r : RS) (x : It) (hz : r.zs[k]? = some x) (hk9 : k < 1000) (hx : xs[i]? = some r.ref) (hacc : accs.length < 100000)
    (p : Pos) (s : Shared) (hk : ∀ a o, (E2 w).kt.get a = some o → s.heap.get? a = some o) (hr : (s.gens, s.drawn, s.os) = rest)
    (Lc : Loc (E2 w).kt s [(φ, sh.o w.params), (it, liO l i), (acc, listO accs ea), (o.kc, cellO (.int (k : Nat) kt)), (l, listO xs el), r.ob])
    (next : ∀ (t : Tok) (ea' top tok : Nat) p' s', AtH (E2 w).kt rest s.heap [φ, it, acc, o.kc, l, r.a]
      [(φ, (ShW.one t r.ref).o w.params), (it, liO l (i + 1)), (acc, listO (accs ++ [.int x.1 x.2]) ea'), (o.kc, cellO (.int (k : Nat) kt)), (l, listO xs el), r.ob] top tok s' →
      wpCode (E2 w).M (Γof (miC o.m φ it acc o.kc) o.b) R p' s') :
    wpCode (E2 w).M (Γof (miC o.m φ it acc o.kc) o.b) R p s := by
  refine wp_run (E2 w) den_eq 100000 o.b _ p s _ Lc hk hr R (fun N K => .dat 4 [2, 2] [1, 4] (fLn l i r.ref (listO xs el)) (0, 0) fun d1 =>
    .dat 18 [0, 1, 0, 1, 4, 6, 6, 6, 6] [5] (fItm (.int x.1 x.2) (listO (intsV r.zs) r.e)) (0, 0) fun d2 =>
    .dat 3 [3] [2] (fApp accs (.int x.1 x.2)) (0, 0, 0) fun d3 => .fin 1 []) fun N K hN hK => fun d1 => fun d2 => fun d3 => ?_
  let t : Tok := match sh with | .one t _ => t | _ => d1.2 + 0
  obtain ⟨ra, rz, re⟩ := r
  refine FinI.mk' [] [(none, .builtin "list_iterator.__next__" ⟨[.ref it], []⟩, [(it, liO l i), (l, listO xs el)]),
      (none, .builtin "list.__getitem__" ⟨[.ref ra, .int (Int.ofNat k) kt], []⟩, [(ra, listO (intsV rz) re)]),
      (none, .builtin "list.append" ⟨[.ref acc, .int x.1 x.2], []⟩, [(acc, listO accs ea)])] (.nxt (miC o.m φ it acc o.kc))
      [(φ, (ShW.one t (.ref ra)).o w.params), (it, liO l (i + 1)), (acc, listO (accs ++ [.int x.1 x.2]) d3.1), (o.kc, cellO (.int (k : Nat) kt)), (l, listO xs el), (ra, listO (intsV rz) re)]
      (d3.2.1, 0) (d3.2.2, 0) [0, 1, 2, 3, 4, 5] ?_ (fun _ h => (nomatch h)) ?_ rfl (fun p' s' A => next t _ _ _ p' s' A)
  · obtain ⟨m, oφ, oit, oacc, okc, oq, op5, op6⟩ := o
    cases m <;> cases sh <;> kernel_rfl
  · exact ⟨fun b => (ctF_lnext _ b _ _ _ _ _ _ hx).toH, fun b => (ctF_item _ b _ _ _ k _ _ (intsV_at hz) (by omega)).toH, fun b => (ctF_append _ b _ _ _ _ hacc).toH, trivial⟩
theorem mi_start (i : Nat) (p : Pos) (s : Shared) (hk : ∀ a o, (E2 w).kt.get a = some o → s.heap.get? a = some o) (hr : (s.gens, s.drawn, s.os) = rest)
    (Lc : Loc (E2 w).kt s [(it, liO l i)])
    (next : ∀ top tok p' s', AtH (E2 w).kt rest s.heap [it] [(it, liO l i)] top tok s' → wpCode (E2 w).M (Γof (miC o.m φ it acc o.kc) o.b) R p' s') :
    wpCode (E2 w).M (Γof (miS o.m φ it acc o.kc) o.b) R p s := by
  obtain ⟨m, oφ, oit, oacc, okc, oq, op5, op6⟩ := o
  refine wp_ask (E2 w) den_eq 100000 (Mo.b ⟨m, oφ, oit, oacc, okc, oq, op5, op6⟩) _ 2 (by cases m <;> kernel_rfl) (by cases m <;> kernel_rfl) p s _ Lc hk hr R (fun b N K => tSt b) fun b N K => ?_
  cases m <;> cases b <;> exact FinI.mk' [] [] (.nxt (miC _ φ it acc okc)) [(it, liO l i)] (N, 0) (K, 0) [0] (by kernel_rfl) (fun _ h => (nomatch h)) trivial rfl (fun p' s' A => next _ _ p' s' A)
theorem mi_end (i : Nat) (hx : xs[i]? = none) (p : Pos) (s : Shared) (hk : ∀ a o, (E2 w).kt.get a = some o → s.heap.get? a = some o) (hr : (s.gens, s.drawn, s.os) = rest)
    (Lc : Loc (E2 w).kt s [(it, liO l i), (l, listO xs el)])
    (next : ∀ top tok s', AtH (E2 w).kt rest s.heap [it, l] [(it, liEn i), (l, listO xs el)] top tok s' → R (.ok .next) s') :
    wpCode (E2 w).M (Γof (miC o.m φ it acc o.kc) o.b) R p s := by
  refine wp_run (E2 w) den_eq 100000 o.b _ p s _ Lc hk hr R (fun N K => .dat 4 [1, 1] [0, 1] (fLe i (listO xs el)) (0, 0, 0, 0) fun d1 => .fin 2 [3]) fun N K hN hK => fun d => ?_
  obtain ⟨m, oφ, oit, oacc, okc, oq, op5, op6⟩ := o
  cases m <;> exact FinI.mk' [] [(none, .builtin "list_iterator.__next__" ⟨[.ref it], []⟩, [(it, liO l i), (l, listO xs el)])] (.ans (.ok .next)) [(it, liEn i), (l, listO xs el)] (d.2.2.1, 0) (d.2.2.2, 0) [0, 1] (by kernel_rfl) (fun _ h => (nomatch h)) ⟨fun b => (ctF_lend w b _ _ _ _ _ hx).toH, trivial⟩ rfl (fun s' A => next _ _ s' A)
theorem mi_loop (k : Nat) (kt : Tok) (hk9 : k < 1000) : ∀ (todo : List RS) (i : Nat) (sh : ShW) (accs : List Value) (ea : Nat) (extra : List (Addr × Obj)) (p : Pos) (s : Shared), xs.drop i = todo.map RS.ref → (∀ r ∈ todo, k < r.zs.length) → accs.length + todo.length < 100000 →
    At (E2 w).kt rest m0 s0 s ([(φ, sh.o w.params), (it, liO l i), (acc, listO accs ea), (o.kc, cellO (.int (k : Nat) kt)), (l, listO xs el)] ++ (todo.map RS.ob ++ extra)) →
    (∀ (ys : List It) (sh' : ShW) (ea' : Nat) (s' : Shared), (todo ≠ [] ∨ sh.is1 = true → sh'.is1 = true) → ys.map (·.1) = todo.map (fun r => ((r.zs.map (·.1))[k]?).getD 0) →
      At (E2 w).kt rest m0 s0 s' ([(φ, sh'.o w.params), (acc, listO (accs ++ intsV ys) ea'), (o.kc, cellO (.int (k : Nat) kt)), (l, listO xs el)] ++ (todo.map RS.ob ++ extra)) → R (.ok .next) s') →
    wpCode (E2 w).M (Γof (miC o.m φ it acc o.kc) o.b) R p s
  | [], i, sh, accs, ea, extra, p, s, hd, hT, hacc, h, hR => by
    have h' : At (E2 w).kt rest m0 s0 s ([(it, liO l i), (l, listO xs el)] ++ ([(φ, sh.o w.params), (acc, listO accs ea), (o.kc, cellO (.int (k : Nat) kt))] ++ extra)) := h.pk [extra] [1, 4, 0, 2, 3, 5] rfl
    refine mi_end w o φ it acc l xs el R i (drop_none hd) p s h.since.ktk h.since.rest h'.left.loc fun top tok s' A => ?_
    have := h'.step rfl A
    refine hR [] sh ea s' (fun h => h.elim (fun h => absurd rfl h) id) rfl (by rw [show accs ++ intsV [] = accs from List.append_nil accs]; exact this.pk2 [extra] [2, 3, 4, 1, 5] rfl)
  | r :: todo, i, sh, accs, ea, extra, p, s, hd, hT, hacc, h, hR => by
    obtain ⟨hx, hd'⟩ := drop_head hd
    have hr := hT r (.head _)
    have h' : At (E2 w).kt rest m0 s0 s ([(φ, sh.o w.params), (it, liO l i), (acc, listO accs ea), (o.kc, cellO (.int (k : Nat) kt)), (l, listO xs el), r.ob] ++ (todo.map RS.ob ++ extra)) := h
    refine mi_turn w o φ it acc l xs el R sh i accs ea k kt r r.zs[k] (List.getElem?_eq_getElem hr) hk9 hx (by rw [List.length_cons] at hacc; omega) p s h.since.ktk h.since.rest h'.left.loc ?_
    intro t ea' top tok p' s' A
    have h2 := h'.step rfl A
    have h3 : At (E2 w).kt rest m0 s0 s' ([(φ, (ShW.one t r.ref).o w.params), (it, liO l (i + 1)), (acc, listO (accs ++ [.int r.zs[k].1 r.zs[k].2]) ea'), (o.kc, cellO (.int (k : Nat) kt)), (l, listO xs el)] ++ (todo.map RS.ob ++ ([r.ob] ++ extra))) := h2.pk [todo.map RS.ob, extra] [0, 1, 2, 3, 4, 6, 5, 7] rfl
    refine mi_loop k kt hk9 todo (i + 1) _ (accs ++ [.int r.zs[k].1 r.zs[k].2]) ea' ([r.ob] ++ extra) p' s' hd' (fun V hV => hT V (.tail _ hV)) (by simp at hacc ⊢; omega) h3 ?_
    intro ys sh' ea'' s'' hi2 hv hA
    refine hR (r.zs[k] :: ys) sh' ea'' s'' (fun _ => hi2 (.inr rfl)) ?_ ?_
    · rw [List.map_cons, hv, List.map_cons]
      congr 1
      rw [List.getElem?_map, List.getElem?_eq_getElem hr]; rfl
    · have e3 : accs ++ intsV (r.zs[k] :: ys) = accs ++ [.int r.zs[k].1 r.zs[k].2] ++ intsV ys := by simp [intsV]
      rw [e3]
      exact hA.pkx [extra] [0, 1, 2, 3, 5, 4, 6] rfl
end
end Mine
end
noncomputable section
namespace Mine
open PySem PySem.W PySem.W.X

noncomputable def col (rs : List RS) (k : Nat) : List Int := rs.map fun r => ((r.zs.map (·.1))[k]?).getD 0
noncomputable def mmAll (m : Bool) (rs : List RS) : Nat → List Int → Prop
  | _, [] => True
  | k, v :: vs => mmP m (col rs k) v ∧ mmAll m rs (k + 1) vs
noncomputable def qOf : Bool → Pos
  | true => ⟨143, 36, 143, 40⟩
  | false => ⟨144, 35, 144, 39⟩

section
variable (w : WK) (m : Bool) (p5 p6 : Pos) (φ it acc kc l : Addr) (rs : List RS) (el : Nat) {rest : Array GenState × Drawn × OsState} {m0 : List Addr} {s0 : Shared} (R : Result → Shared → Prop)
theorem mo_end (k : Nat) (p : Pos) (s : Shared) (hk : ∀ a o, (E2 w).kt.get a = some o → s.heap.get? a = some o) (hr : (s.gens, s.drawn, s.os) = rest)
    (L : Loc (E2 w).kt s [(it, riN (k : Nat) 0)])
    (next : ∀ top tok s', AtH (E2 w).kt rest s.heap [it] [(it, riN (k : Nat) 0)] top tok s' → R (.ok .next) s') :
    wpCode (E2 w).M (Γof (moC m φ it acc kc) (mB p5 p6)) R p s := by
  refine wp_run (E2 w) den_eq 100000 (mB p5 p6) _ p s _ L hk hr R (fun N K => .fin 14 [1, 1, 1, 1, 1, 3]) fun N K hN hK => ?_
  refine FinI.mk' [] [] (.ans (.ok .next)) [(it, riN (k : Nat) 0)] (N, 2) (K, 0) [0] ?_ (fun _ h => (nomatch h)) trivial rfl (fun s' A => next _ _ s' A)
  cases m <;> kernel_rfl
theorem mo_start (k n : Nat) (p : Pos) (s : Shared) (hk : ∀ a o, (E2 w).kt.get a = some o → s.heap.get? a = some o) (hr : (s.gens, s.drawn, s.os) = rest)
    (L : Loc (E2 w).kt s [(it, riN (k : Nat) (n : Nat))])
    (next : ∀ top tok p' s', AtH (E2 w).kt rest s.heap [it] [(it, riN (k : Nat) (n : Nat))] top tok s' → wpCode (E2 w).M (Γof (moC m φ it acc kc) (mB p5 p6)) R p' s') :
    wpCode (E2 w).M (Γof (moS m φ it acc kc) (mB p5 p6)) R p s := by
  refine wp_ask (E2 w) den_eq 100000 (mB p5 p6) _ 2 (by cases m <;> kernel_rfl) (by cases m <;> kernel_rfl) p s _ L hk hr R (fun b N K => tSt b) fun b N K => ?_
  cases m <;> cases b <;> exact FinI.mk' [] [] (.nxt (moC _ φ it acc kc)) [(it, riN (k : Nat) (n : Nat))] (N, 0) (K, 0) [0] (by kernel_rfl) (fun _ h => (nomatch h)) trivial rfl (fun p' s' A => next _ _ p' s' A)
theorem mo_turn (k r : Nat) (hk4 : k < 4) (cs : Option It) (accs : List Value) (ea : Nat) (hacc : accs.length < 1000) (hne : rs ≠ []) (hrs : rs.length < 1000) (hz : ∀ r ∈ rs, r.zs.length = 4) (extra : List (Addr × Obj)) (p : Pos) (s : Shared)
    (h : At (E2 w).kt rest m0 s0 s ([(φ, ShW.z.o w.params), (it, riN (k : Nat) ((r + 1 : Nat) : Int)), (acc, listO accs ea), (kc, wyCell cs), (211, cellO (.ref l)), (l, listO (rs.map RS.ref) el)] ++ (rs.map RS.ob ++ extra)))
    (next : ∀ (v : It) (kt ea' : Nat) p' s', mmP m (col rs k) v.1 → At (E2 w).kt rest m0 s0 s' ([(φ, ShW.z.o w.params), (it, riN ((k + 1 : Nat) : Int) (r : Nat)), (acc, listO (accs ++ [.int v.1 v.2]) ea'), (kc, wyCell (some ((k : Nat), kt))), (211, cellO (.ref l)), (l, listO (rs.map RS.ref) el)] ++ (rs.map RS.ob ++ extra)) →
      wpCode (E2 w).M (Γof (moC m φ it acc kc) (mB p5 p6)) R p' s') :
    wpCode (E2 w).M (Γof (moC m φ it acc kc) (mB p5 p6)) R p s := by
  refine wp_run (E2 w) den_eq 100000 (mB p5 p6) _ p s _ h.left.loc h.since.ktk h.since.rest R (fun N K => .dat 4 [2, 2] [1] (fRn k r) (0, 0, 0) fun d1 => .fin 23 [4, 3, 0, 0, 5, 6, 6, 1, 0, 0, 6, 7]) fun N K hN hK => fun d1 => ?_
  refine FinI.mk' [] [(none, .builtin "range_iterator.__next__" ⟨[.ref it], []⟩, [(it, riN (k : Nat) ((r + 1 : Nat) : Int))])] (.cal (miS m (d1.2.1 + 2) (d1.2.1 + 0) (d1.2.1 + 1) kc) (Mo.b ⟨m, φ, it, acc, kc, qOf m, p5, p6⟩))
    ([(φ, ShW.z.o w.params), (it, riN ((k + 1 : Nat) : Int) (r : Nat)), (acc, listO accs ea), (kc, wyCell (some ((k : Nat), d1.1))), (211, cellO (.ref l))] ++ [(d1.2.1 + 2, ShW.z.o w.params), (d1.2.1 + 0, liO l 0), (d1.2.1 + 1, listO [] 0), (l, listO (rs.map RS.ref) el)])
    (d1.2.1, 3) (d1.2.2, 0) [0, 1, 2, 3, 4, 8, 6, 7, 5] ?_ (fun _ h => (nomatch h)) ⟨fun b => (ctF_rnext _ b _ _ _).toH, trivial⟩ rfl ?_
  · cases m <;> cases cs <;> kernel_rfl
  · intro p' s' A
    have h2 := h.step rfl A
    have h3 : At (E2 w).kt rest m0 s0 s' ([(d1.2.1 + 0, liO l 0)] ++ ([(d1.2.1 + 2, ShW.z.o w.params), (d1.2.1 + 1, listO [] 0), (kc, cellO (.int (k : Nat) d1.1)), (l, listO (rs.map RS.ref) el)] ++ (rs.map RS.ob ++
        ([(φ, ShW.z.o w.params), (it, riN ((k + 1 : Nat) : Int) (r : Nat)), (acc, listO accs ea), (211, cellO (.ref l))] ++ extra)))) := h2.pk [rs.map RS.ob, extra] [6, 5, 7, 3, 8, 9, 0, 1, 2, 4, 10] rfl
    refine mi_start w ⟨m, φ, it, acc, kc, qOf m, p5, p6⟩ (d1.2.1 + 2) (d1.2.1 + 0) (d1.2.1 + 1) l _ 0 p' s' h3.since.ktk h3.since.rest h3.left.loc fun top tok p2 s2 A2 => ?_
    have h4 := h3.step rfl A2
    have h5 : At (E2 w).kt rest m0 s0 s2 ([(d1.2.1 + 2, ShW.z.o w.params), (d1.2.1 + 0, liO l 0), (d1.2.1 + 1, listO [] 0), (kc, cellO (.int (k : Nat) d1.1)), (l, listO (rs.map RS.ref) el)] ++ (rs.map RS.ob ++
        ([(φ, ShW.z.o w.params), (it, riN ((k + 1 : Nat) : Int) (r : Nat)), (acc, listO accs ea), (211, cellO (.ref l))] ++ extra))) := h4.perm (List.Perm.swap _ _ _)
    refine mi_loop w ⟨m, φ, it, acc, kc, qOf m, p5, p6⟩ (d1.2.1 + 2) (d1.2.1 + 0) (d1.2.1 + 1) l (rs.map RS.ref) el _ k d1.1 (by omega) rs 0 .z [] 0 _ p2 s2 (by rw [List.drop_zero]) (fun r hr => by rw [hz r hr]; omega) (by simp; omega) h5 ?_
    intro ys sh' ea' s3 hi hv h6
    have hys : ys ≠ [] := fun e => by
      have := congrArg List.length hv
      rw [e] at this
      simp at this
      exact hne (List.length_eq_zero_iff.mp this.symm)
    have hcol : ys.map (·.1) = col rs k := hv
    have h7 : At (E2 w).kt rest m0 s0 s3 ([(d1.2.1 + 2, sh'.o w.params), (d1.2.1 + 1, listO (intsV ys) ea'), (acc, listO accs ea)] ++ ([(φ, ShW.z.o w.params), (it, riN ((k + 1 : Nat) : Int) (r : Nat)), (kc, wyCell (some ((k : Nat), d1.1))), (211, cellO (.ref l)), (l, listO (rs.map RS.ref) el)] ++ (rs.map RS.ob ++ extra))) := h6.pkx [extra] [0, 1, 7, 5, 6, 2, 8, 3, 4, 9] rfl
    refine run_on (E2 w) den_eq 100000 (mB p5 p6) _ _ s3 _ h7.left.loc h7.since.ktk h7.since.rest R (fun N K => .dat 7 [1, 1, 0] [1] (fMM (mmP m (ys.map (·.1))) (listO (intsV ys) ea')) (fMM0 m ys hys) fun d1 =>
      .dat 4 [3] [2] (fApp accs (.int d1.1.1 d1.1.2.1)) (0, 0, 0) fun d2 => .fin 1 []) fun N2 K2 _ _ => fun e1 => fun e2 => ?_
    refine FinI.mk' [] [(none, .builtin (mmN m) ⟨[.ref (d1.2.1 + 1)], []⟩, [(d1.2.1 + 1, listO (intsV ys) ea')]), (none, .builtin "list.append" ⟨[.ref acc, .int e1.1.1 e1.1.2.1], []⟩, [(acc, listO accs ea)])] (.nxt (moC m φ it acc kc))
      [(acc, listO (accs ++ [.int e1.1.1 e1.1.2.1]) e2.1)] (e2.2.1, 0) (e2.2.2, 0) [2] ?_ (fun _ h => (nomatch h)) ⟨fun b => (ctF_mm _ b m _ ys _ hys).toH, fun b => (ctF_append _ b _ _ _ _ (by omega)).toH, trivial⟩ rfl ?_
    · have := hi (.inl hne)
      cases sh' with
      | z => cases this
      | one => cases m <;> cases cs <;> kernel_rfl
    · intro p4 s4 A4
      have h8 := h7.step rfl A4
      refine next (e1.1.1, e1.1.2.1) d1.1 e2.1 p4 s4 (hcol ▸ e1.2) (h8.pk2 [rs.map RS.ob, extra] [1, 2, 0, 3, 4, 5, 6, 7] rfl)
theorem mo_loop (hne : rs ≠ []) (hrs : rs.length < 1000) (hz : ∀ r ∈ rs, r.zs.length = 4) (extra : List (Addr × Obj)) : ∀ (r k : Nat) (cs : Option It) (accs : List Value) (ea : Nat) (p : Pos) (s : Shared), k + r = 4 → accs.length = k →
    At (E2 w).kt rest m0 s0 s ([(φ, ShW.z.o w.params), (it, riN (k : Nat) (r : Nat)), (acc, listO accs ea), (kc, wyCell cs), (211, cellO (.ref l)), (l, listO (rs.map RS.ref) el)] ++ (rs.map RS.ob ++ extra)) →
    (∀ (ys : List It) (ea' : Nat) (s' : Shared), ys.length = r → mmAll m rs k (ys.map (·.1)) →
      At (E2 w).kt rest m0 s0 s' ([(acc, listO (accs ++ intsV ys) ea'), (211, cellO (.ref l)), (l, listO (rs.map RS.ref) el)] ++ (rs.map RS.ob ++ extra)) → R (.ok .next) s') →
    wpCode (E2 w).M (Γof (moC m φ it acc kc) (mB p5 p6)) R p s
  | 0, k, cs, accs, ea, p, s, hk4, hacc, h, hR => by
    have h' : At (E2 w).kt rest m0 s0 s ([(it, riN (k : Nat) 0)] ++ ([(φ, ShW.z.o w.params), (acc, listO accs ea), (kc, wyCell cs), (211, cellO (.ref l)), (l, listO (rs.map RS.ref) el)] ++ (rs.map RS.ob ++ extra))) := h.perm (List.Perm.swap _ _ _)
    refine mo_end w m p5 p6 φ it acc kc R k p s h.since.ktk h.since.rest h'.left.loc fun top tok s' A => ?_
    have := h'.step rfl A
    refine hR [] ea s' rfl trivial (by rw [show accs ++ intsV [] = accs from List.append_nil accs]; exact this.pk2 [rs.map RS.ob, extra] [2, 4, 5, 6, 7] rfl)
  | r + 1, k, cs, accs, ea, p, s, hk4, hacc, h, hR => by
    refine mo_turn w m p5 p6 φ it acc kc l rs el R k r (by omega) cs accs ea (by omega) hne hrs hz extra p s h ?_
    intro v kt ea' p' s' hv h2
    refine mo_loop hne hrs hz extra r (k + 1) _ (accs ++ [.int v.1 v.2]) ea' p' s' (by omega) (by simp; omega) h2 ?_
    intro ys ea'' s'' hl hm hA
    refine hR (v :: ys) ea'' s'' (by simp [hl]) ⟨hv, hm⟩ ?_
    have e3 : accs ++ intsV (v :: ys) = accs ++ [.int v.1 v.2] ++ intsV ys := by simp [intsV]
    rw [e3]
    exact hA
theorem mo_all (hne : rs ≠ []) (hrs : rs.length < 1000) (hz : ∀ r ∈ rs, r.zs.length = 4) (extra : List (Addr × Obj)) (p : Pos) (s : Shared)
    (h : At (E2 w).kt rest m0 s0 s ([(φ, ShW.z.o w.params), (it, riN 0 4), (acc, listO [] 0), (kc, wyCell none), (211, cellO (.ref l)), (l, listO (rs.map RS.ref) el)] ++ (rs.map RS.ob ++ extra)))
    (hR : ∀ (ys : List It) (ea' : Nat) (s' : Shared), ys.length = 4 → mmAll m rs 0 (ys.map (·.1)) →
      At (E2 w).kt rest m0 s0 s' ([(acc, listO (intsV ys) ea'), (211, cellO (.ref l)), (l, listO (rs.map RS.ref) el)] ++ (rs.map RS.ob ++ extra)) → R (.ok .next) s') :
    wpCode (E2 w).M (Γof (moS m φ it acc kc) (mB p5 p6)) R p s := by
  have h' : At (E2 w).kt rest m0 s0 s ([(it, riN ((0 : Nat) : Int) ((4 : Nat) : Int))] ++ ((φ, ShW.z.o w.params) :: ([(acc, listO [] 0), (kc, wyCell none), (211, cellO (.ref l)), (l, listO (rs.map RS.ref) el)] ++ (rs.map RS.ob ++ extra)))) := h.perm (List.Perm.swap _ _ _)
  refine mo_start w m p5 p6 φ it acc kc R 0 4 p s h.since.ktk h.since.rest h'.left.loc fun top tok p' s' A => ?_
  have h2 : At (E2 w).kt rest m0 s0 s' ([(φ, ShW.z.o w.params), (it, riN ((0 : Nat) : Int) ((4 : Nat) : Int)), (acc, listO [] 0), (kc, wyCell none), (211, cellO (.ref l)), (l, listO (rs.map RS.ref) el)] ++ (rs.map RS.ob ++ extra)) := (h'.step rfl A).perm (List.Perm.swap _ _ _)
  exact mo_loop w m p5 p6 φ it acc kc l rs el R hne hrs hz extra 4 0 none [] 0 p' s' rfl rfl h2 fun ys ea' s'' hl hm hA => hR ys ea' s'' hl hm hA
end
end Mine
end
noncomputable section
namespace Mine

theorem Reach.names {a : AS} (h : Reach a) : (a.G0 ++ a.L).map (·.1) = List.range a.m ∧ (∀ x ∈ a.G0, x.1 < a.m ∧ 1 ≤ x.2 ∧ x.2 ≤ a.c + 1) ∧ ∀ x ∈ a.G1, x.1 < a.m ∧ 1 ≤ x.2 ∧ x.2 ≤ a.c + 1 := by
  induction h with
  | zero => exact ⟨rfl, fun _ h => (nomatch h), fun _ h => (nomatch h)⟩
  | come a t hr hm h0 h2 ih =>
    obtain ⟨i1, i2, i3⟩ := ih
    dsimp only
    refine ⟨?_, fun x hx => ?_, fun x hx => ?_⟩
    · rw [← List.append_assoc, List.map_append, i1, List.range_succ]; rfl
    · have := i2 x hx; omega
    · have := i3 x hx; omega
  | go a t x y L' Pl' hr hL hPl h0 h2 ih =>
    obtain ⟨i1, i2, i3⟩ := ih
    have hf := hr.facts
    have hx := hf.lL x (by rw [hL]; exact .head _)
    have hy := hf.lPl y (by rw [hPl]; simp)
    dsimp only
    refine ⟨?_, fun z hz => ?_, fun z hz => ?_⟩
    · rw [← i1, hL]; simp
    · rcases List.mem_append.mp hz with hz | hz
      · have := i2 z hz; omega
      · obtain rfl : z = _ := by simpa using hz
        dsimp only; omega
    · rcases List.mem_append.mp hz with hz | hz
      · have := i3 z hz; omega
      · obtain rfl : z = _ := by simpa using hz
        dsimp only; omega
theorem mmAll_at {m : Bool} {rs : List RS} : ∀ {k : Nat} {vs : List Int}, mmAll m rs k vs → ∀ j (h : j < vs.length), mmP m (col rs (k + j)) vs[j]
  | k, v :: vs, ⟨h1, h2⟩, 0, _ => h1
  | k, v :: vs, ⟨h1, h2⟩, j + 1, h => by
    have := mmAll_at h2 j (by simpa using h)
    rw [show k + 1 + j = k + (j + 1) by omega] at this
    simpa using this
theorem sumsOf_len (l : List Int) : (sumsOf l).length = 4 := rfl
theorem end_sums (a : AS) (hr : Reach a) (h8 : a.D.length = 8) (rs : List RS) (hrs : rs.map (fun r => r.zs.map (·.1)) = (foldW a.D start).map (fun q => sumsOf q.2)) (y0 y1 : List Int) (l0 : y0.length = 4) (l1 : y1.length = 4) (m0 : mmAll true rs 0 y0) (m1 : mmAll false rs 0 y1) :
    sumsOf (L2 a.G0) = y0 ∧ sumsOf (L2 a.G1) = y1 := by
  have hf := hr.facts
  have e1 := hf.ld; have e2 := hf.lm; have e3 := hf.m4; have e4 := hf.lp; have e5 := hf.lg
  have hL : a.L.length = 0 := by omega
  have hg0 : (L2 a.G0).length = 4 := by simp only [L2, List.length_map]; omega
  have hg1 : (L2 a.G1).length = 4 := by simp only [L2, List.length_map]; omega
  have hcol : ∀ k, col rs k = (foldW a.D start).map fun q => ((sumsOf q.2)[k]?).getD 0 := fun k => by
    have : col rs k = (rs.map fun r => r.zs.map (·.1)).map fun z => (z[k]?).getD 0 := by simp [col, Function.comp_def]
    rw [this, hrs]; simp [Function.comp_def]
  have hq : ∀ q ∈ foldW a.D start, q.2.length = 4 := fun q hq => by have := (hr.sz.2.2 q hq).2; omega
  have hb : ∀ q ∈ foldW a.D start, (∀ θ, Fθ θ (L2 a.G0) ≤ Fθ θ q.2) ∧ ∀ θ, Fθ θ q.2 ≤ Fθ θ (L2 a.G1) := fun q hq => by
    have key := fun θ => ways_both θ a.D 0 start hr.rise.1 (fun p hp => by
      obtain rfl : p = ([], []) := by simpa [start] using hp
      exact ⟨.nil, fun _ h => (nomatch h), by have := hr.comp [] (by rw [hL]; rfl); simpa using this⟩) q hq
    have f := fun θ => hr.fifo θ []
    have l := fun θ => hr.lifo θ []
    simp only [List.append_nil, Mine.fifo, Mine.lifo, Int.add_zero] at f l
    refine ⟨fun θ => ?_, fun θ => ?_⟩
    · obtain ⟨p, hp, h1, h2⟩ := key θ
      obtain rfl : p = ([], []) := by simpa [start] using hp
      rw [← f θ]; simpa [Fθ] using h1
    · obtain ⟨p, hp, h1, h2⟩ := key θ
      obtain rfl : p = ([], []) := by simpa [start] using hp
      rw [← l θ]; simpa [Fθ] using h2
  have one : ∀ (g y : List Int) (hg : g.length = 4) (ly : y.length = 4), (∀ (k : Nat) (h : k < 4), ((sumsOf g)[k]?).getD 0 = y[k]'(by omega)) → sumsOf g = y := fun g y hg ly h => by
    refine List.ext_getElem (by rw [sumsOf_len, ly]) fun k h1 h2 => ?_
    have := h k (by rw [sumsOf_len] at h1; exact h1)
    rw [List.getElem?_eq_getElem h1, Option.getD_some] at this
    exact this
  refine ⟨one _ _ hg0 l0 fun k hk => ?_, one _ _ hg1 l1 fun k hk => ?_⟩
  · have h := mmAll_at m0 k (by omega)
    rw [Nat.zero_add, hcol] at h
    obtain ⟨h1, h2⟩ := h
    obtain ⟨q, hqm, hqe⟩ := List.mem_map.mp h1
    have a1 := sums_le hg0 (hq q hqm) (hb q hqm).1 k hk
    have a2 := h2 _ (List.mem_map.mpr ⟨_, hr.in0, rfl⟩)
    dsimp only at a2 hqe
    omega
  · have h := mmAll_at m1 k (by omega)
    rw [Nat.zero_add, hcol] at h
    obtain ⟨h1, h2⟩ := h
    obtain ⟨q, hqm, hqe⟩ := List.mem_map.mp h1
    have a1 := sums_le (hq q hqm) hg1 (hb q hqm).2 k hk
    have a2 := h2 _ (List.mem_map.mpr ⟨_, hr.in1, rfl⟩)
    dsimp only at a2 hqe
    omega
end Mine
end
noncomputable section
namespace Mine
open PySem PySem.W PySem.W.X PySem.Builtin PySem.Builtin.Str PySem.StrLaws

theorem at_one (x : Str) (c k : Nat) (v : List Nat) (h : x.cps.toList.drop k = c :: v) : PySem.StrLaws.At x ⟨#[c]⟩ x.length k := by
  have hl := congrArg List.length h
  rw [List.length_drop, List.length_cons, Array.length_toList] at hl
  refine ⟨?_, ?_⟩
  · show k + 1 ≤ x.cps.size
    omega
  · rw [subAt_eq, h]; exact beq_iff_eq.mpr rfl
theorem one_free (x : Str) (c : Nat) : ∀ (n a : Nat), (∀ k, a ≤ k → k < a + n → ¬ PySem.StrLaws.At x ⟨#[c]⟩ x.length k) → (x.cps.toList.drop a).count c = (x.cps.toList.drop (a + n)).count c
  | 0, a, _ => rfl
  | n + 1, a, h => by
    have ih := one_free x c n (a + 1) (fun k h1 h2 => h k (by omega) (by omega))
    rw [show a + (n + 1) = a + 1 + n by omega, ← ih]
    by_cases hl : a < x.cps.toList.length
    · rw [List.drop_eq_getElem_cons hl]
      refine List.count_cons_of_ne fun e => ?_
      refine h a (Nat.le_refl _) (by omega) (at_one x c a (x.cps.toList.drop (a + 1)) ?_)
      rw [List.drop_eq_getElem_cons hl, e]
    · rw [List.drop_of_length_le (by omega), List.drop_of_length_le (by omega)]
theorem one_chain (x : Str) (c : Nat) : ∀ (cuts : List Nat) (a f : Nat), ChainG x ⟨#[c]⟩ x.length a cuts f → (∀ k, f ≤ k → ¬ PySem.StrLaws.At x ⟨#[c]⟩ x.length k) → cuts.length = (x.cps.toList.drop a).count c
  | [], a, f, h, hn => by
    have e : f = a := h
    subst e
    rw [one_free x c (x.cps.size) f (fun k h1 _ => hn k h1), List.drop_of_length_le (by rw [Array.length_toList]; omega)]; rfl
  | d :: r, a, f, h, hn => by
    obtain ⟨h1, h2, h3, h4⟩ := h
    have ih := one_chain x c r (d + 1) f h4 hn
    rw [List.length_cons, ih]
    obtain ⟨d, rfl⟩ := Nat.exists_eq_add_of_le h1
    rw [one_free x c d a (fun k q1 q2 => h3 k q1 q2)]
    obtain ⟨g1, g2⟩ := h2
    rw [subAt_eq] at g2
    have g1 : a + d + 1 ≤ x.cps.size := g1
    have g2 : (x.cps.toList.drop (a + d)).take 1 = [c] := beq_iff_eq.mp g2
    have e1 : x.cps.toList.drop (a + d) = c :: x.cps.toList.drop (a + d + 1) := by
      have := List.take_append_drop 1 (x.cps.toList.drop (a + d))
      rw [g2, List.drop_drop] at this
      exact this.symm
    rw [e1, List.count_cons_self]
theorem occ_one (x : Str) (c : Nat) : (occurrences x ⟨#[c]⟩ 0 x.length (x.length + 1)).length = x.cps.toList.count c := by
  obtain ⟨f, h1, h2⟩ := occ_tight x ⟨#[c]⟩ (by show (0 : Nat) < 1; decide)
  have := one_chain x c _ 0 f h1 h2
  rwa [List.drop_zero] at this
theorem nm_no46 (j : Nat) : (nm j).count 46 = 0 := by
  unfold nm
  split <;> decide
theorem gives_dots (j : Nat) (d : Int) (hd : 0 ≤ d) (t u : Tok) : Gives (denote table (.builtin "str.count" ⟨[.str (strOf (wd j d)) t, .str ⟨#[46]⟩ u], []⟩)) (.int d) ∧ MadeOk (.int d) := by
  refine ⟨?_, trivial⟩
  rw [den_builtin F.entry_str_count]
  have := gives_str_count (strOf (wd j d)) ⟨#[46]⟩ t u
  rw [occ_one] at this
  have e : (strOf (wd j d)).cps.toList = wd j d := by show (wd j d).toArray.toList = _; simp
  rw [e] at this
  have e2 : (wd j d).count 46 = d.toNat := by
    unfold wd
    rw [List.count_append, List.count_replicate_self, nm_no46]; rfl
  rw [e2, Int.toNat_of_nonneg hd] at this
  exact this
theorem takeW_rep (n : Nat) (v : List Nat) (p : Nat → Bool) (hp : p 46 = true) (hv : v.takeWhile p = []) : (List.replicate n 46 ++ v).takeWhile p = List.replicate n 46 := by
  induction n with
  | zero => exact hv
  | succ n ih => rw [List.replicate_succ, List.cons_append, List.takeWhile_cons, hp]; simp [ih]
theorem gives_strip (j : Nat) (hj : j < 4) (d : Int) (hd : 1 ≤ d) (t u : Tok) (hl : (wd j d).length < 1000) : Gives (denote table (.builtin "str.strip" ⟨[.str (strOf (wd j d)) t, .str ⟨#[46]⟩ u], []⟩)) (.str (strOf (nm j))) ∧ MadeOk (.str (strOf (nm j))) := by
  refine ⟨?_, ?_⟩
  · rw [den_builtin F.entry_str_strip]
    have := gives_str_strip_chars (strOf (wd j d)) ⟨#[46]⟩ t u
    have e : (strOf (wd j d)).cps.toList = wd j d := by show (wd j d).toArray.toList = _; simp
    have hlen : (strOf (wd j d)).length = (wd j d).length := by show (wd j d).toArray.size = _; simp
    have lo : stripLo (#[46] : Array Nat).contains true (strOf (wd j d)) = d.toNat := by
      unfold stripLo
      rw [e, if_pos rfl]
      unfold wd
      rw [takeW_rep _ _ _ (by decide +kernel) (by rcases (by omega : j = 0 ∨ j = 1 ∨ j = 2 ∨ j = 3) with rfl | rfl | rfl | rfl <;> decide +kernel), List.length_replicate]
    have hi : stripHi (#[46] : Array Nat).contains true (strOf (wd j d)) d.toNat = (wd j d).length := by
      unfold stripHi
      rw [e, if_pos rfl, hlen]
      have : (wd j d).drop d.toNat = nm j := by unfold wd; rw [List.drop_append_of_le_length (by simp)]; simp
      rw [this]
      have : ((nm j).reverse.takeWhile (#[46] : Array Nat).contains) = [] := by rcases (by omega : j = 0 ∨ j = 1 ∨ j = 2 ∨ j = 3) with rfl | rfl | rfl | rfl <;> decide +kernel
      rw [this]; rfl
    have hs : stripSame (#[46] : Array Nat).contains true true (strOf (wd j d)) = false := by
      unfold stripSame
      rw [lo]
      have : ¬ d.toNat = 0 := by omega
      simp [this]
    have hst : PySem.stripped (#[46] : Array Nat).contains true true (strOf (wd j d)) = strOf (nm j) := by
      unfold PySem.stripped
      rw [lo, hi]
      show (⟨(wd j d).toArray.extract d.toNat (wd j d).length⟩ : Str) = ⟨(nm j).toArray⟩
      congr 1
      apply Array.ext'
      have : (wd j d).drop d.toNat = nm j := by unfold wd; rw [List.drop_append_of_le_length (by simp)]; simp
      simp [this]
      rw [← this]
      exact List.take_of_length_le (by simp)
    have this : Gives _ (if stripSame (#[46] : Array Nat).contains true true (strOf (wd j d)) then _ else _) := this
    rw [hs] at this
    have this : Gives _ (.str (PySem.stripped (#[46] : Array Nat).contains true true (strOf (wd j d)))) := this
    rw [hst] at this
    exact this
  · show (nm j).toArray.size ≤ sizeLine
    have := nm_len j
    have : sizeLine = 16777216 := rfl
    simp; omega
end Mine
end
noncomputable section
namespace Mine
open PySem PySem.W PySem.W.X
open PySem.Sem (wp finPost)

/-- as `ctr_meets`, with the units of the stack told -/
theorem ctr_meetsU {E : En} {bel : List (Code × Pos)} {id : String} {args : Args} {B : Builtin} {S : Spec} {pre : List (Addr × Obj)} {Q : Outc → Prop} (entry : entryFor table id = some B) (g : Meets (B args) S)
    (h : ∀ (A : Around) (R : Result → Shared → Prop) (s : Shared) (rest : Array GenState × Drawn × OsState), A.units = (Γof (.builtin id args) bel).units → (s.gens, s.drawn, s.os) = rest → (∀ a o, E.kt.get a = some o → s.heap.get? a = some o) → (∀ x ∈ pre, s.heap.get? x.1 = some x.2) → (pre.map (·.1)).Nodup →
      (∀ o s', Q o → Post E.kt rest pre s o s' → R o.r s') → S A R s) : Ctr E bel (.builtin id args) pre Q := by
  intro rest p s hk hp hn hkn hr
  rw [wpCode_iff_wp]
  show wp E.M (Γof (.builtin id args) bel) (denote table (.builtin id args)) _ _ p s
  rw [den_builtin entry]
  let c' : Code := .builtin id args
  let A : Around := { handled := none, depth := frameCount bel + c'.weight, frames := none, guards := none, units := (Γof c' bel).units }
  have hin : (Γof c' bel).In A.in1 := ⟨rfl, Nat.le_refl _, fun _ hl => (nomatch hl), fun _ hg => (nomatch hg), Nat.le_succ _⟩
  have key := g E.prog E.w A (fun r s' => ∃ o : Outc, o.r = r ∧ Q o ∧ Post E.kt rest pre s o s') s (h A _ s rest rfl hr hk hp hn fun o s' hQ P => ⟨o, rfl, hQ, P⟩) (Γof c' bel) p hin
  refine Sem.wp_mono E.M (Γof c' bel) _ (fun fin p' s' h' => ?_) (fun _ _ _ h' => h') p s key
  cases fin with
  | done f => exact h'
  | again c'' => exact ⟨h'.1, h'.2 ((Γof c' bel).goto c'') p' rfl ⟨rfl, Nat.le_add_right _ _, fun _ hl => (nomatch hl), fun _ hg => (nomatch hg), Nat.le_add_left _ _⟩⟩

theorem eqAt_lists {A : Around} {s : Shared} {a b : Addr} {xs ys : List Value} {e1 e2 : Nat} (hne : a ≠ b) (ha : s.heap.get? a = some (listO xs e1)) (hb : s.heap.get? b = some (listO ys e2)) (h : EqL xs ys) (hu : A.units < cLine) : SeqAt.EqAt A s (.ref a) (.ref b) true := by
  refine SeqAt.EqAt.of_refs hne ?_
  have := SeqAt.RcAt.lists (A := A) (s := s) (e := fun _ => true) (items := xs.toArray) (items2 := ys.toArray) ⟨_, ha, rfl, e1, rfl⟩ ⟨_, hb, rfl, e2, rfl⟩ (by simpa using h.length) hu fun j h1 h2 => by
    have := h.at j (by simpa using h1) (by simpa using h2) A.in1 s
    simpa using this
  have e : (List.range xs.toArray.size).all (fun _ => true) = true := by simp
  rw [e] at this
  exact this
noncomputable def pre6 (a b a1 b1 a2 b2 : Addr) (x1 y1 x2 y2 : List Value) (e1 e2 e3 e4 : Nat) (ea : Nat) : List (Addr × Obj) := [(a, listO [.ref a1, .ref a2] ea), (b, listO [.ref b1, .ref b2] 0), (a1, listO x1 e1), (a2, listO x2 e2), (b1, listO y1 e3), (b2, listO y2 e4)]
noncomputable def fB (v : Bool) (us : List Obj) (d : Nat × Nat) : Outc := ⟨.ok (.ret (.bool v)), us, [], d.1, d.2⟩
section
variable (E : En) (bel : List (Code × Pos)) (a b a1 b1 a2 b2 : Addr) (x1 y1 x2 y2 : List Value) (e1 e2 e3 e4 ea : Nat) (h1 : EqL x1 y1) (h2 : EqL x2 y2) (hu : unitsOf bel < 9000)
include h1 h2 hu
theorem nest_at {A : Around} {s : Shared} (hA : A.units = unitsOf bel + 1) (hp : ∀ x ∈ pre6 a b a1 b1 a2 b2 x1 y1 x2 y2 e1 e2 e3 e4 ea, s.heap.get? x.1 = some x.2) (hn : ((pre6 a b a1 b1 a2 b2 x1 y1 x2 y2 e1 e2 e3 e4 ea).map (·.1)).Nodup) :
    ∀ j (q1 : j < #[Value.ref a1, .ref a2].size) (q2 : j < #[Value.ref b1, .ref b2].size), SeqAt.EqAt A.in1 s #[Value.ref a1, .ref a2][j] #[Value.ref b1, .ref b2][j] true := by
  have hc : A.in1.units < cLine := by show A.units + 1 < cLine; rw [hA]; have : cLine = 9900 := rfl; omega
  simp only [pre6, List.map_cons, List.map_nil, List.nodup_cons, List.mem_cons, List.not_mem_nil, or_false, not_or] at hn
  intro j q1 q2
  match j, q1 with
  | 0, _ => exact eqAt_lists hn.2.2.1.2.1 (hp _ (.tail _ (.tail _ (.head _)))) (hp _ (.tail _ (.tail _ (.tail _ (.tail _ (.head _)))))) h1 hc
  | 1, _ => exact eqAt_lists hn.2.2.2.1.2 (hp _ (.tail _ (.tail _ (.tail _ (.head _))))) (hp _ (.tail _ (.tail _ (.tail _ (.tail _ (.tail _ (.head _))))))) h2 hc
  | j + 2, q => exact absurd q (by show ¬ j + 2 < 2; omega)
theorem ctF_ne6 : Ctr E bel (.builtin "list.__ne__" ⟨[.ref a, .ref b], []⟩) (pre6 a b a1 b1 a2 b2 x1 y1 x2 y2 e1 e2 e3 e4 ea) (QF (fB false ((pre6 a b a1 b1 a2 b2 x1 y1 x2 y2 e1 e2 e3 e4 ea).map (·.2)))) := by
  refine ctr_meetsU F.entry_list_ne (SeqAt.list_neAt a b #[.ref a1, .ref a2] #[.ref b1, .ref b2] ea 0 none none #[] #[] rfl (fun _ => true)) ?_
  intro A R s rest hA hr _ hp hn hR
  have hA' : A.units = unitsOf bel + 1 := by
    rw [hA]
    show (Code.builtin "list.__ne__" ⟨[.ref a, .ref b], []⟩).cUnits + unitsOf bel = _
    have : (Code.builtin "list.__ne__" ⟨[.ref a, .ref b], []⟩).cUnits = 1 := by kernel_rfl
    omega
  refine ⟨hp _ (.head _), hp _ (.tail _ (.head _)), nest_at bel a b a1 b1 a2 b2 x1 y1 x2 y2 e1 e2 e3 e4 ea h1 h2 hu hA' hp hn, ?_⟩
  exact hR ⟨.ok (.ret (.bool false)), (pre6 a b a1 b1 a2 b2 x1 y1 x2 y2 e1 e2 e3 e4 ea).map (·.2), [], _, _⟩ _ ⟨(_, _), rfl⟩ (post_id (pre := pre6 a b a1 b1 a2 b2 x1 y1 x2 y2 e1 e2 e3 e4 ea) hr hp)
theorem ctF_eq6 : Ctr E bel (.builtin "list.__eq__" ⟨[.ref a, .ref b], []⟩) (pre6 a b a1 b1 a2 b2 x1 y1 x2 y2 e1 e2 e3 e4 ea) (QF (fB true ((pre6 a b a1 b1 a2 b2 x1 y1 x2 y2 e1 e2 e3 e4 ea).map (·.2)))) := by
  refine ctr_meetsU F.entry_list_eq (SeqAt.list_eqAt a b #[.ref a1, .ref a2] #[.ref b1, .ref b2] ea 0 none none #[] #[] rfl (fun _ => true)) ?_
  intro A R s rest hA hr _ hp hn hR
  have hA' : A.units = unitsOf bel + 1 := by
    rw [hA]
    show (Code.builtin "list.__eq__" ⟨[.ref a, .ref b], []⟩).cUnits + unitsOf bel = _
    have : (Code.builtin "list.__eq__" ⟨[.ref a, .ref b], []⟩).cUnits = 1 := by kernel_rfl
    omega
  refine ⟨hp _ (.head _), hp _ (.tail _ (.head _)), nest_at bel a b a1 b1 a2 b2 x1 y1 x2 y2 e1 e2 e3 e4 ea h1 h2 hu hA' hp hn, ?_⟩
  exact hR ⟨.ok (.ret (.bool true)), (pre6 a b a1 b1 a2 b2 x1 y1 x2 y2 e1 e2 e3 e4 ea).map (·.2), [], _, _⟩ _ ⟨(_, _), rfl⟩ (post_id (pre := pre6 a b a1 b1 a2 b2 x1 y1 x2 y2 e1 e2 e3 e4 ea) hr hp)
end
end Mine
end
noncomputable section
namespace Mine
open PySem PySem.W PySem.W.X

/-! ## the law's first lines -/
noncomputable def hF0 : List Nat := [0, 0, 0, 3, 2, 0, 0, 0, 0, 0, 0, 7, 6, 0, 0, 0, 0, 0, 0, 0, 0, 0, 0, 0, 0, 0, 0, 0, 0, 0, 0, 0, 0, 0, 0, 0, 0, 0, 0, 0, 0, 0, 0, 9, 0, 9, 0, 0, 0, 0, 0, 0, 0, 10, 9, 0, 10, 9, 0, 10, 9, 0, 0, 0, 9, 0, 9, 0, 9, 0, 0, 0, 9, 0, 0, 8, 7, 8, 10, 10, 9, 0, 0, 0, 9, 0, 9, 0, 9, 0, 0, 0, 9, 0, 0, 8, 7, 8, 10, 9, 0, 0, 0, 9, 0, 9, 0, 9, 0, 0, 0, 9, 0, 0, 8, 7, 8, 10, 9, 0, 0, 0, 9, 0, 9, 0, 9, 0, 0, 0, 9, 0, 0, 8, 7, 8, 0, 6, 5, 0, 1, 1, 0, 1, 0, 0, 0, 6, 9, 0, 0, 0, 9, 0, 9, 0, 9, 0, 0, 0, 9, 0, 0, 8, 7, 8, 6, 0, 0, 0, 0, 0, 0, 0, 0, 0, 0, 0, 0, 0, 0, 0, 0, 0, 0, 0, 0, 0, 0, 0, 0, 0, 0, 0, 0, 21, 0, 21, 0, 0, 0, 0, 0, 0, 0, 22, 21, 0, 22, 21, 0, 22, 21, 0, 0, 0, 21, 0, 21, 0, 21, 0, 0, 0, 21, 0, 0, 20, 19, 20, 22, 22, 21, 0, 0, 0, 21, 0, 21, 0, 21, 0, 0, 0, 21, 0, 0, 20, 19, 20, 22, 21, 0, 0, 0, 21, 0, 21, 0, 21, 0, 0, 0, 21, 0, 0, 20, 19, 20, 22, 21, 0, 0, 0, 21, 0, 21, 0, 21, 0, 0, 0, 21, 0, 0, 20, 19, 20, 0, 0, 0, 0, 0, 0, 0, 0, 0, 0, 0, 0, 0, 0, 0, 0, 0, 0, 0, 25, 0, 25, 0, 0, 0, 0, 0, 0, 0, 0, 26, 25, 0, 26, 25, 0, 26, 26, 25, 0, 0, 0, 25, 0, 25, 0, 25, 0, 0, 0, 25, 0, 0, 24, 23, 24, 0, 1, 1, 1, 0, 0, 0, 0, 0, 26, 0, 0, 27, 27, 27, 0, 25, 25, 0, 27, 26, 27, 26, 27, 26, 27, 27, 27, 27, 27, 27, 0, 0, 25, 0, 28, 28, 25, 25, 24, 25, 29, 29, 29, 1, 0, 0, 29, 30, 30, 30, 30, 30, 29, 30, 29, 30, 30, 30, 30, 29, 30, 29, 30, 30, 30, 30, 29, 30, 29, 32, 0, 3, 2, 0, 3, 2, 0, 3, 2, 40, 40, 40, 1, 0, 0, 40, 41, 41, 41, 41, 41, 40, 41, 40, 41, 41, 41, 41, 40, 41, 40, 41, 41, 41, 41, 40, 41, 40, 41, 41, 41, 41, 40, 41, 40, 41, 41, 41, 41, 40, 41, 40, 43, 0, 3, 2, 0, 3, 2, 0, 3, 2, 0, 3, 2, 44, 44, 44, 1, 0, 0, 44, 45, 45, 45, 45, 45, 44, 45, 44, 45, 45, 45, 45, 44, 45, 44, 45, 45, 45, 45, 44, 45, 44, 47, 0, 3, 2, 0, 3, 2, 0, 0, 48, 48, 48, 48, 48, 48, 1, 0, 0, 48, 48, 48, 48, 49]
noncomputable def F00 (K : Nat) : FT := ⟨K + 0, K + 40, K + 41, K + 46, K + 47, K + 48, K + 49, K + 50, K + 53, K + 54, 0, 0, 0, 0⟩
noncomputable def V00 (K : Nat) : FV := ⟨0, K + 51, 0, K + 52, 0, 0, 0, 0, false, none⟩
noncomputable def J00 (K : Nat) : NT := ⟨K + 42, K + 43, K + 44, K + 45⟩
noncomputable def T00 (K : Nat) : LP := ⟨0, 0, 0, 0, 0, 0, 0, K + 27, K + 29, K + 32, K + 34, K + 25, K + 30, K + 38, 374⟩
noncomputable def lBel (p6 : Pos) : List (Code × Pos) := [(.builtin "claim.caller" {}, p6)]
noncomputable def p23 : Pos := ⟨123, 13, 123, 21⟩
noncomputable def lawCall : Code := .call (.ref 208) ⟨[.ref 209], []⟩
noncomputable def pre0 (P : Params) (iv : List (Int × Tok)) : List (Addr × Obj) := [(183, ko183 P), (209, listO (intsV iv) 0)]
noncomputable def ex0 (w : World) (p6 p : Pos) (iv : List (Int × Tok)) (K : Nat) : Option Res := exec ((E1 w).on (lBel p6)) 100000 [] 891 hF0 (x0 (E1 w) lawCall p (pre0 w.params iv) 210 K)
theorem fin0_eq (w : World) (p6 p : Pos) (iv : List (Int × Tok)) (K : Nat) :
    lhsE ((E1 w).on (lBel p6)) (ex0 w p6 p iv K) [] [2, 32, 0, 20, 19, 22, 24, 23, 48, 1, 33, 34, 35, 36, 37, 38, 3, 17] =
    rhsE (ex0 w p6 p iv K) [] [] (.cal mainC (lawBel p23 p6)) (mainL w.params (T00 K) (lawF0 w.params (F00 K) (V00 K)) (J00 K) 0 iv [] [] [] [] [] [] [] ⟨0, 0, 0, 0, 0, 0, 0⟩ ++ [(211, ⟨.type "cell", none, .cell none, #[]⟩), (225, lamCode K)]) (210, 47) (K, 58) := by
  kernel_rfl

/-! ## the lambda's code object is now known -/
theorem put_get (o : Obj) : ∀ (n : Nat) (t : KT) (i a : Nat) {x : Obj}, (KT.put n t i o).get a = some x → (a = i ∧ x = o) ∨ t.get a = some x
  | 0, t, i, a, x, h => .inr h
  | n + 1, .nil, i, a, x, h => by
    unfold KT.put at h
    rw [BT.beq_eq, BT.beq_eq] at h
    by_cases h0 : i = 0
    · subst h0
      simp only [decide_true] at h
      rw [KT.get_node] at h
      split at h
      · rename_i e; cases h; exact .inl ⟨e, rfl⟩
      · split at h <;> exact absurd h (by unfold KT.get; exact fun q => nomatch q)
    · rw [decide_eq_false h0] at h
      by_cases p : i % 2 = 1
      · rw [decide_eq_true p] at h
        dsimp only at h
        rw [KT.get_node] at h
        split at h
        · cases h
        · split at h
          · rename_i e1 e2
            rcases put_get o n .nil _ _ h with ⟨q, z⟩ | q
            · exact .inl ⟨by omega, z⟩
            · exact absurd q (by unfold KT.get; exact fun q => nomatch q)
          · exact absurd h (by unfold KT.get; exact fun q => nomatch q)
      · rw [decide_eq_false p] at h
        dsimp only at h
        rw [KT.get_node] at h
        split at h
        · cases h
        · split at h
          · exact absurd h (by unfold KT.get; exact fun q => nomatch q)
          · rename_i e1 e2
            rcases put_get o n .nil _ _ h with ⟨q, z⟩ | q
            · exact .inl ⟨by omega, z⟩
            · exact absurd q (by unfold KT.get; exact fun q => nomatch q)
  | n + 1, .node v l r, i, a, x, h => by
    unfold KT.put at h
    rw [BT.beq_eq, BT.beq_eq] at h
    by_cases h0 : i = 0
    · subst h0
      simp only [decide_true] at h
      rw [KT.get_node] at h
      rw [KT.get_node]
      split at h
      · rename_i e; cases h; exact .inl ⟨e, rfl⟩
      · rename_i e; rw [if_neg e]; exact .inr h
    · rw [decide_eq_false h0] at h
      by_cases p : i % 2 = 1
      · rw [decide_eq_true p] at h
        dsimp only at h
        rw [KT.get_node] at h
        rw [KT.get_node]
        split at h
        · rename_i e; rw [if_pos e]; exact .inr h
        · rename_i e1
          rw [if_neg e1]
          split at h
          · rename_i e2
            rw [if_pos e2]
            rcases put_get o n l _ _ h with ⟨q, z⟩ | q
            · exact .inl ⟨by omega, z⟩
            · exact .inr q
          · rename_i e2; rw [if_neg e2]; exact .inr h
      · rw [decide_eq_false p] at h
        dsimp only at h
        rw [KT.get_node] at h
        rw [KT.get_node]
        split at h
        · rename_i e; rw [if_pos e]; exact .inr h
        · rename_i e1
          rw [if_neg e1]
          split at h
          · rename_i e2; rw [if_pos e2]; exact .inr h
          · rename_i e2
            rw [if_neg e2]
            rcases put_get o n r _ _ h with ⟨q, z⟩ | q
            · exact .inl ⟨by omega, z⟩
            · exact .inr q
theorem kt2_get {P : Params} {k a : Nat} {x : Obj} (h : (kt2 P k).get a = some x) : (a = 225 ∧ x = lamCode k) ∨ (kt1 P).get a = some x := put_get _ 40 _ 225 a h
theorem M_mk (d d' : Code → Sem Fin) (q : Program) (w : World) (k k' : KT) (b b' : List (Code × Pos)) : (En.mk d q w k b).M = (En.mk d' q w k' b').M := rfl
theorem M12 (w : World) (k : Nat) : (E1 w).M = (E2 ⟨w, k⟩).M := M_mk _ _ _ _ _ _ _ _
theorem means_mk (d d' : Code → Sem Fin) (q : Program) (w : World) (k k' : KT) (b0 b0' b : List (Code × Pos)) (R : Result → Shared → Prop) (x : X) (s : Shared) (h : MeansX ((En.mk d q w k b0).on b) R x s) : MeansX ((En.mk d' q w k' b0').on b) R x s := h
theorem means12 {w : World} {k : Nat} {b : List (Code × Pos)} {R : Result → Shared → Prop} {x : X} {s : Shared} (h : MeansX ((E2 ⟨w, k⟩).on b) R x s) : MeansX ((E1 w).on b) R x s := means_mk _ _ _ _ _ _ _ _ b R x s h
theorem code_mk (d d' : Code → Sem Fin) (q : Program) (w : World) (k k' : KT) (b0 b0' b : List (Code × Pos)) (Γ : Ctx) (R : Result → Shared → Prop) (p : Pos) (s : Shared) (h : wpCode (En.mk d q w k b0).M Γ R p s) : wpCode ((En.mk d' q w k' b0').on b).M Γ R p s := h
theorem code12 {w : World} {k : Nat} {b : List (Code × Pos)} {Γ : Ctx} {R : Result → Shared → Prop} {p : Pos} {s : Shared} (h : wpCode (E2 ⟨w, k⟩).M Γ R p s) : wpCode ((E1 w).on b).M Γ R p s := code_mk _ _ _ _ _ _ _ _ b Γ R p s h
theorem At.known {w : World} {k : Nat} {rest : Array GenState × Drawn × OsState} {m0 : List Addr} {s0 s : Shared} {l : List (Addr × Obj)} (h : At (E1 w).kt rest m0 s0 s (l ++ [(225, lamCode k)])) : At (E2 ⟨w, k⟩).kt rest m0 s0 s l := by
  have hl := h.loc
  have h225 : s.heap.get? 225 = some (lamCode k) := hl.own (225, lamCode k) (List.mem_append_right _ (.head _))
  have hnd : ∀ x ∈ l, x.1 ≠ 225 := fun x hx e => by
    have hn := hl.nodup
    rw [List.map_append] at hn
    exact (List.nodup_append.mp hn).2.2 x.1 (List.mem_map_of_mem hx) 225 (.head _) e
  refine ⟨⟨fun x hx => hl.own x (List.mem_append_left _ hx), ?_, fun x hx => ?_⟩, fun x hx => h.fresh x (List.mem_append_left _ hx), ⟨fun a o e => ?_, h.since.frame, h.since.le, h.since.rest⟩⟩
  · have hn := hl.nodup
    rw [List.map_append] at hn
    exact (List.nodup_append.mp hn).1
  · cases e : (E2 ⟨w, k⟩).kt.get x.1 with
    | none => rfl
    | some o =>
      rcases kt2_get (P := w.params) (k := k) e with ⟨q, _⟩ | q
      · exact absurd q (hnd x hx)
      · have := hl.kn x (List.mem_append_left _ hx)
        exact absurd (this.symm.trans q) (fun q => nomatch q)
  · rcases kt2_get (P := w.params) (k := k) e with ⟨rfl, rfl⟩ | q
    · exact h225
    · exact h.since.ktk a o q
end Mine
end
noncomputable section
namespace Mine
open PySem PySem.W PySem.W.X

structure G4 where
  (d0 d1 d2 d3 : Int) (t0 t1 t2 t3 : Tok)
noncomputable def G4.l (g : G4) : List Wd := [(wd 0 g.d0, g.t0), (wd 1 g.d1, g.t1), (wd 2 g.d2, g.t2), (wd 3 g.d3, g.t3)]
noncomputable def G4.ok (g : G4) : Prop := (1 ≤ g.d0 ∧ g.d0 ≤ 500) ∧ (1 ≤ g.d1 ∧ g.d1 ≤ 500) ∧ (1 ≤ g.d2 ∧ g.d2 ≤ 500) ∧ (1 ≤ g.d3 ∧ g.d3 ≤ 500)
structure H4 where
  (j0 j1 j2 j3 : Nat) (d0 d1 d2 d3 : Int) (t0 t1 t2 t3 u0 u1 u2 u3 : Tok)
noncomputable def H4.l (g : H4) : List Wd := [(wd g.j0 g.d0, g.t0), (wd g.j1 g.d1, g.t1), (wd g.j2 g.d2, g.t2), (wd g.j3 g.d3, g.t3)]
noncomputable def H4.n (g : H4) : List Wd := [(nm g.j0, g.u0), (nm g.j1, g.u1), (nm g.j2, g.u2), (nm g.j3, g.u3)]
noncomputable def H4.ok (g : H4) : Prop := (g.j0 < 4 ∧ 1 ≤ g.d0 ∧ g.d0 ≤ 500) ∧ (g.j1 < 4 ∧ 1 ≤ g.d1 ∧ g.d1 ≤ 500) ∧ (g.j2 < 4 ∧ 1 ≤ g.d2 ∧ g.d2 ≤ 500) ∧ (g.j3 < 4 ∧ 1 ≤ g.d3 ∧ g.d3 ≤ 500)
noncomputable def hA74 : List Nat := [1, 2, 2, 1, 0, 0, 2, 7, 2, 2, 12, 7, 7, 1, 0, 0, 7, 7, 7, 7, 7, 7, 2, 7, 6, 0, 9, 8, 9, 3, 3, 1, 0, 0, 3, 10, 2, 2, 12, 10, 10, 1, 0, 0, 10, 10, 10, 10, 10, 10, 3, 10, 9, 0, 12, 11, 12]
noncomputable def hA36 : List Nat := [11, 11, 10, 11, 10, 10, 10, 10, 3, 10, 9, 0, 12, 11, 12]
noncomputable def hA99 : List Nat := [11, 11, 10, 11, 10, 10, 10, 10, 3, 10, 9, 14, 12, 12, 11, 8, 8, 7, 8, 7, 7, 7, 7, 2, 7, 6, 0, 9, 8, 9, 4, 4, 1, 0, 0, 4, 15, 2, 2, 12, 15, 15, 1, 0, 0, 15, 15, 15, 15, 15, 15, 4, 15, 14, 0, 17, 16, 17]
noncomputable def hB36 : List Nat := [16, 16, 15, 16, 15, 15, 15, 15, 4, 15, 14, 0, 17, 16, 17]
noncomputable def hA77 : List Nat := [16, 16, 15, 16, 15, 15, 15, 15, 4, 15, 14, 19, 17, 17, 16, 8, 8, 7, 8, 7, 7, 7, 7, 2, 7, 6, 21, 9, 9, 8, 1, 1, 8, 22, 8, 1, 0, 0, 8]
noncomputable def hC85 : List Nat := [0, 1, 0, 1, 2, 2, 1, 0, 0, 2, 7, 2, 2, 12, 7, 7, 1, 0, 0, 7, 7, 7, 7, 7, 7, 2, 7, 6, 0, 9, 8, 0, 9, 3, 3, 1, 0, 0, 3, 10, 2, 2, 12, 10, 10, 1, 0, 0, 10, 10, 10, 10, 10, 10, 3, 10, 9, 0, 12, 11, 12]
noncomputable def hC35 : List Nat := [11, 11, 10, 11, 10, 10, 10, 10, 3, 10, 9, 14, 12, 12, 11, 0]
noncomputable def hC69 : List Nat := [8, 8, 7, 8, 7, 7, 7, 7, 2, 7, 6, 0, 9, 8, 0, 9, 4, 4, 1, 0, 0, 4, 16, 2, 2, 12, 16, 16, 1, 0, 0, 16, 16, 16, 16, 16, 16, 4, 16, 15, 0, 18, 17, 18]
noncomputable def hD36 : List Nat := [17, 17, 16, 17, 16, 16, 16, 16, 4, 16, 15, 0, 18, 17, 18]
noncomputable def hD35 : List Nat := [17, 17, 16, 17, 16, 16, 16, 16, 4, 16, 15, 20, 18, 18, 17, 0]
noncomputable def hC45 : List Nat := [8, 8, 7, 8, 7, 7, 7, 7, 2, 7, 6, 23, 9, 9, 8, 1, 1, 8, 24, 8, 1, 0, 0, 8]
noncomputable def stripC (j : Nat) (d : Int) (t u : Tok) : Code := .builtin "str.strip" ⟨[.str (strOf (wd j d)) t, .str ⟨#[46]⟩ u], []⟩
noncomputable def strN (j : Nat) (t : Tok) : Value := .str (strOf (nm j)) t
noncomputable def p42 : Pos := ⟨142, 11, 142, 27⟩
noncomputable def rest6 (P : Params) (F : FT) (V : FV) (J : NT) (g : G4) (q : H4) (e5 e6 e8 : Nat) : List (Addr × Obj) :=
  [(210, lawF P F V), (244, listO [.ref 242, .ref 243] 0), (242, listO (g.l.map rowV) e5), (243, listO (q.l.map rowV) e6), (240, namesO J), (246, listO (q.n.map rowV) e8)]
theorem wd_l (j : Nat) (d : Int) (h : d ≤ 500) : (wd j d).length < 1000 := by have := wd_len j d h; omega
/-- the pieces' names -/
noncomputable def tele1 (g : G4) (q : H4) (N K : Nat) (J : NT) (e8 : Nat) : Tele :=
  .pur 74 hA74 (.str (strOf (nm 0))) <| .pur 36 hA36 (.str (strOf (nm 1))) <| .pur 36 hA36 (.str (strOf (nm 2))) <| .pur 36 hA36 (.str (strOf (nm 3))) <|
  .pur 99 hA99 (.str (strOf (nm q.j0))) <| .pur 36 hB36 (.str (strOf (nm q.j1))) <| .pur 36 hB36 (.str (strOf (nm q.j2))) <| .pur 36 hB36 (.str (strOf (nm q.j3))) <|
  .dat 77 hA77 [7, 21, 10, 15, 4, 5] (fB false ((pre6 (N + 1) (N + 15) (N + 4) 240 (N + 9) 246 [strN 0 (K + 3), strN 1 (K + 6), strN 2 (K + 9), strN 3 (K + 12)] (J.at.map rowV) [strN q.j0 (K + 16), strN q.j1 (K + 19), strN q.j2 (K + 22), strN q.j3 (K + 25)] (q.n.map rowV) 4 4 0 e8 2).map (·.2))) (0, 0) fun _ => .fin 9 [0, 1, 0]
section
variable (w : WK) (p6 p : Pos) (iv : List (Int × Tok)) (K0 : Nat) (F : FT) (V : FV) (J : NT) (g : G4) (q : H4) (e5 e6 e8 : Nat) {rest : Array GenState × Drawn × OsState} {m0 : List Addr} {s0 : Shared} (R : Result → Shared → Prop)
noncomputable def ex1 (N K d1 d2 : Nat) : Option Res := exec ((E2 w).on (lBel p6)) 100000 [.pur 74 hA74 (.str (strOf (nm 0))), .pur 36 hA36 (.str (strOf (nm 1))), .pur 36 hA36 (.str (strOf (nm 2))), .pur 36 hA36 (.str (strOf (nm 3))),
  .pur 99 hA99 (.str (strOf (nm q.j0))), .pur 36 hB36 (.str (strOf (nm q.j1))), .pur 36 hB36 (.str (strOf (nm q.j2))), .pur 36 hB36 (.str (strOf (nm q.j3))),
  .ctr 77 hA77 [7, 21, 10, 15, 4, 5] (fB false ((pre6 (N + 1) (N + 15) (N + 4) 240 (N + 9) 246 [strN 0 (K + 3), strN 1 (K + 6), strN 2 (K + 9), strN 3 (K + 12)] (J.at.map rowV) [strN q.j0 (K + 16), strN q.j1 (K + 19), strN q.j2 (K + 22), strN q.j3 (K + 25)] (q.n.map rowV) 4 4 0 e8 2).map (·.2)) (d1, d2))] 9 [0, 1, 0]
  (cutX (ex0 w.w p6 p iv K0) (.ok .next) ⟨treeOf (rest6 w.params F V J g q e5 e6 e8), 6, N, 0, K, 0⟩)
theorem fin1 (hg : g.ok) (hq : q.ok) (extra : List (Addr × Obj)) (s : Shared) (h : At (E2 w).kt rest m0 s0 s (rest6 w.params F V J g q e5 e6 e8 ++ extra))
    (next : ∀ N K d1 d2 p' s', At (E2 w).kt rest m0 s0 s' (rest6 w.params F V J g q e5 e6 e8 ++ extra) →
      wpCode (E2 w).M (Γof (.call (.ref 198) ⟨[.ref 241], []⟩) (lawBel p42 p6)) (fun r s'' => MeansX ((E2 w).on (lBel p6)) R (cutX (ex1 w p6 p iv K0 F V J g q e5 e6 e8 N K d1 d2) r St0) s'') p' s') :
    MeansX ((E2 w).on (lBel p6)) R (cutX (ex0 w.w p6 p iv K0) (.ok .next) St0) s := by
  obtain ⟨⟨g0, g0'⟩, ⟨g1, g1'⟩, ⟨g2, g2'⟩, ⟨g3, g3'⟩⟩ := hg
  obtain ⟨⟨a0, b0, b0'⟩, ⟨a1, b1, b1'⟩, ⟨a2, b2, b2'⟩, ⟨a3, b3, b3'⟩⟩ := hq
  refine run_on (E2 w) den_eq 100000 (lBel p6) _ _ s _ h.left.loc h.since.ktk h.since.rest R (fun N K => tele1 g q N K J e8) fun N K hN hK => fun d => ?_
  refine FinI.mk' [(stripC 0 g.d0 g.t0 (K + 2), .str (strOf (nm 0))), (stripC 1 g.d1 g.t1 (K + 5), .str (strOf (nm 1))), (stripC 2 g.d2 g.t2 (K + 8), .str (strOf (nm 2))), (stripC 3 g.d3 g.t3 (K + 11), .str (strOf (nm 3))),
      (stripC q.j0 q.d0 q.t0 (K + 15), .str (strOf (nm q.j0))), (stripC q.j1 q.d1 q.t1 (K + 18), .str (strOf (nm q.j1))), (stripC q.j2 q.d2 q.t2 (K + 21), .str (strOf (nm q.j2))), (stripC q.j3 q.d3 q.t3 (K + 24), .str (strOf (nm q.j3)))]
    [(some (lawBel ⟨140, 7, 140, 74⟩ p6), .builtin "list.__ne__" ⟨[.ref (N + 1), .ref (N + 15)], []⟩, pre6 (N + 1) (N + 15) (N + 4) 240 (N + 9) 246 [strN 0 (K + 3), strN 1 (K + 6), strN 2 (K + 9), strN 3 (K + 12)] (J.at.map rowV) [strN q.j0 (K + 16), strN q.j1 (K + 19), strN q.j2 (K + 22), strN q.j3 (K + 25)] (q.n.map rowV) 4 4 0 e8 2)]
    (.cal (.call (.ref 198) ⟨[.ref 241], []⟩) (lawBel p42 p6)) (rest6 w.params F V J g q e5 e6 e8) (d.1, 0) (d.2, 0) [0, 1, 2, 3, 4, 5] ?_ ?_ ?_ rfl ?_
  · obtain ⟨c, ct, m, mt, k, kt, x, xt, b, tk⟩ := V
    cases tk <;> kernel_rfl
  · intro gg hm
    simp only [List.mem_cons, List.not_mem_nil, or_false] at hm
    rcases hm with rfl | rfl | rfl | rfl | rfl | rfl | rfl | rfl
    · exact gives_strip 0 (by decide) _ g0 _ _ (wd_l _ _ g0')
    · exact gives_strip 1 (by decide) _ g1 _ _ (wd_l _ _ g1')
    · exact gives_strip 2 (by decide) _ g2 _ _ (wd_l _ _ g2')
    · exact gives_strip 3 (by decide) _ g3 _ _ (wd_l _ _ g3')
    · exact gives_strip _ a0 _ b0 _ _ (wd_l _ _ b0')
    · exact gives_strip _ a1 _ b1 _ _ (wd_l _ _ b1')
    · exact gives_strip _ a2 _ b2 _ _ (wd_l _ _ b2')
    · exact gives_strip _ a3 _ b3 _ _ (wd_l _ _ b3')
  · refine ⟨(ctF_ne6 _ _ _ _ _ _ _ _ _ _ _ _ _ _ _ _ _ ?_ ?_ ?_).toH, trivial⟩
    · exact eqlC (EqG.str' rfl) (eqlC (EqG.str' rfl) (eqlC (EqG.str' rfl) (eqlC (EqG.str' rfl) eqlN)))
    · exact eqlC (EqG.str' rfl) (eqlC (EqG.str' rfl) (eqlC (EqG.str' rfl) (eqlC (EqG.str' rfl) eqlN)))
    · show unitsOf (lawBel _ p6) < 9000
      exact Nat.le_of_ble_eq_true (by kernel_rfl)
  · intro p' s' A
    exact next N K d.1 d.2 p' s' (h.step rfl A)
end
end Mine
end
noncomputable section
namespace Mine
open PySem PySem.W PySem.W.X

noncomputable def lawF1 (P : Params) (F : FT) (V : FV) (tl : Tok) (la : Addr) : Obj := ⟨.type "frame", none, match V.tk with
  | none => .dict (lawE10 P F V ++ lawE3 P F V ++ [eD P (S "least") tl (.ref la)]).toArray 14
  | some t => .dict (lawE10 P F V ++ lawE3 P F V ++ [eD P (S "tick") F.ktk (.int t.1 t.2), eD P (S "least") tl (.ref la)]).toArray 15, #[]⟩
noncomputable def h47 : List Nat := [1, 0, 0, 0, 2, 2, 2, 2, 2, 2, 1, 0, 0, 2, 2, 2, 2, 3]
noncomputable def h50 : List Nat := [0, 1, 0, 0, 0, 2, 2, 2, 2, 2, 2, 1, 0, 0, 2, 2, 2, 2, 3]
noncomputable def p43 : Pos := ⟨143, 12, 143, 61⟩
noncomputable def p44 : Pos := ⟨144, 11, 144, 60⟩
section
variable (w : WK) (p6 p : Pos) (iv : List (Int × Tok)) (K0 : Nat) (F : FT) (V : FV) (J : NT) (g : G4) (q : H4) (e5 e6 e8 N1 K1 d1 d2 rl : Nat) {rest : Array GenState × Drawn × OsState} {m0 : List Addr} {s0 : Shared} (R : Result → Shared → Prop)
noncomputable def ex3 (N K : Nat) : Option Res := exec ((E2 w).on (lBel p6)) 100000 [] 47 h47 (cutX (ex1 w p6 p iv K0 F V J g q e5 e6 e8 N1 K1 d1 d2) (.ok (.ret (.ref rl))) ⟨treeOf [(211, wyCell none)], 1, N, 0, K, 0⟩)
theorem fin3 (extra : List (Addr × Obj)) (s : Shared) (h : At (E2 w).kt rest m0 s0 s ([(211, wyCell none)] ++ extra))
    (next : ∀ N K p' s', At (E2 w).kt rest m0 s0 s' ([(N + 3, ShW.z.o w.params), (N + 1, riN 0 4), (N + 2, listO [] 0), (N + 4, wyCell none), (211, cellO (.ref rl))] ++ extra) →
      wpCode (E2 w).M (Γof (moS true (N + 3) (N + 1) (N + 2) (N + 4)) (mB p43 p6)) (fun r s'' => MeansX ((E2 w).on (lBel p6)) R (cutX (ex3 w p6 p iv K0 F V J g q e5 e6 e8 N1 K1 d1 d2 rl N K) r St0) s'') p' s') :
    MeansX ((E2 w).on (lBel p6)) R (cutX (ex1 w p6 p iv K0 F V J g q e5 e6 e8 N1 K1 d1 d2) (.ok (.ret (.ref rl))) St0) s := by
  refine run_on (E2 w) den_eq 100000 (lBel p6) _ _ s _ h.left.loc h.since.ktk h.since.rest R (fun N K => .fin 47 h47) fun N K hN hK => ?_
  refine FinI.mk' [] [] (.cal (moS true (N + 3) (N + 1) (N + 2) (N + 4)) (mB p43 p6)) [(N + 3, ShW.z.o w.params), (N + 1, riN 0 4), (N + 2, listO [] 0), (N + 4, wyCell none), (211, cellO (.ref rl))] (N, 5) (K, 3) [4, 2, 3, 5, 0] ?_ (fun _ h => (nomatch h)) trivial rfl ?_
  · obtain ⟨c, ct, m, mt, k, kt, x, xt, b, tk⟩ := V
    cases tk <;> kernel_rfl
  · intro p' s' A
    exact next N K p' s' (h.step rfl A)
noncomputable def ex4 (N3 K3 N K : Nat) : Option Res := exec ((E2 w).on (lBel p6)) 100000 [] 50 h50 (cutX (ex3 w p6 p iv K0 F V J g q e5 e6 e8 N1 K1 d1 d2 rl N3 K3) (.ok .next) ⟨treeOf [(210, lawF w.params F V)], 1, N, 0, K, 0⟩)
theorem fin4 (N3 K3 : Nat) (extra : List (Addr × Obj)) (s : Shared) (h : At (E2 w).kt rest m0 s0 s ([(210, lawF w.params F V)] ++ extra))
    (next : ∀ N K p' s', At (E2 w).kt rest m0 s0 s' ([(210, lawF1 w.params F V (K + 0) (N3 + 2)), (N + 3, ShW.z.o w.params), (N + 1, riN 0 4), (N + 2, listO [] 0), (N + 4, wyCell none)] ++ extra) →
      wpCode (E2 w).M (Γof (moS false (N + 3) (N + 1) (N + 2) (N + 4)) (mB p44 p6)) (fun r s'' => MeansX ((E2 w).on (lBel p6)) R (cutX (ex4 w p6 p iv K0 F V J g q e5 e6 e8 N1 K1 d1 d2 rl N3 K3 N K) r St0) s'') p' s') :
    MeansX ((E2 w).on (lBel p6)) R (cutX (ex3 w p6 p iv K0 F V J g q e5 e6 e8 N1 K1 d1 d2 rl N3 K3) (.ok .next) St0) s := by
  refine run_on (E2 w) den_eq 100000 (lBel p6) _ _ s _ h.left.loc h.since.ktk h.since.rest R (fun N K => .fin 50 h50) fun N K hN hK => ?_
  refine FinI.mk' [] [] (.cal (moS false (N + 3) (N + 1) (N + 2) (N + 4)) (mB p44 p6)) [(210, lawF1 w.params F V (K + 0) (N3 + 2)), (N + 3, ShW.z.o w.params), (N + 1, riN 0 4), (N + 2, listO [] 0), (N + 4, wyCell none)] (N, 5) (K, 4) [0, 4, 2, 3, 5] ?_ (fun _ h => (nomatch h)) trivial rfl ?_
  · obtain ⟨c, ct, m, mt, k, kt, x, xt, b, tk⟩ := V
    cases tk <;> kernel_rfl
  · intro p' s' A
    exact next N K p' s' (h.step rfl A)
end

/-! ## the last comparison -/
noncomputable def cmpL : PySem.Expr → PySem.Expr
  | .Compare l _ _ _ => l
  | e => e
noncomputable def finE : PySem.Expr := cmpL (retV (stAt (fBody fLaw) 9))
noncomputable def feEnv (φ : Addr) : Env := { scope := cpScope finE, locals := φ, globals := 3, cells := [], qual := S "law.<locals>.", func := none, code := .ref 207, frame := some 210, builtins := 0 }
noncomputable def sbL (N : Nat) (p6 : Pos) : Sb := ⟨false, lcE finE, lcG finE, lcS finE, lcP finE, 0, .ref (N + 0), .ref (N + 1), feEnv (N + 2), ⟨145, 12, 145, 55⟩, fBody fLaw, lawEnv, ⟨145, 68, 145, 72⟩, [], default, default, p6⟩
noncomputable def cntC (j : Nat) (d : Int) (t u : Tok) : Code := .builtin "str.count" ⟨[.str (strOf (wd j d)) t, .str ⟨#[46]⟩ u], []⟩
noncomputable def g4c (g : G4) (K : Nat) : List It := [(g.d0, K + 4), (g.d1, K + 7), (g.d2, K + 10), (g.d3, K + 13)]
noncomputable def h4c (q : H4) (K : Nat) : List It := [(q.d0, K + 3), (q.d1, K + 6), (q.d2, K + 9), (q.d3, K + 12)]
theorem eqL_ints : ∀ {xs ys : List It}, xs.map (·.1) = ys.map (·.1) → EqL (intsV xs) (intsV ys)
  | [], [], _ => trivial
  | x :: xs, y :: ys, h => by
    simp only [List.map_cons, List.cons.injEq] at h
    exact ⟨EqG.int' h.1, eqL_ints h.2⟩
  | [], _ :: _, h => by cases h
  | _ :: _, [], h => by cases h
section
variable (w : WK) (p6 p : Pos) (iv : List (Int × Tok)) (K0 : Nat) (F : FT) (V : FV) (J : NT) (g : G4) (q : H4) (e5 e6 e8 N1 K1 d1 d2 rl : Nat) {rest : Array GenState × Drawn × OsState} {m0 : List Addr} {s0 : Shared} (R : Result → Shared → Prop)
theorem fin5 (N3 K3 N4 K4 tl : Nat) (hg : g.ok) (hq : q.ok) (y0 y1 : List It) (ea eb : Nat) (h0 : sumsOf [g.d0, g.d1, g.d2, g.d3] = y0.map (·.1)) (h1 : sumsOf [q.d0, q.d1, q.d2, q.d3] = y1.map (·.1)) (extra : List (Addr × Obj)) (s : Shared)
    (h : At (E2 w).kt rest m0 s0 s ([(210, lawF1 w.params F V tl (N3 + 2)), (244, listO [.ref 242, .ref 243] 0), (242, listO (g.l.map rowV) e5), (243, listO (q.l.map rowV) e6), (N3 + 2, listO (intsV y0) ea), (N4 + 2, listO (intsV y1) eb)] ++ extra))
    (next : ∀ s', At (E2 w).kt rest m0 s0 s' extra → R (.ok (.ret (.bool true))) s') :
    MeansX ((E2 w).on (lBel p6)) R (cutX (ex4 w p6 p iv K0 F V J g q e5 e6 e8 N1 K1 d1 d2 rl N3 K3 N4 K4) (.ok .next) St0) s := by
  obtain ⟨⟨g0, g0'⟩, ⟨g1, g1'⟩, ⟨g2, g2'⟩, ⟨g3, g3'⟩⟩ := hg
  obtain ⟨⟨a0, b0, b0'⟩, ⟨a1, b1, b1'⟩, ⟨a2, b2, b2'⟩, ⟨a3, b3, b3'⟩⟩ := hq
  refine run_on (E2 w) den_eq 100000 (lBel p6) _ _ s _ h.left.loc h.since.ktk h.since.rest R (fun N K => .pur 85 hC85 (.int g.d0) <| .pur 36 hA36 (.int g.d1) <| .pur 36 hA36 (.int g.d2) <| .pur 36 hA36 (.int g.d3) <|
    .dat 35 hC35 [10] (fSums [g.d0, g.d1, g.d2, g.d3] (listO (intsV (g4c g K)) 4)) (fSums0 _) fun c1 =>
    .pur 69 hC69 (.int q.d0) <| .pur 36 hD36 (.int q.d1) <| .pur 36 hD36 (.int q.d2) <| .pur 36 hD36 (.int q.d3) <|
    .dat 35 hD35 [16] (fSums [q.d0, q.d1, q.d2, q.d3] (listO (intsV (h4c q c1.1.2.2)) 4)) (fSums0 _) fun c2 =>
    .dat 45 hC45 [7, 23, 14, 20, 4, 5] (fB true [listO [.ref c1.1.1.a, .ref c2.1.1.a] 2, listO [.ref (N3 + 2), .ref (N4 + 2)] 0, c1.1.1.ob.2, c2.1.1.ob.2, listO (intsV y0) ea, listO (intsV y1) eb]) (0, 0) fun _ => .fin 2 []) fun N K hN hK c1 c2 dd => ?_
  refine FinI.mk' [(cntC 0 g.d0 g.t0 (K + 3), .int g.d0), (cntC 1 g.d1 g.t1 (K + 6), .int g.d1), (cntC 2 g.d2 g.t2 (K + 9), .int g.d2), (cntC 3 g.d3 g.t3 (K + 12), .int g.d3),
      (cntC q.j0 q.d0 q.t0 (c1.1.2.2 + 2), .int q.d0), (cntC q.j1 q.d1 q.t1 (c1.1.2.2 + 5), .int q.d1), (cntC q.j2 q.d2 q.t2 (c1.1.2.2 + 8), .int q.d2), (cntC q.j3 q.d3 q.t3 (c1.1.2.2 + 11), .int q.d3)]
    [(some (sbL N p6).l, .call (.ref 203) ⟨[.ref (N + 4)], []⟩, [(N + 4, listO (intsV (g4c g K)) 4)]), (some (sbL N p6).l, .call (.ref 203) ⟨[.ref (c1.1.2.1 + 1)], []⟩, [(c1.1.2.1 + 1, listO (intsV (h4c q c1.1.2.2)) 4)]),
     (some (lawBel ⟨145, 11, 145, 90⟩ p6), .builtin "list.__eq__" ⟨[.ref (N + 1), .ref (c2.1.2.1 + 2)], []⟩, pre6 (N + 1) (c2.1.2.1 + 2) c1.1.1.a (N3 + 2) c2.1.1.a (N4 + 2) (intsV c1.1.1.zs) (intsV y0) (intsV c2.1.1.zs) (intsV y1) c1.1.1.e c2.1.1.e ea eb 2)]
    (.ans (.ok (.ret (.bool true)))) [] (dd.1, 0) (dd.2, 0) [] ?_ ?_ ?_ rfl (fun s' A => next s' (h.step rfl A))
  · obtain ⟨c, ct, m, mt, k, kt, x, xt, b, tk⟩ := V
    cases tk <;> kernel_rfl
  · intro gg hm
    simp only [List.mem_cons, List.not_mem_nil, or_false] at hm
    rcases hm with rfl | rfl | rfl | rfl | rfl | rfl | rfl | rfl <;> exact gives_dots _ _ (by omega) _ _
  · refine ⟨(ctF_sums w (sbL N p6) _ (g.d0, K + 4) (g.d1, K + 7) (g.d2, K + 10) (g.d3, K + 13) _).toH, (ctF_sums w (sbL N p6) _ (q.d0, c1.1.2.2 + 3) (q.d1, c1.1.2.2 + 6) (q.d2, c1.1.2.2 + 9) (q.d3, c1.1.2.2 + 12) _).toH, ?_, trivial⟩
    refine ((ctF_eq6 _ _ _ _ _ _ _ _ _ _ _ _ _ _ _ _ _ (eqL_ints (c1.2.trans h0)) (eqL_ints (c2.2.trans h1)) ?_).mono fun o ⟨d, e⟩ => ⟨d, e⟩).toH
    show unitsOf (lawBel _ p6) < 9000
    exact Nat.le_of_ble_eq_true (by kernel_rfl)
end
end Mine
end
noncomputable section
namespace Mine
open PySem PySem.W PySem.W.X

theorem four {α : Type} {l : List α} (h : l.length = 4) : ∃ a b c d, l = [a, b, c, d] := by
  match l, h with
  | [a, b, c, d], _ => exact ⟨a, b, c, d, rfl⟩
theorem wds4 {l : List Wd} {a b c d : List Nat} (h : l.map (·.1) = [a, b, c, d]) : ∃ t0 t1 t2 t3, l = [(a, t0), (b, t1), (c, t2), (d, t3)] := by
  obtain ⟨t0, l1, rfl, h1⟩ := wdsC h
  obtain ⟨t1, l2, rfl, h2⟩ := wdsC h1
  obtain ⟨t2, l3, rfl, h3⟩ := wdsC h2
  obtain ⟨t3, l4, rfl, h4⟩ := wdsC h3
  obtain rfl := wds0 h4
  exact ⟨t0, t1, t2, t3, rfl⟩
/-- the pieces at the law's end -/
theorem ends {a : AS} (hr : Reach a) (h8 : a.D.length = 8) (hm : a.m = 4) {g0 g1 du : List Wd} {ds : List DP} (hw : Words a [] [] g0 g1 [] du ds) :
    ∃ (g : G4) (q : H4), g0 = g.l ∧ g1 = q.l ∧ du = q.n ∧ g.ok ∧ q.ok ∧ L2 a.G0 = [g.d0, g.d1, g.d2, g.d3] ∧ L2 a.G1 = [q.d0, q.d1, q.d2, q.d3] := by
  have hf := hr.facts
  obtain ⟨n1, n2, n3⟩ := hr.names
  have e1 := hf.ld; have e2 := hf.lm; have e5 := hf.lg; have hc := hf.c2
  have l0 : a.G0.length = 4 := by omega
  have hL : a.L = [] := List.length_eq_zero_iff.mp (by omega)
  obtain ⟨⟨j0, d0⟩, ⟨j1, d1⟩, ⟨j2, d2⟩, ⟨j3, d3⟩, hG0⟩ := four l0
  obtain ⟨⟨i0, f0⟩, ⟨i1, f1⟩, ⟨i2, f2⟩, ⟨i3, f3⟩, hG1⟩ := four (show a.G1.length = 4 by omega)
  rw [hL, List.append_nil, hG0, hm] at n1
  have n1 : [j0, j1, j2, j3] = [0, 1, 2, 3] := n1
  simp only [List.cons.injEq, and_true] at n1
  obtain ⟨rfl, rfl, rfl, rfl⟩ := n1
  obtain ⟨t0, t1, t2, t3, r0⟩ := wds4 (show g0.map (·.1) = [wd 0 d0, wd 1 d1, wd 2 d2, wd 3 d3] by rw [hw.h0, hG0]; rfl)
  obtain ⟨s0, s1, s2, s3, r1⟩ := wds4 (show g1.map (·.1) = [wd i0 f0, wd i1 f1, wd i2 f2, wd i3 f3] by rw [hw.h1, hG1]; rfl)
  obtain ⟨u0, u1, u2, u3, r2⟩ := wds4 (show du.map (·.1) = [nm i0, nm i1, nm i2, nm i3] by rw [hw.hd, hG1]; rfl)
  rw [hG0] at n2
  rw [hG1] at n3
  have a0 := n2 _ (.head _); have a1 := n2 _ (.tail _ (.head _)); have a2 := n2 _ (.tail _ (.tail _ (.head _))); have a3 := n2 _ (.tail _ (.tail _ (.tail _ (.head _))))
  have b0 := n3 _ (.head _); have b1 := n3 _ (.tail _ (.head _)); have b2 := n3 _ (.tail _ (.tail _ (.head _))); have b3 := n3 _ (.tail _ (.tail _ (.tail _ (.head _))))
  dsimp only at a0 a1 a2 a3 b0 b1 b2 b3
  refine ⟨⟨d0, d1, d2, d3, t0, t1, t2, t3⟩, ⟨i0, i1, i2, i3, f0, f1, f2, f3, s0, s1, s2, s3, u0, u1, u2, u3⟩, r0, r1, r2, ?_, ?_, by rw [hG0]; rfl, by rw [hG1]; rfl⟩
  · refine ⟨⟨?_, ?_⟩, ⟨?_, ?_⟩, ⟨?_, ?_⟩, ⟨?_, ?_⟩⟩ <;> dsimp only <;> omega
  · refine ⟨⟨?_, ?_, ?_⟩, ⟨?_, ?_, ?_⟩, ⟨?_, ?_, ?_⟩, ⟨?_, ?_, ?_⟩⟩ <;> dsimp only <;> omega

noncomputable abbrev mainLits (P : Params) (T : LP) (F : FT) (V : FV) (J : NT) (iv : List (Int × Tok)) (g0 g1 du : List Wd) (ds : List DP) (e : Ep) : List (Addr × Obj) :=
  coreL P T (lawF P F V) J [] [] e ++ [(256, riO 8 0), (209, listO (intsV iv) 0), (241, listO (ds.map DP.ref) e.e4), (242, listO (g0.map rowV) e.e5), (243, listO (g1.map rowV) e.e6), (244, listO [.ref 242, .ref 243] 0), (245, listO [] e.e7), (246, listO (du.map rowV) e.e8)]
/-- behind the law's first lines -/
theorem law_on (w : WK) (iv : List (Int × Tok)) (hiv : iv.length < 99999) (p6 p : Pos) (K : Nat) (s s1 : Shared) {rest : Array GenState × Drawn × OsState} (R : Result → Shared → Prop)
    (h1 : At (E2 w).kt rest [183, 209] s s1 (mainL w.params (T00 K) (lawF0 w.params (F00 K) (V00 K)) (J00 K) 0 iv [] [] [] [] [] [] [] ⟨0, 0, 0, 0, 0, 0, 0⟩ ++ [(211, wyCell none)]))
    (hR : ∀ s', At (E2 w).kt rest [183, 209] s s' [(183, cacheO), (209, listO (intsV iv) 0)] → R (.ok (.ret (.bool true))) s') (p1 : Pos) : wpCode (E2 w).M (Γof mainC (lawBel p23 p6)) (fun r s'' => MeansX ((E2 w).on (lBel p6)) R (cutX (ex0 w.w p6 p iv K) r St0) s'') p1 s1 := by
  refine main_wp w rest [183, 209] s [(211, wyCell none)] (T00 K) (J00 K) iv hiv p23 p6 _ (F00 K) (V00 K) ⟨0, 0, 0, 0, 0, 0, 0⟩ rfl rfl rfl p1 s1 h1 fun a F V g0 g1 du ds e s2 hra h8 hm4 hw h2 => ?_
  obtain ⟨g, q, rfl, rfl, rfl, hg, hq, hG0, hG1⟩ := ends hra h8 hm4 hw
  have hD : ds.map (fun d => (d.b, d.c)) = a.D := hw.hD
  have hok : okW (ds.map fun d => (d.b, d.c)) [([], [])] := by
    rw [hD]
    refine okW'_end hra.ok fun p hp => ?_
    have h1 := (hra.sz.2.2 p hp).2
    have h2 := hra.facts.ld
    omega
  have h2 : At (E2 w).kt rest [183, 209] s s2 (mainLits w.params (T00 K) F V (J00 K) iv g.l q.l q.n ds e ++ (dps ds ++ [(211, wyCell none)])) := h2
  have h3 : At (E2 w).kt rest [183, 209] s s2 (rest6 w.params F V (J00 K) g q e.e5 e.e6 e.e8 ++ ([(241, listO (ds.map DP.ref) e.e4)] ++ (dps ds ++ ([(211, wyCell none)] ++ [(183, cacheO), (209, listO (intsV iv) 0)])))) := h2.pk [dps ds, [(211, wyCell none)]] [0, 13, 11, 12, 1, 15, 10, 16, 17, 2, 9] rfl
  refine fin1 w p6 p iv K F V (J00 K) g q e.e5 e.e6 e.e8 R hg hq _ s2 h3 fun N1 K1 d1 d2 p3 s3 h4 => ?_
  have h5 : At (E2 w).kt rest [183, 209] s s3 ([(241, listO (ds.map DP.ref) e.e4)] ++ (dps ds ++ ([(211, wyCell none)] ++ (rest6 w.params F V (J00 K) g q e.e5 e.e6 e.e8 ++ [(183, cacheO), (209, listO (intsV iv) 0)])))) := At.pick [rest6 w.params F V (J00 K) g q e.e5 e.e6 e.e8, [(241, listO (ds.map DP.ref) e.e4)], dps ds, [(211, wyCell none)], [(183, cacheO), (209, listO (intsV iv) 0)]] [1, 2, 3, 0, 4] h4 rfl
  refine ways_wp w ⟨fBody fLaw, lawEnv, p42, p6⟩ 241 ds e.e4 hok _ _ p3 s3 h5 fun rl el rs s4 hrs hne hlen h6 => ?_
  have hz : ∀ r ∈ rs, r.zs.length = 4 := fun r hr => by
    have : r.zs.map (·.1) ∈ rs.map (fun r => r.zs.map (·.1)) := List.mem_map.mpr ⟨r, hr, rfl⟩
    rw [hrs] at this
    obtain ⟨z, _, hz⟩ := List.mem_map.mp this
    have := congrArg List.length hz
    rw [sumsOf_len, List.length_map] at this
    exact this.symm
  have hrs' : rs.map (fun r => r.zs.map (·.1)) = (foldW a.D start).map (fun q => sumsOf q.2) := by rw [← hD]; exact hrs
  have h7 : At (E2 w).kt rest [183, 209] s s4 ([(211, wyCell none)] ++ ([(rl, listO (rs.map RS.ref) el)] ++ (rs.map RS.ob ++ (rest6 w.params F V (J00 K) g q e.e5 e.e6 e.e8 ++ [(183, cacheO), (209, listO (intsV iv) 0)])))) := h6.pk [rs.map RS.ob, [(211, wyCell none)], rest6 w.params F V (J00 K) g q e.e5 e.e6 e.e8 ++ [(183, cacheO), (209, listO (intsV iv) 0)]] [2, 0, 1, 3] rfl
  refine fin3 w p6 p iv K F V (J00 K) g q e.e5 e.e6 e.e8 N1 K1 d1 d2 rl R _ s4 h7 fun N3 K3 p5 s5 h8' => ?_
  have h9 : At (E2 w).kt rest [183, 209] s s5 ([(N3 + 3, ShW.z.o w.params), (N3 + 1, riN 0 4), (N3 + 2, listO [] 0), (N3 + 4, wyCell none), (211, cellO (.ref rl)), (rl, listO (rs.map RS.ref) el)] ++ (rs.map RS.ob ++ (rest6 w.params F V (J00 K) g q e.e5 e.e6 e.e8 ++ [(183, cacheO), (209, listO (intsV iv) 0)]))) := h8'
  refine mo_all w true p43 p6 (N3 + 3) (N3 + 1) (N3 + 2) (N3 + 4) rl rs el _ hne hlen hz _ p5 s5 h9 fun y0 ea s6 hy0 hm0 h10 => ?_
  have h11 : At (E2 w).kt rest [183, 209] s s6 ([(210, lawF w.params F V)] ++ ([(N3 + 2, listO (intsV y0) ea), (211, cellO (.ref rl)), (rl, listO (rs.map RS.ref) el)] ++ (rs.map RS.ob ++ ((rest6 w.params F V (J00 K) g q e.e5 e.e6 e.e8).tail ++ [(183, cacheO), (209, listO (intsV iv) 0)])))) := h10.pk [rs.map RS.ob, [(210, lawF w.params F V)], (rest6 w.params F V (J00 K) g q e.e5 e.e6 e.e8).tail, [(183, cacheO), (209, listO (intsV iv) 0)]] [4, 0, 1, 2, 3, 5, 6] rfl
  refine fin4 w p6 p iv K F V (J00 K) g q e.e5 e.e6 e.e8 N1 K1 d1 d2 rl R N3 K3 _ s6 h11 fun N4 K4 p7 s7 h12 => ?_
  have h13 : At (E2 w).kt rest [183, 209] s s7 ([(N4 + 3, ShW.z.o w.params), (N4 + 1, riN 0 4), (N4 + 2, listO [] 0), (N4 + 4, wyCell none), (211, cellO (.ref rl)), (rl, listO (rs.map RS.ref) el)] ++ (rs.map RS.ob ++ ([(210, lawF1 w.params F V (K4 + 0) (N3 + 2)), (N3 + 2, listO (intsV y0) ea)] ++ ((rest6 w.params F V (J00 K) g q e.e5 e.e6 e.e8).tail ++ [(183, cacheO), (209, listO (intsV iv) 0)])))) := h12.pk2 [rs.map RS.ob, (rest6 w.params F V (J00 K) g q e.e5 e.e6 e.e8).tail, [(183, cacheO), (209, listO (intsV iv) 0)]] [1, 2, 3, 4, 6, 7, 8, 0, 5, 9, 10] rfl
  refine mo_all w false p44 p6 (N4 + 3) (N4 + 1) (N4 + 2) (N4 + 4) rl rs el _ hne hlen hz _ p7 s7 h13 fun y1 eb s8 hy1 hm1 h14 => ?_
  obtain ⟨q0, q1⟩ := end_sums a hra h8 rs hrs' (y0.map (·.1)) (y1.map (·.1)) (by simpa using hy0) (by simpa using hy1) hm0 hm1
  rw [hG0] at q0
  rw [hG1] at q1
  refine fin5 w p6 p iv K F V (J00 K) g q e.e5 e.e6 e.e8 N1 K1 d1 d2 rl R N3 K3 N4 K4 (K4 + 0) hg hq y0 y1 ea eb q0 q1 [(183, cacheO), (209, listO (intsV iv) 0)] s8 (h14.pkx ((rest6 w.params F V (J00 K) g q e.e5 e.e6 e.e8).tail.map (fun x => [x]) ++ [[(183, cacheO), (209, listO (intsV iv) 0)]]) [4, 6, 7, 8, 5, 0, 11] rfl) hR
theorem law_wp (w : World) (iv : List (Int × Tok)) (hiv : iv.length < 99999) (p6 p : Pos) (s : Shared) {rest : Array GenState × Drawn × OsState} (R : Result → Shared → Prop) (hN : s.heap.objs.size = 210) (L : Loc (E1 w).kt s (pre0 w.params iv))
    (hk : ∀ a o, (E1 w).kt.get a = some o → s.heap.get? a = some o) (hr : (s.gens, s.drawn, s.os) = rest) (hR : ∀ s', At (E2 ⟨w, s.toks⟩).kt rest [183, 209] s s' [(183, cacheO), (209, listO (intsV iv) 0)] → R (.ok (.ret (.bool true))) s') : wpCode (E1 w).M (Γof lawCall (lBel p6)) R p s := by
  have h0 : At (E1 w).kt rest [183, 209] s s (pre0 w.params iv) := At.start L hk hr
  refine wp_run (E1 w) den_eq 100000 (lBel p6) lawCall p s (pre0 w.params iv) L hk hr R (fun N K => .fin 891 hF0) fun N K hN' hK => ?_
  obtain rfl : N = 210 := hN'.symm.trans hN
  refine FinI.mk' [] [] (.cal mainC (lawBel p23 p6)) (mainL w.params (T00 K) (lawF0 w.params (F00 K) (V00 K)) (J00 K) 0 iv [] [] [] [] [] [] [] ⟨0, 0, 0, 0, 0, 0, 0⟩ ++ [(211, wyCell none), (225, lamCode K)]) (210, 47) (K, 58) _ (fin0_eq w p6 p iv K) (fun _ h => (nomatch h)) trivial rfl fun p1 s1 A1 => ?_
  have h1 : At (E1 w).kt rest [183, 209] s s1 ((mainL w.params (T00 K) (lawF0 w.params (F00 K) (V00 K)) (J00 K) 0 iv [] [] [] [] [] [] [] ⟨0, 0, 0, 0, 0, 0, 0⟩ ++ [(211, wyCell none)]) ++ [(225, lamCode K)]) := by
    have := At.step (extra := []) (pre := pre0 w.params iv) (by rw [List.append_nil]; exact h0) rfl A1
    rw [List.append_nil] at this
    rw [List.append_assoc]
    exact this
  have h2 := law_on ⟨w, K⟩ iv hiv p6 p K s s1 (rest := rest) R h1.known (fun s' h => hR s' (by rw [hK]; exact h)) p1
  exact code12 (wpCode_mono (fun r s' h => means12 h) h2)
end Mine
end
noncomputable section
namespace Mine
open PySem PySem.W PySem.W.X PyProof.Rows
noncomputable def q1 : Program := { pw with main := { pw.main with body := [0, 1, 3, 4, 5, 6, 8, 9, 11, 13, 14, 15, 16, 17].filterMap (pw.main.body[·]?) } }
noncomputable def loose1 : List Str := ["_twin_re_1", "_twin_re_2", "_Accumulator"]
theorem left1 : LeftO pw q1 loose1 (fun s => xlAt q1 [] s && recOk [] s) (fun s => (kAddrs.map s.heap.get?, s.heap.objs.size, s.toks)) (fun w => ((kObjs w.params).map some, 209, 553)) 2562 := fun w => by kernel_rfl
end Mine
end
noncomputable section
namespace Mine
open PySem PySem.W PySem.W.X PySem.Spec PySem.Calls PyProof.Rows

noncomputable abbrev rw1 : OpenLaw := PySem.Challenge.rw_rl0027_01
noncomputable abbrev r1 : RowW := rw1.row.toRowW

/-! ## the heap behind the top -/
noncomputable def fragA (P : Params) : Frag := kAddrs.zip (kObjs P)
noncomputable def fragK (P : Params) : Frag := (fragA P).filter fun p => !(Nat.beq p.1 183) && !(Nat.beq p.1 80)
theorem allIn_iff {h : Heap} : ∀ {K : Frag}, AllIn h K ↔ ∀ p ∈ K, h.get? p.1 = some p.2
  | [] => ⟨fun _ p hp => (nomatch hp), fun _ => trivial⟩
  | p :: K => ⟨fun h q hq => by
      cases hq with
      | head => exact h.1
      | tail _ hq => exact allIn_iff.mp h.2 q hq, fun h => ⟨h p (.head _), allIn_iff.mpr fun q hq => h q (.tail _ hq)⟩⟩
theorem kt_eq (P : Params) : KT.of (fragK P) = ktop P := by kernel_rfl
theorem fragA_keys (P : Params) : (fragA P).map (·.1) = kAddrs := by kernel_rfl
theorem fragA_vals (P : Params) : (fragA P).map (fun p => some p.2) = (kObjs P).map some := by kernel_rfl
theorem all_at {s : Shared} {w : World} (e : (kAddrs.map s.heap.get?, s.heap.objs.size, s.toks) = ((kObjs w.params).map some, 209, 553)) : ∀ p ∈ fragA w.params, s.heap.get? p.1 = some p.2 := by
  have e1 : kAddrs.map s.heap.get? = (kObjs w.params).map some := congrArg Prod.fst e
  exact allIn_iff.mp (allIn_of (by rw [fragA_keys, fragA_vals]; exact e1))
theorem at80 {P : Params} : ((80 : Nat), ko80 P) ∈ fragA P := List.mem_of_getElem? (i := 16) (by kernel_rfl)
theorem mem_fragK {P : Params} {p : Nat × Obj} (h : p ∈ fragK P) : p ∈ fragA P := by
  unfold fragK at h
  exact (List.mem_filter.mp h).1
theorem top_of {h : Heap} {K : Frag} {t : KT} (ke : KT.of K = t) (e : ∀ p ∈ K, h.get? p.1 = some p.2) : KT.Holds h 1 0 t := by
  subst ke
  exact holds_of (allIn_iff.mpr e)
theorem ktop_at {h : Heap} {P : Params} (e : ∀ p ∈ fragA P, h.get? p.1 = some p.2) : KT.Holds h 1 0 (ktop P) :=
  top_of (K := fragK P) (t := ktop P) (kt_eq P) fun p hp => e p (mem_fragK hp)
theorem put_at {h : Heap} {t : KT} {i : Nat} {o' : Obj} (H : KT.Holds h 1 0 t) (e : h.get? i = some o') {a : Nat} {o : Obj} (q : (KT.put 40 t i o').get a = some o) : h.get? a = some o :=
  kt_at (KT.Holds.put 40 H (by rw [Nat.one_mul, Nat.add_zero]; exact e)) q
theorem kt1_at {h : Heap} {P : Params} (e : ∀ p ∈ fragA P, h.get? p.1 = some p.2) (a : Nat) (o : Obj) (q : (kt1 P).get a = some o) : h.get? a = some o := by
  unfold kt1 at q
  exact put_at (ktop_at e) (e _ at80) q


theorem at3 {P : Params} : ((3 : Nat), ko3 P) ∈ fragA P := List.mem_of_getElem? (i := 2) (by kernel_rfl)
theorem at183 {P : Params} : ((183 : Nat), ko183 P) ∈ fragA P := List.mem_of_getElem? (i := 35) (by kernel_rfl)
theorem at187 {P : Params} : ((187 : Nat), ko187 P) ∈ fragA P := List.mem_of_getElem? (i := 36) (by kernel_rfl)
noncomputable def lawIn (o : Obj) : Option Value := match o.data with | .dict es _ => nsFind es r1.name | _ => none
theorem lawIn3 (P : Params) : lawIn (ko3 P) = some (.ref 208) := by kernel_rfl
theorem law_at {s : Shared} {P : Params} (e : ∀ p ∈ fragA P, s.heap.get? p.1 = some p.2) : s.heap.nsMap mainGlobals r1.name = some (.ref 208) := by
  have h3 := e _ (at3 (P := P))
  have h4 : s.heap.get? mainGlobals = some (ko3 P) := h3
  unfold Heap.nsMap
  rw [h4]
  exact lawIn3 P
theorem ints_at : ∀ {vs : List Value} {ns : List Int}, IntsAre vs ns → ∃ iv, vs = intsV iv ∧ iv.length = ns.length
  | _, _, .nil => ⟨[], rfl, rfl⟩
  | _, _, .cons _ _ h => by
    obtain ⟨iv, e, l⟩ := ints_at h
    exact ⟨(_, _) :: iv, by rw [e]; rfl, by simp [l]⟩

theorem kn183 (P : Params) : (kt1 P).get 183 = none := by kernel_rfl
theorem kn209 (P : Params) : (kt1 P).get 209 = none := by kernel_rfl
theorem loc_at {s : Shared} {w : World} {iv : List (Int × Tok)} (h183 : s.heap.get? 183 = some (ko183 w.params)) (h209 : s.heap.get? 209 = some (listO (intsV iv) 0)) : Loc (E1 w).kt s (pre0 w.params iv) := by
  refine ⟨fun x hx => ?_, by show [183, 209].Nodup; decide, fun x hx => ?_⟩
  · cases hx with
    | head => exact h183
    | tail _ hx => cases hx with
      | head => exact h209
      | tail _ hx => cases hx
  · cases hx with
    | head => exact kn183 _
    | tail _ hx => cases hx with
      | head => exact kn209 _
      | tail _ hx => cases hx
theorem cache_is (P : Params) : some cacheO = some { ko183 P with data := .fields (#[] ++ #[.int 93 0, .int 18 0, .ref 225]) } := by kernel_rfl
/-- what the call leaves is good -/
theorem old_at {kt : KT} {rest : Array GenState × Drawn × OsState} {P : Params} {iv : List (Int × Tok)} {s₁ s' : Shared} (h : At kt rest [183, 209] s₁ s' [(183, cacheO), (209, listO (intsV iv) 0)]) (h183 : s₁.heap.get? 183 = some (ko183 P)) (h187 : s₁.heap.get? 187 = some (ko187 P)) (h209 : s₁.heap.get? 209 = some (listO (intsV iv) 0)) : OldK s₁.heap s'.heap := by
  have e1 : s'.heap.get? 183 = some cacheO := h.loc.own (183, cacheO) (.head _)
  have e2 : s'.heap.get? 209 = some (listO (intsV iv) 0) := h.loc.own (209, _) (.tail _ (.head _))
  refine ⟨fun b o e => ?_, fun b o e => ?_⟩
  · by_cases b1 : b = 183
    · subst b1
      obtain rfl : ko183 P = o := Option.some.inj (h183.symm.trans e)
      exact .inr (.inl ⟨⟨187, ko187 P, _, h187, rfl, rfl, rfl⟩, rfl, #[], #[.int 93 0, .int 18 0, .ref 225], rfl, e1.trans (cache_is P)⟩)
    · by_cases b2 : b = 209
      · subst b2
        exact .inl (by rw [e2, ← h209]; exact e)
      · exact .inl (h.since.frame b o e (by simp [b1, b2]))
  · by_cases b1 : b = 183
    · exact ⟨_, by rw [b1]; exact e1⟩
    · by_cases b2 : b = 209
      · exact ⟨_, by rw [b2]; exact e2⟩
      · exact ⟨_, h.since.frame b o e (by simp [b1, b2])⟩
theorem call2 (w : World) (s₀ s₁ : Shared) (T : s₁.heap.Ns mainGlobals (s₀.heap.nsMap mainGlobals))
    (Y : (kAddrs.map s₀.heap.get?, s₀.heap.objs.size, s₀.toks) = ((kObjs w.params).map some, 209, 553)) (ns : List Int) (iv : List (Int × Tok)) (hl : iv.length = ns.length) (h63 : ns.length ≤ 63) (a : Addr) (as : List Addr)
    (L : Laid r1.records w s₀ s₁ [ofPy (PyData.list (ns.map PyData.int))] [.ref a] as) (hL : s₁.heap.IsList a (intsV iv).toArray) :
    Sem.wp (model r1.prog w) callerG (callStub r1.name [.ref a]).cur (Sem.finPost (model r1.prog w) callerG fun x s' => GoodWG r1.claim (classAt s₀.heap) (ExcName.means s₀.heap) [ofPy (PyData.list (ns.map PyData.int))] s₁ x s')
          (fun e _ s' => GoodWG r1.claim (classAt s₀.heap) (ExcName.means s₀.heap) [ofPy (PyData.list (ns.map PyData.int))] s₁ (.error e) s') default s₁ := by
  obtain ⟨ea, es⟩ := script_at L
  have ho := script_obj L hL
  have y2 : s₀.heap.objs.size = 209 := congrArg (fun x => x.2.1) Y
  rw [y2] at ea es
  subst ea
  have hA := all_at Y
  have hA1 : ∀ p ∈ fragA w.params, s₁.heap.get? p.1 = some p.2 := fun p hp => L.keeps _ _ (hA p hp)
  have h209 : s₁.heap.get? 209 = some (listO (intsV iv) 0) := ho
  have h183 : s₁.heap.get? 183 = some (ko183 w.params) := hA1 _ at183
  have h187 : s₁.heap.get? 187 = some (ko187 w.params) := hA1 _ at187
  have hlaw : s₀.heap.nsMap mainGlobals r1.name = some (.ref 208) := law_at hA
  show Sem.wp (model r1.prog w) callerG (nsGet mainNs r1.name >>= fun o => match o with | some f => (PySem.call f [.ref 209] >>= fun v => ret v) | none => unsupported "claim.caller:no-such-global") _ _ default s₁
  rw [Sem.wp_bind']
  refine Sem.wp_mono _ _ _ ?_ (fun _ _ _ h => h.elim) _ _ (wpAny_nsGet (M := model r1.prog w) (A := callerA) (E := fun _ _ => False) (Q := fun x s' => x = some (.ref 208) ∧ s' = s₁) T ⟨hlaw, rfl⟩ callerG default caller_in)
  rintro x p' s2 ⟨hx, hs⟩
  subst hs
  subst hx
  show Sem.wp (model r1.prog w) callerG (PySem.call (.ref 208) [.ref 209] >>= fun v => ret v) _ _ p' s2
  rw [Sem.wp_bind']
  unfold PySem.call
  rw [Sem.wp_runValue]
  refine law_wp w iv (by omega) p' p' s2 (rest := (s2.gens, s2.drawn, s2.os)) _ es (loc_at h183 h209) (fun a o q => kt1_at hA1 a o q) rfl fun s' h => ?_
  have hr := h.since.rest
  have hg : s'.gens = s2.gens := congrArg (fun x => x.1) hr
  have hos : s'.os = s2.os := congrArg (fun x => x.2.2) hr
  show GoodWG r1.claim (classAt s₀.heap) (ExcName.means s₀.heap) [ofPy (PyData.list (ns.map PyData.int))] s2 (.ok (.ret (.bool true))) s'
  refine ⟨.inl ⟨.bool true, .bool true, [], rfl, fun _ => rfl, .bool _, ?_, fun _ => ⟨.nil, fun a ha => (nomatch ha)⟩⟩, old_at h h183 h187 h209, hos, .of_eq (hg.trans L.gens)⟩
  wrow_post
noncomputable abbrev XP1 := XL q1 []
theorem call1 (w : World) (s₀ s₁ : Shared) (hgens : s₀.gens = #[]) (G : Ground q1 loose1 r1.records XP1 w s₀ (s₀.heap.nsMap mainGlobals) (s₀.heap.nsMap builtinsNs) s₁.heap)
    (Y : (kAddrs.map s₀.heap.get?, s₀.heap.objs.size, s₀.toks) = ((kObjs w.params).map some, 209, 553)) (args : List WData) (vs : List Value) (as : List Addr)
    (hpre : r1.claim.pre args = true) (hlay : WData.layableAll args = true) (L : Laid r1.records w s₀ s₁ args vs as) (low : sysModules < s₀.heap.objs.size) :
    Sem.wp (model r1.prog w) callerG (callStub r1.name vs).cur (Sem.finPost (model r1.prog w) callerG fun x s' => GoodWG r1.claim (classAt s₀.heap) (ExcName.means s₀.heap) args s₁ x s')
          (fun e _ s' => GoodWG r1.claim (classAt s₀.heap) (ExcName.means s₀.heap) args s₁ (.error e) s') default s₁ := by
  have hrd := L.reads
  have hwl := L.well
  have hlo := L.low low
  wrow_args hpre hlay hrd hwl hlo
  rename_i ns _ _ _ _ _ as1 as2 a vs _ hL _ _ _ hI _ hc1 _
  obtain ⟨iv, rfl, hl⟩ := ints_at hI
  exact call2 w s₀ s₁ G.T.g Y ns iv hl (by omega) a _ L hL
end Mine
end
noncomputable section
namespace Mine
open PySem PySem.W PySem.W.X PySem.Spec PySem.Calls PyProof.Rows
theorem h1 : rw1.wellSaid = true := by kernel_rfl
theorem h2 : rw1.row.wellSaid = true := row_said h1
theorem h3 : r1.promised := ⟨[.list []], by kernel_rfl, by kernel_rfl⟩
theorem h4 : chainsOk q1 = true := by kernel_rfl
theorem h5 : opensWell r1.prog = true := by kernel_rfl
theorem h6 : frees r1 = true := by kernel_rfl
theorem h7 : r1.within.isEmpty = true := rfl
theorem h8 : r1.prog.bare := ⟨rfl, rfl, rfl, rfl, rfl, by kernel_rfl⟩
noncomputable def lawRec : Option (DefRec × List (Str × Expr)) := defOf q1 r1.name
theorem h9 : lawRec.isSome = true := by kernel_rfl
noncomputable def lawD : DefRec × List (Str × Expr) := lawRec.get h9
theorem h10 : defOf q1 r1.name = some (lawD.1, lawD.2) := (Option.some_get h9).symm
theorem h11 : kwWritten? lawD.1.params.kwonlyargs lawD.1.params.kw_defaults = some lawD.2 := by kernel_rfl
theorem h12 : r1.prog.theDef r1.name = some (lawD.1.params, lawD.1.body, lawD.1.scope) := by kernel_rfl
theorem mem_pin {n m : Str} {b : Bool} (h : n ∈ (if b then [m] else [])) : n = m := by
  cases b with
  | true => exact List.mem_singleton.mp h
  | false => cases h
theorem h13 : rw1.row.Holds :=
  ⟨h2, h3, open_at (r := r1) (tree := fun vs => (callStub r1.name vs).cur) (q := q1) (loose := loose1) (XP := XP1) left1 (fun s e => xl_of s (Bool.and_eq_true_iff.mp e).1) XL.keeps (fun s e => recFacts_of (Bool.and_eq_true_iff.mp e).2) (by kernel_rfl) h4 h5 h6 h7 h8 h3
    (fun w s hg G n hn => by
      obtain rfl := mem_pin hn
      exact pinned_of_view hg G h10 h12 h11)
    call1⟩
theorem law1 : PySem.Challenge.rw_rl0027_01.Holds := ⟨h1, h13⟩
end Mine
end

set_option maxHeartbeats 0 in
theorem PySem.Challenge.cw_rl0027_01_holds : PySem.Challenge.rw_rl0027_01.Holds := by
  exact Mine.law1
