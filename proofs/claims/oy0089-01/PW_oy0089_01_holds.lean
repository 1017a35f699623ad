import PyProof.Rows.All
import Wide.All
import OpenK.AllK
import Wide.FinOn
import PySem.Challenge.RW_oy0089_01
set_option Elab.async false
open PySem PySem.W PyProof.Rows
namespace Mine
set_option maxRecDepth 100000
set_option maxHeartbeats 8000000
-- part Hd
section
open PySem PySem.W PyProof.Rows
open_top hd for PySem.Challenge.rw_oy0089_01
end
-- part B0
section
open PySem PySem.W PyProof.Rows

noncomputable abbrev Con (w : World) (f : Addr) (pos : List Value) (kw : List (Str × Value)) (dd : Nat) (pre : Heap → Prop) (R : Heap → Heap → Value → Prop) : Prop :=
  ∀ (p : Program) (loose : List Str) (mean : ExcName → Option Value) (mg mb : Str → Option Value) (dp un : Nat) (gd : Option (List Code)) (cn : Str) (cs : Scope) (a : Addr) (ccd : Value) (cl : List (Str × Addr)) (outer : List Env) (A₀ : Around) (base h₀ : Heap) (L : Addr) (m : Str → Option Value) (s : Shared) (Q E : Value → Shared → Prop),
    Below A₀ base outer h₀ → Fr h₀ L s.heap m → (hd.heap_39 w.params).In h₀ → Top p loose mean mg mb h₀ → cs.kind = .function →
      dp + dd < recursionLimit → un + 8 * dd < cLine → pre s.heap → (∀ v h' tk', s.heap.StaysIn h' → R s.heap h' v → Q v { s with heap := h', toks := tk' }) →
      wpAny (model Challenge.pw_oy0089_01 w) (ktrTop dp un gd cn cs L a ccd cl outer) (call (.ref f) pos kw) Q E s

section
open PySem.Calls
variable {prog : Program} {w : World} {A A₀ : Around} {E : Value → Shared → Prop} {s : Shared} {K : Frag} {L : Addr} {h₀ base : Heap} {m mg mb : Str → Option Value} {news : List (Addr × Obj)} {p : Program} {loose : List Str} {mean : ExcName → Option Value} {Q : Value → Shared → Prop}

theorem enter {env : Env} {outer : List Env} {name qual : Str} {params : Arguments} {body : List Stmt} {scope : Scope} {dV kV doc pm cdv ct oc : Value} {an od : Option Addr} {osl : Array (Option Value)} {f : Addr} {pos : List Value} {kw : List (Str × Value)} {binds : List (Str × Value)}
    (B : Below A₀ base outer h₀) (F : Fr h₀ L s.heap m) (X₀ : K.In h₀) (T : Top p loose mean mg mb h₀) (hA : A.frames = some (env :: outer)) (hf : env.frame = some L) (hke : env.scope.kind = .function)
    (ho : K.lookup f = some ⟨oc, od, .func (fnOf name qual params body scope dV kV doc pm an cdv ct), osl⟩) (hcd : codeIn K cdv qual = true) (hroom : A.depth < recursionLimit)
    (hbind : BindsTo s (fnOf name qual params body scope dV kV doc pm an cdv ct) ⟨pos, kw⟩ binds) (hloc : ∀ y ∈ binds, scope.names.lookup y.1 = some .local)
    (h : ∀ L' h₁, Fr s.heap L' h₁ (fun y => binds.reverse.lookup y) → News s.heap L' h₁ [] → Below A base (env :: outer) s.heap → K.In s.heap → Top p loose mean mg mb s.heap →
      wpAny (model prog w) (A.deeper (envOf qual scope L' f cdv)) (execs body (envOf qual scope L' f cdv))
        (fun fl s' => Q (match fl with | .ret v => v | _ => .none) s')
        (fun e s' => wpAny (model prog w) (A.deeper (envOf qual scope L' f cdv)) (leaving (envOf qual scope L' f cdv) e) (fun _ s'' => E e s'') (fun e' s'' => E e' s'') s')
        { s with heap := h₁, toks := s.toks + binds.length })
    (hco : scope.isCoroutine = false) (hgen : scope.isGenerator = false) (hk : scope.kind = .function)
    (hcell : ∀ x ∈ scope.names, x.2 ≠ .cell) : wpAny (model prog w) A (call (.ref f) pos kw) Q E s := by
  have B1 := pushX B F hf hke
  have X1 := X₀.keeps F.keep
  refine wpAny_call (codeAny_call_def (fd := fnOf name qual params body scope dV kV doc pm an cdv ct) (body := body) (binds := binds) hroom (X1 _ _ ho) rfl (T.nolimit.keeps F.keep) (codeRec_of X1 hcd) rfl hbind hcell hloc (fun h₁ hns hk₁ => ?_) hco hgen hk)
  exact h _ h₁ ⟨hns, hk₁, Nat.le_refl _⟩ News.nil ⟨hA, B1.stays, B1.frames⟩ X1 (T.keeps F.keep)

theorem fr_stays {h h' : Heap} (F : Fr h₀ L h m) (st : h.StaysIn h') : Fr h₀ L h' m := by
  obtain ⟨oL, es, ep, hL, r⟩ := F.ns
  exact ⟨⟨oL, es, ep, st _ _ hL, r⟩, fun b o e => st _ _ (F.keep b o e), F.above⟩
theorem news_stays {h h' : Heap} (N : News h₀ L h news) (st : h.StaysIn h') : News h₀ L h' news := fun p hp => ⟨st _ _ (N p hp).1, (N p hp).2⟩
end
section
variable {w : World} {f : Addr} {pos : List Value} {kw : List (Str × Value)} {dd : Nat} {pre : Heap → Prop} {R : Heap → Heap → Value → Prop} {V : Tok → Value}
  {dp un : Nat} {gd : Option (List Code)} {cn : Str} {cs : Scope} {a : Addr} {ccd : Value} {cl : List (Str × Addr)} {outer : List Env} {A₀ : Around} {base h₀ : Heap} {L : Addr} {m : Str → Option Value} {s : Shared} {Q E : Value → Shared → Prop}
  {p : Program} {loose : List Str} {mean : ExcName → Option Value} {mg mb : Str → Option Value} {news : List (Addr × Obj)}
theorem con_use (C : Con w f pos kw dd pre R) (B : Below A₀ base outer h₀) (F : Fr h₀ L s.heap m) (X : (hd.heap_39 w.params).In h₀) (N : News h₀ L s.heap news) (T : Top p loose mean mg mb h₀) (hk : cs.kind = .function)
    (hd : dp + dd < recursionLimit) (hu : un + 8 * dd < cLine) (hp : pre s.heap)
    (ret : ∀ v h' tk', Fr h₀ L h' m → News h₀ L h' news → s.heap.StaysIn h' → R s.heap h' v → Q v { s with heap := h', toks := tk' }) :
    wpAny (model Challenge.pw_oy0089_01 w) (ktrTop dp un gd cn cs L a ccd cl outer) (call (.ref f) pos kw) Q E s :=
  C _ _ _ _ _ _ _ _ _ _ _ _ _ _ _ _ _ _ _ _ _ _ B F X T hk hd hu hp fun v h' tk' st r => ret v h' tk' (fr_stays F st) (news_stays N st) st r
theorem con_val (C : Con w f pos kw dd pre (fun _ _ v => ∃ t, v = V t)) (B : Below A₀ base outer h₀) (F : Fr h₀ L s.heap m) (X : (hd.heap_39 w.params).In h₀) (N : News h₀ L s.heap news) (T : Top p loose mean mg mb h₀) (hk : cs.kind = .function)
    (hd : dp + dd < recursionLimit) (hu : un + 8 * dd < cLine) (hp : pre s.heap)
    (ret : ∀ t h' tk', Fr h₀ L h' m → News h₀ L h' news → Q (V t) { s with heap := h', toks := tk' }) :
    wpAny (model Challenge.pw_oy0089_01 w) (ktrTop dp un gd cn cs L a ccd cl outer) (call (.ref f) pos kw) Q E s :=
  con_use C B F X N T hk hd hu hp fun v h' tk' F' N' _ ⟨t, e⟩ => e ▸ ret t h' tk' F' N'
end
end
local macro_rules | `(tactic| walk_at $s:str) => `(tactic| k_extra $s)
local macro_rules | `(tactic| omega) => `(tactic| first | with_reducible assumption | lia)
-- part B1
section
open PySem PySem.W PyProof.Rows



theorem kw3 : True := by
  w_top off
  k_with_none
  (k_with "unf" => (
  (have kwhf : PySem.Challenge.rw_oy0089_01 = PySem.Challenge.rw_oy0089_01 ∧ _root_.Mine.hd.heap_39 = _root_.Mine.hd.heap_39 := by (k_fill; exact ⟨rfl, rfl⟩));
  clear kwhf;
  k_dflt (refine' enter ?kwk1 ?kwk2 ?kwk3 ?kwk5 ?kwkA ?kwkF ?kwkK ?kwk6 ?kwk7 ?kwk8 ?kwk9 ?kwkB ?_ ?kwc2 ?kwc3 ?kwc4 ?kwc5; (case kwkA => exact rfl); (case kwkF => exact rfl); (case kwkK => assumption); (case kwk1 => k_asm); (case kwk2 => k_asm); (case kwk3 => k_asm); (case kwk5 => k_asm); (case kwk6 => k_is); (case kwk7 => k_is); (case kwk8 => ktr_room); (case kwk9 => first | exact BindsTo.of_eq rfl | exact binds_K (by k_in) rfl (by k_is) rfl rfl rfl | fail "enter: no rule for these arguments"); (case kwc5 => decide); (case kwkB => exact locs rfl); (case kwc2 => exact rfl); (case kwc3 => exact rfl); (case kwc4 => exact rfl); k_whole; intro kwL' kwh' kwF' kwN' kwB' kwX' kwT'; (try dsimp only); (try k_fold))))
  (k_with "call type:type" => ((with_reducible show wpAny _ _ (call _ [Value.bytes _ _]) _ _ _); refine call_type_of (Tx := "bytes") rfl (by decide +kernel) ?_))
  trivial
theorem ex_int {x y : Int} {t : Tok} (e : y = x) : ∃ t', Value.int y t = .int x t' := ⟨t, by rw [e]⟩

noncomputable def val64 (c : Int) : Int := if 65 ≤ c ∧ c ≤ 90 then c - 65 else if 97 ≤ c ∧ c ≤ 122 then c - 71 else if 48 ≤ c ∧ c ≤ 57 then c + 4 else if c = 43 then 62 else if c = 47 then 63 else 64

theorem b64_value (w : World) (c : Int) (t : Tok) : Con w 91 [.int c t] [] 1 (fun _ => True) (fun _ _ v => ∃ t, v = .int (val64 c) t) := by
  intro p loose mean mg mb dp un gd cn cs a ccd cl outer A₀ base h₀ L m s Q E hB hF hX hT hK hd hu hp hret
  k_extra "unf"
  k_steps
  all_goals (refine hret _ _ _ (Fr.keep (by k_asm)) (ex_int ?_))
  all_goals (unfold val64; (try simp only [decide_eq_true_eq, decide_eq_false_iff_not] at *); (repeat' split) <;> omega)

theorem truth_false (w : World) : Con w 84 [.bool false] [] 1 (fun _ => True) (fun _ _ v => ∃ _t : Tok, v = .bool false) := by
  intro p loose mean mg mb dp un gd cn cs a ccd cl outer A₀ base h₀ L m s Q E hB hF hX hT hK hd hu hp hret
  k_extra "unf"
  k_steps
  all_goals exact hret _ _ _ (Fr.keep (by k_asm)) ⟨0, rfl⟩

theorem buffer_bytes (w : World) (b : Array UInt8) (t : Tok) : Con w 77 [.bytes b t] [] 1 (fun _ => True) (fun _ _ v => ∃ t : Tok, v = .bytes b t) := by
  intro p loose mean mg mb dp un gd cn cs a ccd cl outer A₀ base h₀ L m s Q E hB hF hX hT hK hd hu hp hret
  k_extra "unf"
  k_steps
  all_goals exact hret _ _ _ (Fr.keep (by k_asm)) ⟨_, rfl⟩

theorem ascii_buffer_bytes (w : World) (b : Array UInt8) (t : Tok) : Con w 70 [.bytes b t] [] 1 (fun _ => True) (fun _ _ v => ∃ t : Tok, v = .bytes b t) := by
  intro p loose mean mg mb dp un gd cn cs a ccd cl outer A₀ base h₀ L m s Q E hB hF hX hT hK hd hu hp hret
  k_extra "unf"
  k_steps
  all_goals exact hret _ _ _ (Fr.keep (by k_asm)) ⟨_, rfl⟩

theorem from_bytes (w : World) (b : Array UInt8) (t : Tok) : Con w 50 [.bytes b t] [] 1 (fun _ => True) (fun _ _ v => ∃ t : Tok, v = .bytes b t) := by
  intro p loose mean mg mb dp un gd cn cs a ccd cl outer A₀ base h₀ L m s Q E hB hF hX hT hK hd hu hp hret
  k_extra "unf"
  k_steps
  all_goals exact hret _ _ _ (Fr.keep (by k_asm)) ⟨_, rfl⟩

noncomputable def fig (c : Int) : Int := if c.fmod 8 = 0 then 62 else if c.fmod 8 = 1 then 63 else if c.fmod 8 = 2 then 53 else if c.fmod 8 = 3 then 52 else if c.fmod 8 = 4 then 49 else if c.fmod 8 = 5 then 61 else if c.fmod 8 = 6 then 0 else (c.fdiv 8).fmod 64
theorem law_figure (w : World) (c : Int) (t : Tok) : Con w 139 [.int c t] [] 1 (fun _ => True) (fun _ _ v => ∃ t, v = .int (fig c) t) := by
  intro p loose mean mg mb dp un gd cn cs a ccd cl outer A₀ base h₀ L m s Q E hB hF hX hT hK hd hu hp hret
  k_extra "unf"
  k_steps
  all_goals (refine hret _ _ _ (Fr.keep (by k_asm)) (ex_int ?_))
  all_goals (unfold fig; simp only [*]; rfl)
end
-- part P0
section
open PySem PySem.W PyProof.Rows

theorem nat_and_disj (m n k : Nat) (h : n < 2 ^ k) : (m * 2 ^ k) &&& n = 0 := by
  apply Nat.eq_of_testBit_eq
  intro i
  rw [Nat.testBit_and, Nat.testBit_mul_two_pow, Nat.zero_testBit]
  by_cases hi : k ≤ i
  · rw [Nat.testBit_lt_two_pow (Nat.lt_of_lt_of_le h (Nat.pow_le_pow_right (by decide) hi))]; simp
  · simp [hi]
theorem bitOr_disj (x y : Int) (k : Nat) (hx : 0 ≤ x) (hy : 0 ≤ y) (h : y < 2 ^ k) : Builtin.bitOr (x * 2 ^ k) y = x * 2 ^ k + y := by
  have h2 : (0 : Int) ≤ 2 ^ k := Int.le_of_lt (Int.pow_pos (by decide))
  have hxk : 0 ≤ x * 2 ^ k := Int.mul_nonneg hx h2
  rw [bitOr_and, bitAnd_pp hxk hy]
  have e : (x * 2 ^ k).toNat = x.toNat * 2 ^ k := by
    obtain ⟨n, rfl⟩ := Int.eq_ofNat_of_zero_le hx
    have : ((n : Int) * 2 ^ k) = ((n * 2 ^ k : Nat) : Int) := by push_cast; rfl
    rw [this, Int.toNat_natCast, Int.toNat_natCast]
  have hn : y.toNat < 2 ^ k := by
    have : ((2 ^ k : Nat) : Int) = (2 : Int) ^ k := by push_cast; rfl
    omega
  rw [e, nat_and_disj _ _ _ hn]
  simp

noncomputable def let64 (i : Int) : Int := if i < 26 then i + 65 else if i < 52 then i + 71 else if i < 62 then i - 4 else if i = 62 then 43 else 47

noncomputable def encStep (st : Int × Int × List Int) (b : Int) : Int × Int × List Int :=
  let lc := (st.1 * 256 + b) % 65536
  if st.2.1 = 4 then (lc, 0, st.2.2 ++ [let64 (lc / 64 % 64), let64 (lc % 64)])
  else if st.2.1 = 2 then (lc, 4, st.2.2 ++ [let64 (lc / 16 % 64)])
  else (lc, 2, st.2.2 ++ [let64 (lc / 4 % 64)])
noncomputable def encF (l : List Int) : Int × Int × List Int := l.foldl encStep (0, 0, [])
theorem encF_snoc (l : List Int) (b : Int) : encF (l ++ [b]) = encStep (encF l) b := by simp [encF, List.foldl_append]
structure EncOk (k : Nat) (st : Int × Int × List Int) : Prop where
  lo : 0 ≤ st.1
  hi : st.1 < 65536
  bits : st.2.1 = 0 ∨ st.2.1 = 2 ∨ st.2.1 = 4
  len : st.2.2.length ≤ 2 * k
  inn : ∀ x ∈ st.2.2, 0 ≤ x ∧ x < 256
theorem let64_in (i : Int) (h0 : 0 ≤ i) (h1 : i < 64) : 0 ≤ let64 i ∧ let64 i < 256 := by unfold let64; split <;> (try split) <;> (try split) <;> (try split) <;> omega
theorem encStep_ok {k : Nat} {st : Int × Int × List Int} (h : EncOk k st) (b : Int) : EncOk (k + 1) (encStep st b) := by
  obtain ⟨h1, h2, h3, h4, h5⟩ := h
  have hm0 := Int.emod_nonneg (st.1 * 256 + b) (by decide : (65536 : Int) ≠ 0)
  have hm1 := Int.emod_lt_of_pos (st.1 * 256 + b) (by decide : (0 : Int) < 65536)
  have z : ∀ y : Int, 0 ≤ let64 (y % 64) ∧ let64 (y % 64) < 256 := fun y => let64_in _ (Int.emod_nonneg _ (by decide)) (Int.emod_lt_of_pos _ (by decide))
  unfold encStep
  dsimp only
  split
  · refine ⟨hm0, hm1, .inl rfl, ?_, ?_⟩
    · simp only [List.length_append, List.length_cons, List.length_nil]; omega
    · intro x hx
      simp only [List.mem_append, List.mem_cons, List.not_mem_nil, or_false] at hx
      rcases hx with hx | rfl | rfl
      · exact h5 x hx
      · exact z _
      · exact z _
  · split
    · refine ⟨hm0, hm1, .inr (.inr rfl), ?_, ?_⟩
      · simp only [List.length_append, List.length_cons, List.length_nil]; omega
      · intro x hx
        simp only [List.mem_append, List.mem_cons, List.not_mem_nil, or_false] at hx
        rcases hx with hx | rfl
        · exact h5 x hx
        · exact z _
    · refine ⟨hm0, hm1, .inr (.inl rfl), ?_, ?_⟩
      · simp only [List.length_append, List.length_cons, List.length_nil]; omega
      · intro x hx
        simp only [List.mem_append, List.mem_cons, List.not_mem_nil, or_false] at hx
        rcases hx with hx | rfl
        · exact h5 x hx
        · exact z _
theorem encF_ok (l : List Int) : EncOk l.length (encF l) := by
  have go : ∀ (l : List Int) (k : Nat) (st : Int × Int × List Int), EncOk k st → EncOk (k + l.length) (l.foldl encStep st) := by
    intro l
    induction l with
    | nil => intro k st h; exact h
    | cons b r ih =>
      intro k st h
      have := ih (k + 1) _ (encStep_ok h b)
      simp only [List.foldl_cons, List.length_cons]
      rw [show k + (r.length + 1) = k + 1 + r.length by omega]
      exact this
  have := go l 0 (0, 0, []) ⟨by decide, by decide, .inl rfl, by simp, by simp⟩
  simpa [encF] using this
theorem encF_bits (l : List Int) : (encF l).2.1 = 2 * ((l.length % 3 : Nat) : Int) := by
  have go : ∀ (l : List Int) (k : Nat) (st : Int × Int × List Int), st.2.1 = 2 * ((k % 3 : Nat) : Int) → (l.foldl encStep st).2.1 = 2 * (((k + l.length) % 3 : Nat) : Int) := by
    intro l
    induction l with
    | nil => intro k st h; simpa using h
    | cons b r ih =>
      intro k st h
      simp only [List.foldl_cons, List.length_cons]
      rw [show k + (r.length + 1) = k + 1 + r.length by omega]
      refine ih (k + 1) _ ?_
      unfold encStep
      dsimp only
      split
      · show (0 : Int) = _; omega
      · split
        · show (4 : Int) = _; omega
        · show (2 : Int) = _; omega
  have := go l 0 (0, 0, []) (by simp)
  simpa [encF] using this
end
-- part L0
section
open PySem PySem.W PyProof.Rows

noncomputable abbrev LoopS := List Value × Array Value × Nat
noncomputable abbrev LpLed (l : Addr) : LoopS → List (Addr × Obj) := fun c => [(l, W.listOf c.2.1 c.2.2)]
noncomputable abbrev LpPs (ys : List Str) : LoopS → List (Str × Value) := fun c => ys.zip c.1
noncomputable def TurnEnd (h₀ : Heap) (L l : Addr) (ys : List Str) (x : Str) (m₀ : Str → Option Value) (P : List Value → Array Value → Prop) (own : List (Addr × Obj)) (s₁ : Shared) (Q : Flow → Shared → Prop) (f : Flow) (s₂ : Shared) : Prop :=
  InvPostN h₀ L (KstS (LpLed l) (LpPs ys) (fun _ => True) x [] m₀ (fun _ c => P c.1 c.2.1) []) own [l] s₁ Q f s₂
section
variable {prog : Program} {w : World} {A : Around} {E : Value → Shared → Prop} {s : Shared} {env : Env} {h₀ : Heap} {x : Str} {body : List Stmt} {Q : Flow → Shared → Prop}
theorem turn_next {L l : Addr} {ys : List Str} {m₀ m' : Str → Option Value} {P : List Value → Array Value → Prop} {own news' : List (Addr × Obj)} {s₁ : Shared} {h' : Heap} {tk n' : Nat} {vals' : List Value} {its' : Array Value} {f : Flow}
    (hf : f = .next ∨ f = .cont) (F : Fr h₀ L h' m') (N : News h₀ L h' news') (hn : (l, W.listOf its' n') ∈ news') (ho : ∀ p ∈ own, p ∈ news')
    (hps : ∀ p ∈ ys.zip vals', m' p.1 = some p.2) (hz : ∀ z, z ≠ x → (∀ p ∈ ys.zip vals', z ≠ p.1) → m' z = m₀ z) (hp : P vals' its') :
    TurnEnd h₀ L l ys x m₀ P own s₁ Q f { s₁ with heap := h', toks := tk } := by
  have e : InvEndN h₀ L (KstS (LpLed l) (LpPs ys) (fun _ => True) x [] m₀ (fun _ c => P c.1 c.2.1) []) own [l] s₁ { s₁ with heap := h', toks := tk } :=
    ⟨h', tk, m', news', [(l, W.listOf its' n')], rfl, F, N, fun p hp => by rw [List.mem_singleton.mp hp]; exact hn, ho, rfl, ⟨(vals', its', n'), rfl, trivial, hps, fun z h1 h2 _ => hz z h1 h2, hp⟩⟩
  unfold TurnEnd InvPostN
  rcases hf with rfl | rfl <;> exact e

theorem bytes_loop {l : Addr} {its₀ : Array Value} {n₀ : Nat} {b : Array UInt8} {tb : Tok} {m₀ : Str → Option Value} (ys : List Str) (vals₀ : List Value) (P : List Int → List Value → Array Value → Prop)
    (hh : A.handled = none) (F : Fr h₀ env.locals s.heap m₀) (N : News h₀ env.locals s.heap [(l, W.listOf its₀ n₀)]) (hk : ∀ p ∈ ys.zip vals₀, m₀ p.1 = some p.2) (hp : P [] vals₀ its₀)
    (turn : ∀ (pre post : List Int) (k : Int) t vals its n h tk own, KBw.bInts b = pre ++ k :: post → pre.length < b.size → 0 ≤ k → k < 256 → OwnOff own [l] → P pre vals its →
      Fr h₀ env.locals h (fun y => if y = x then some (.int k t) else kstB m₀ (ys.zip vals) y) → News h₀ env.locals h ((l, W.listOf its n) :: own) →
      wpAny (model prog w) A (execs body env) (TurnEnd h₀ env.locals l ys x m₀ (P (pre ++ [k])) own { s with heap := h, toks := tk } Q) E { s with heap := h, toks := tk })
    (done : ∀ vals its n (u : Str → Option Value) h tk, P (KBw.bInts b) vals its → Fr h₀ env.locals h (fun y => if y = x then u y else kstB m₀ (ys.zip vals) y) → News h₀ env.locals h [(l, W.listOf its n)] → Q .next { s with heap := h, toks := tk }) :
    wpAny (model prog w) A (pyIter (.bytes b tb)) (fun it s₂ => LoopAtV prog w A h₀ env x body Q E it s₂) E s := by
  refine KStb.kst_bytes (σ := LoopS) (LpLed l) (LpPs ys) (fun _ => True) [] (fun pre c => P pre c.1 c.2.1) (vals₀, its₀, n₀) rfl (KBw.ints_length b) hh F N trivial hk hp ?_ ?_
  · intro c pre post k t u h tk own e1 e2 e3 e4 e5 _ hp' F' N'
    have F2 : Fr h₀ env.locals h (fun y => if y = x then some (.int k t) else kstB m₀ (ys.zip c.1) y) := by simpa using F'
    refine wpAny_mono (turn pre post k t c.1 c.2.1 c.2.2 h tk own e1 e2 e3 e4 e5 hp' F2 N') (fun f s₂ p => ?_) fun _ _ y => y
    have up : InvEndN h₀ env.locals (KstS (LpLed l) (LpPs ys) (fun _ => True) x [] m₀ (fun _ c => P (pre ++ [k]) c.1 c.2.1) []) own [l] { s with heap := h, toks := tk } s₂ →
        InvEndN h₀ env.locals (KstS (LpLed l) (LpPs ys) (fun _ => True) x [] m₀ (fun pre c => P pre c.1 c.2.1) (pre ++ [k])) own [l] { s with heap := h, toks := tk } s₂ := fun q => q
    unfold TurnEnd at p
    cases f with
    | ret v => exact p
    | brk => exact p
    | next => exact up p
    | cont => exact up p
  · intro c u h tk _ _ hp' F' N'
    exact done c.1 c.2.1 c.2.2 u h tk hp' (by simpa using F') N'
end
end
-- part B2
section
open PySem PySem.W PyProof.Rows





noncomputable def b64tab : Array UInt8 := #[65, 66, 67, 68, 69, 70, 71, 72, 73, 74, 75, 76, 77, 78, 79, 80, 81, 82, 83, 84, 85, 86, 87, 88, 89, 90, 97, 98, 99, 100, 101, 102, 103, 104, 105, 106, 107, 108, 109, 110, 111, 112, 113, 114, 115, 116, 117, 118, 119, 120, 121, 122, 48, 49, 50, 51, 52, 53, 54, 55, 56, 57, 43, 47]
theorem tab_all : ∀ i : Fin 64, (KBw.bInts b64tab).getD i.val 0 = let64 i.val := by decide +kernel
theorem tab_item (x : Int) : (KBw.bInts b64tab).getD (Builtin.bitAnd x 63).toNat 0 = let64 (x % 64) := by
  rw [bitAnd_m6]
  have h0 := Int.emod_nonneg x (by decide : (64 : Int) ≠ 0)
  have h1 := Int.emod_lt_of_pos x (by decide : (0 : Int) < 64)
  have := tab_all ⟨(x % 64).toNat, by omega⟩
  dsimp only at this
  rw [this, Int.toNat_of_nonneg h0]
theorem item64 {prog : Program} {w : World} {A : Around} {E : Value → Shared → Prop} {s : Shared} {value slice : Expr} {x : Int} {t u : Tok} {Q : Value → Shared → Prop}
    (h : ∀ t' k, Q (.int (let64 (x % 64)) t') { s with toks := k })
    (hs : subscripted slice false (.bytes b64tab t) (.int (Builtin.bitAnd x 63) u) = operate [.bytes b64tab t, .int (Builtin.bitAnd x 63) u] (getItem (.bytes b64tab t) (.int (Builtin.bitAnd x 63) u)) := by with_unfolding_all rfl)
    (ht : ∀ r, letTemporaryGo value (.bytes b64tab t) r = pure () := by intro _; with_unfolding_all rfl) :
    wpAny (model prog w) A (subscriptTail value slice (.bytes b64tab t) (.int (Builtin.bitAnd x 63) u)) Q E s := by
  have h0 := Int.emod_nonneg x (by decide : (64 : Int) ≠ 0)
  have h1 := Int.emod_lt_of_pos x (by decide : (0 : Int) < 64)
  have hl : (KBw.bInts b64tab).length = 64 := by decide +kernel
  refine KBw.item_K (ks := KBw.bInts b64tab) rfl (by rw [hl]; decide) (by rw [bitAnd_m6]; exact h0) (by rw [hl, bitAnd_m6]; exact h1) (fun t' k _ _ => ?_) hs ht
  rw [tab_item]
  exact h t' k


noncomputable def Mk : Prop := (12345 : Nat) = 12345
noncomputable def Stop (p : Prop) : Prop := p
theorem unstop {p : Prop} (h : Stop p) : p := h
theorem kw9 : True := by
  w_top off
  k_with_none
  (k_with "unf" => (
  (have kwhf : PySem.Challenge.rw_oy0089_01 = PySem.Challenge.rw_oy0089_01 ∧ _root_.Mine.hd.heap_39 = _root_.Mine.hd.heap_39 := by (k_fill; exact ⟨rfl, rfl⟩));
  clear kwhf;
  k_dflt (refine' enter ?kwk1 ?kwk2 ?kwk3 ?kwk5 ?kwkA ?kwkF ?kwkK ?kwk6 ?kwk7 ?kwk8 ?kwk9 ?kwkB ?_ ?kwc2 ?kwc3 ?kwc4 ?kwc5; (case kwkA => exact rfl); (case kwkF => exact rfl); (case kwkK => assumption); (case kwk1 => k_asm); (case kwk2 => k_asm); (case kwk3 => k_asm); (case kwk5 => k_asm); (case kwk6 => k_is); (case kwk7 => k_is); (case kwk8 => ktr_room); (case kwk9 => first | exact BindsTo.of_eq rfl | exact binds_K (by k_in) rfl (by k_is) rfl rfl rfl | fail "enter: no rule for these arguments"); (case kwc5 => decide); (case kwkB => exact locs rfl); (case kwc2 => exact rfl); (case kwc3 => exact rfl); (case kwc4 => exact rfl); k_whole; intro kwL' kwh' kwF' kwN' kwB' kwX' kwT'; (try dsimp only); (try k_fold))))
  (k_with "exec For Name Name cons nil" => (k_here; (rename Fr _ _ _ _ => kwlF'); (with_unfolding_all refine' For_invVF kwlF' ?kwk1 ?kwk2 ?_; (case kwk1 => exact rfl); (case kwk2 => exact rfl); k_whole)))
  (k_with "call ref" => (k_here; k_dflt (first
  | refine' con_val (buffer_bytes _ _ _) ?kwk1 ?kwk2 ?kwk3 ?kwk4 ?kwk5 ?kwkK ?kwkd ?kwku ?kwkp ?_
  | refine' con_val (truth_false _) ?kwk1 ?kwk2 ?kwk3 ?kwk4 ?kwk5 ?kwkK ?kwkd ?kwku ?kwkp ?_); (case kwk1 => k_asm); (case kwk2 => k_asm); (case kwk3 => k_asm); (case kwk4 => k_asm); (case kwk5 => k_asm); (case kwkK => first | exact rfl | assumption); (case kwkd => ktr_room); (case kwku => ktr_units); (case kwkp => trivial); intro kwt9 kwh9 kwtk9 kwF9 kwN9; (try dsimp only); (try k_sweep)))
  (k_with "subscriptTail" => (k_here; (with_reducible show wpAny _ _ (subscriptTail _ _ (Value.bytes _ _) (Value.int (Builtin.bitAnd _ _) _)) _ _ _); (with_unfolding_all refine' item64 ?_ ?kwhs ?kwht; (case kwhs => rfl); (case kwht => (intro _; rfl)); k_whole); intro kwt' kwk'))
  (k_with "exec While Compare cons nil" => (k_here; (rename Mk => kwhmk'); clear kwhmk'; refine unstop ?_))
  trivial
theorem two_ints {a b a' b' : Int} {t1 t2 : Tok} (e1 : a = a') (e2 : b = b') : ∃ t1' t2', [Value.int a t1, Value.int b t2] = [.int a' t1', .int b' t2'] := ⟨t1, t2, by rw [e1, e2]⟩
theorem ints_snoc {vs : List Value} {ns : List Int} {x : Int} {t : Tok} (h : IntsAre vs ns) : IntsAre (vs ++ [.int x t]) (ns ++ [x]) := h.append (.cons x t .nil)
theorem ints_snoc2 {vs : List Value} {ns : List Int} {x y : Int} {t u : Tok} (h : IntsAre vs ns) : IntsAre (vs ++ [.int x t] ++ [.int y u]) (ns ++ [x, y]) := by
  rw [List.append_assoc]; exact h.append (.cons x t (.cons y u .nil))
theorem enc_lc (lc k : Int) (h0 : 0 ≤ lc) (h1 : 0 ≤ k) (h2 : k < 256) : Builtin.bitAnd (Builtin.bitOr (lc * 2 ^ Int.toNat 8) k) 65535 = (lc * 256 + k) % 65536 := by
  have e : (2 : Int) ^ Int.toNat 8 = 256 := by decide
  rw [bitOr_disj lc k (Int.toNat 8) h0 h1 (by rw [e]; exact h2), bitAnd_m16, e]
set_option maxHeartbeats 4000000 in
theorem b2a (w : World) (b : Array UInt8) (t : Tok) (hb : b.size % 3 = 0) (hl : b.size ≤ 100000) : Con w 107 [.bytes b t] [(Str.ofString "newline", .bool false)] 2 (fun _ => True) (fun _ _ v => ∃ t : Tok, v = .bytes (byteArr (encF (KBw.bInts b)).2.2) t) := by
  intro p loose mean mg mb dp un gd cn cs a ccd cl outer A₀ base h₀ L m s Q E hB hF hX hT hK hd hu hp hret
  k_extra "unf"
  k_steps
  rename Fr _ _ _ _ => lF'
  rename News _ _ _ _ => lN'
  refine bytes_loop [Str.ofString "leftchar", Str.ofString "leftbits"] [.int 0 _, .int 0 _] (fun pre vals its => IntsAre its.toList (encF pre).2.2 ∧ ∃ t1 t2, vals = [.int (encF pre).1 t1, .int (encF pre).2.1 t2]) rfl lF' lN' (List.forall_mem_cons.mpr ⟨rfl, List.forall_mem_cons.mpr ⟨rfl, List.forall_mem_nil _⟩⟩) ⟨.nil, _, _, rfl⟩ ?_ ?_
  · rintro pre post k tk0 vals its n h tk own hks hlen hk0 hk1 hoff ⟨hI, t1, t2, rfl⟩ F1 N1
    clear lF' lN'
    have hok := encF_ok pre
    rw [encF_snoc]
    generalize encF pre = st at *
    obtain ⟨lc, lb, out⟩ := st
    obtain ⟨c1, c2, c3, c4, c5⟩ := hok
    dsimp only at c1 c2 c3 c4 c5 hI F1
    dsimp only [kstB, List.zip, List.zipWith] at F1
    have hsz : its.size ≤ 300000 := by have := hI.length; simp only [Array.length_toList] at this; omega
    have hz0 : ∀ (z : Str) (v1 v2 : Value), (∀ p ∈ [Str.ofString "leftchar", Str.ofString "leftbits"].zip [v1, v2], z ≠ p.1) → z ≠ Str.ofString "leftchar" ∧ z ≠ Str.ofString "leftbits" := fun z v1 v2 h => ⟨h _ (.head _), h _ (.tail _ (.head _))⟩
    have hlc := enc_lc lc k c1 hk0 hk1
    have q1 : ∀ x : Int, x.fdiv (2 ^ (0 + 8 - 6 : Int).toNat) = x / 4 := fun x => Int.fdiv_eq_ediv_of_nonneg x (by decide)
    have q2 : ∀ x : Int, x.fdiv (2 ^ (2 + 8 - 6 : Int).toNat) = x / 16 := fun x => Int.fdiv_eq_ediv_of_nonneg x (by decide)
    have q3 : ∀ x : Int, x.fdiv (2 ^ (4 + 8 - 6 : Int).toNat) = x / 64 := fun x => Int.fdiv_eq_ediv_of_nonneg x (by decide)
    have q4 : ∀ x : Int, x.fdiv (2 ^ (4 + 8 - 6 - 6 : Int).toNat) = x := fun x => by
      show x.fdiv 1 = x
      rw [Int.fdiv_eq_ediv_of_nonneg x (by decide), Int.ediv_one]
    have lb0 : 0 ≤ lb := by rcases c3 with h | h | h <;> rw [h] <;> decide
    have lb1 : lb ≤ 4 := by rcases c3 with h | h | h <;> rw [h] <;> decide
    have hmk : Mk := rfl
    k_steps
    clear lb0 lb1
    rcases c3 with rfl | rfl | rfl
    all_goals unfold Stop
    all_goals k_steps
    all_goals (
      refine turn_next (vals' := [.int _ _, .int _ _]) (.inl rfl) (by k_asm) (by k_asm) (List.Mem.head _) (fun p hp => List.Mem.tail _ hp) (List.forall_mem_cons.mpr ⟨rfl, List.forall_mem_cons.mpr ⟨rfl, List.forall_mem_nil _⟩⟩) ?_ ⟨?_, two_ints ?_ ?_⟩
      · intro z z1 z2
        obtain ⟨z3, z4⟩ := hz0 z _ _ z2
        repeat (first | rfl | refine (if_neg (by assumption)).trans ?_))
    all_goals (try simp only [Array.toList_push, hlc, q1, q2, q3, q4])
    · exact ints_snoc hI
    · rfl
    · rfl
    · exact ints_snoc hI
    · rfl
    · rfl
    · exact ints_snoc2 hI
    · rfl
    · rfl
  · rintro vals its n u h tk ⟨hI, t1, t2, rfl⟩ F1 N1
    clear lF' lN'
    have hok := encF_ok (KBw.bInts b)
    have hbits := encF_bits (KBw.bInts b)
    rw [KBw.ints_length] at hok hbits
    rw [hb] at hbits
    generalize encF (KBw.bInts b) = st at *
    obtain ⟨lc, lb, out⟩ := st
    obtain ⟨c1, c2, c3, c4, c5⟩ := hok
    dsimp only at c1 c2 c3 c4 c5 hI F1 hbits hret
    dsimp only [kstB, List.zip, List.zipWith] at F1
    obtain rfl : lb = 0 := by omega
    clear c3 hbits
    have hl2 : out.length ≤ 16777216 := by omega
    have hin : KBa.In out := c5
    obtain ⟨its⟩ := its
    dsimp only at hI
    k_steps
    exact hret _ _ _ (Fr.keep (by k_asm)) ⟨_, rfl⟩
end
-- part P1
section
open PySem PySem.W PyProof.Rows
noncomputable def decStep (st : Int × Int × List Int) (c : Int) : Int × Int × List Int :=
  let v := val64 c
  if 64 ≤ v then st
  else if st.1 = 0 then (1, v, st.2.2)
  else if st.1 = 1 then (2, v % 16, st.2.2 ++ [st.2.1 * 4 + v / 16])
  else if st.1 = 2 then (3, v % 4, st.2.2 ++ [st.2.1 * 16 + v / 4])
  else (0, 0, st.2.2 ++ [st.2.1 * 64 + v])
noncomputable def decF (l : List Int) : Int × Int × List Int := l.foldl decStep (0, 0, [])
theorem decF_snoc (l : List Int) (b : Int) : decF (l ++ [b]) = decStep (decF l) b := by simp [decF, List.foldl_append]
theorem val64_lo (c : Int) : 0 ≤ val64 c := by unfold val64; split <;> (try split) <;> (try split) <;> (try split) <;> (try split) <;> omega
theorem val64_hi (c : Int) : val64 c ≤ 64 := by unfold val64; split <;> (try split) <;> (try split) <;> (try split) <;> (try split) <;> omega
structure DecOk (k : Nat) (st : Int × Int × List Int) : Prop where
  quad : (st.1 = 0 ∧ 0 ≤ st.2.1 ∧ st.2.1 < 64) ∨ (st.1 = 1 ∧ 0 ≤ st.2.1 ∧ st.2.1 < 64) ∨ (st.1 = 2 ∧ 0 ≤ st.2.1 ∧ st.2.1 < 16) ∨ (st.1 = 3 ∧ 0 ≤ st.2.1 ∧ st.2.1 < 4)
  len : st.2.2.length ≤ k
  inn : ∀ x ∈ st.2.2, 0 ≤ x ∧ x < 256
theorem decStep_ok {k : Nat} {st : Int × Int × List Int} (h : DecOk k st) (b : Int) : DecOk (k + 1) (decStep st b) := by
  obtain ⟨h1, h4, h5⟩ := h
  have v0 := val64_lo b
  have v1 := val64_hi b
  have snoc : ∀ y : Int, 0 ≤ y → y < 256 → ∀ x ∈ st.2.2 ++ [y], 0 ≤ x ∧ x < 256 := by
    intro y y0 y1 x hx
    simp only [List.mem_append, List.mem_cons, List.not_mem_nil, or_false] at hx
    rcases hx with hx | rfl
    · exact h5 x hx
    · exact ⟨y0, y1⟩
  unfold decStep
  dsimp only
  split
  · exact ⟨h1, by omega, h5⟩
  · split
    · exact ⟨.inr (.inl ⟨rfl, v0, by dsimp only; omega⟩), by dsimp only; omega, h5⟩
    · split
      · refine ⟨.inr (.inr (.inl ⟨rfl, by dsimp only; omega, by dsimp only; omega⟩)), ?_, snoc _ (by omega) (by omega)⟩
        simp only [List.length_append, List.length_cons, List.length_nil]; omega
      · split
        · refine ⟨.inr (.inr (.inr ⟨rfl, by dsimp only; omega, by dsimp only; omega⟩)), ?_, snoc _ (by omega) (by omega)⟩
          simp only [List.length_append, List.length_cons, List.length_nil]; omega
        · refine ⟨.inl ⟨rfl, by dsimp only; omega, by dsimp only; omega⟩, ?_, snoc _ (by omega) (by omega)⟩
          simp only [List.length_append, List.length_cons, List.length_nil]; omega
theorem dec_skip {st : Int × Int × List Int} {c : Int} (h : 64 ≤ val64 c) : decStep st c = st := by simp [decStep, h]
theorem dec_q0 {lc : Int} {out : List Int} {c : Int} (h : ¬ 64 ≤ val64 c) : decStep (0, lc, out) c = (1, val64 c, out) := by simp [decStep, h]
theorem dec_q1 {lc : Int} {out : List Int} {c : Int} (h : ¬ 64 ≤ val64 c) : decStep (1, lc, out) c = (2, val64 c % 16, out ++ [lc * 4 + val64 c / 16]) := by simp [decStep, h]
theorem dec_q2 {lc : Int} {out : List Int} {c : Int} (h : ¬ 64 ≤ val64 c) : decStep (2, lc, out) c = (3, val64 c % 4, out ++ [lc * 16 + val64 c / 4]) := by simp [decStep, h]
theorem or_q1 {lc v : Int} (h0 : 0 ≤ lc) (h1 : 0 ≤ v) (h2 : v < 64) : Builtin.bitOr (lc * 2 ^ Int.toNat 2) (v.fdiv (2 ^ Int.toNat 4)) = lc * 4 + v / 16 := by
  have e : v.fdiv (2 ^ Int.toNat 4) = v / 16 := Int.fdiv_eq_ediv_of_nonneg v (by decide)
  have e2 : (2 : Int) ^ Int.toNat 2 = 4 := by decide
  rw [e, bitOr_disj lc _ (Int.toNat 2) h0 (by omega) (by rw [e2]; omega), e2]
theorem or_q2 {lc v : Int} (h0 : 0 ≤ lc) (h1 : 0 ≤ v) (h2 : v < 64) : Builtin.bitOr (lc * 2 ^ Int.toNat 4) (v.fdiv (2 ^ Int.toNat 2)) = lc * 16 + v / 4 := by
  have e : v.fdiv (2 ^ Int.toNat 2) = v / 4 := Int.fdiv_eq_ediv_of_nonneg v (by decide)
  have e2 : (2 : Int) ^ Int.toNat 4 = 16 := by decide
  rw [e, bitOr_disj lc _ (Int.toNat 4) h0 (by omega) (by rw [e2]; omega), e2]
theorem or_q3 {lc v : Int} (h0 : 0 ≤ lc) (h1 : 0 ≤ v) (h2 : v < 64) : Builtin.bitOr (lc * 2 ^ Int.toNat 6) v = lc * 64 + v := by
  have e2 : (2 : Int) ^ Int.toNat 6 = 64 := by decide
  rw [bitOr_disj lc _ (Int.toNat 6) h0 (by omega) (by rw [e2]; omega), e2]
theorem decF_ok (l : List Int) : DecOk l.length (decF l) := by
  have go : ∀ (l : List Int) (k : Nat) (st : Int × Int × List Int), DecOk k st → DecOk (k + l.length) (l.foldl decStep st) := by
    intro l
    induction l with
    | nil => intro k st h; exact h
    | cons b r ih =>
      intro k st h
      have := ih (k + 1) _ (decStep_ok h b)
      simp only [List.foldl_cons, List.length_cons]
      rw [show k + (r.length + 1) = k + 1 + r.length by omega]
      exact this
  have := go l 0 (0, 0, []) ⟨.inl ⟨rfl, by decide, by decide⟩, by simp, by simp⟩
  simpa [decF] using this
end
-- part B3
section
open PySem PySem.W PyProof.Rows



theorem kw13 : True := by
  w_top off
  k_with_none
  (k_with "unf" => (
  (have kwhf : PySem.Challenge.rw_oy0089_01 = PySem.Challenge.rw_oy0089_01 ∧ _root_.Mine.hd.heap_39 = _root_.Mine.hd.heap_39 := by (k_fill; exact ⟨rfl, rfl⟩));
  clear kwhf;
  k_dflt (refine' enter ?kwk1 ?kwk2 ?kwk3 ?kwk5 ?kwkA ?kwkF ?kwkK ?kwk6 ?kwk7 ?kwk8 ?kwk9 ?kwkB ?_ ?kwc2 ?kwc3 ?kwc4 ?kwc5; (case kwkA => exact rfl); (case kwkF => exact rfl); (case kwkK => assumption); (case kwk1 => k_asm); (case kwk2 => k_asm); (case kwk3 => k_asm); (case kwk5 => k_asm); (case kwk6 => k_is); (case kwk7 => k_is); (case kwk8 => ktr_room); (case kwk9 => first | exact BindsTo.of_eq rfl | exact binds_K (by k_in) rfl (by k_is) rfl rfl rfl | fail "enter: no rule for these arguments"); (case kwc5 => decide); (case kwkB => exact locs rfl); (case kwc2 => exact rfl); (case kwc3 => exact rfl); (case kwc4 => exact rfl); k_whole; intro kwL' kwh' kwF' kwN' kwB' kwX' kwT'; (try dsimp only); (try k_fold))))
  (k_with "exec For Name Name cons nil" => (k_here; (rename Fr _ _ _ _ => kwlF'); (with_unfolding_all refine' For_invVF kwlF' ?kwk1 ?kwk2 ?_; (case kwk1 => exact rfl); (case kwk2 => exact rfl); k_whole)))
  (k_with "call ref" => (k_here; k_dflt (first
  | refine' con_val (ascii_buffer_bytes _ _ _) ?kwk1 ?kwk2 ?kwk3 ?kwk4 ?kwk5 ?kwkK ?kwkd ?kwku ?kwkp ?_
  | refine' con_val (truth_false _) ?kwk1 ?kwk2 ?kwk3 ?kwk4 ?kwk5 ?kwkK ?kwkd ?kwku ?kwkp ?_
  | refine' con_val (b64_value _ _ _) ?kwk1 ?kwk2 ?kwk3 ?kwk4 ?kwk5 ?kwkK ?kwkd ?kwku ?kwkp ?_); (case kwk1 => k_asm); (case kwk2 => k_asm); (case kwk3 => k_asm); (case kwk4 => k_asm); (case kwk5 => k_asm); (case kwkK => first | exact rfl | assumption); (case kwkd => ktr_room); (case kwku => ktr_units); (case kwkp => trivial); intro kwt9 kwh9 kwtk9 kwF9 kwN9; (try dsimp only); (try k_sweep)))
  trivial

theorem dec_s0 {qp lc : Int} {out : List Int} {c : Int} (h : ¬ 64 ≤ val64 c) (e : qp = 0) : decStep (qp, lc, out) c = (1, val64 c, out) := by rw [e, dec_q0 h]
theorem dec_s1 {qp lc : Int} {out : List Int} {c : Int} (h : ¬ 64 ≤ val64 c) (e : qp = 1) : decStep (qp, lc, out) c = (2, val64 c % 16, out ++ [lc * 4 + val64 c / 16]) := by rw [e, dec_q1 h]
theorem dec_s2 {qp lc : Int} {out : List Int} {c : Int} (h : ¬ 64 ≤ val64 c) (e : qp = 2) : decStep (qp, lc, out) c = (3, val64 c % 4, out ++ [lc * 16 + val64 c / 4]) := by rw [e, dec_q2 h]
theorem dec_s3 {qp lc : Int} {out : List Int} {c : Int} (h : ¬ 64 ≤ val64 c) (e0 : qp ≠ 0) (e1 : qp ≠ 1) (e2 : qp ≠ 2) : decStep (qp, lc, out) c = (0, 0, out ++ [lc * 64 + val64 c]) := by simp [decStep, h, e0, e1, e2]
theorem four_ints {a b c d a' b' c' d' : Int} {t1 t2 t3 t4 : Tok} (e1 : a = a') (e2 : b = b') (e3 : c = c') (e4 : d = d') : ∃ t1' t2' t3' t4', [Value.int a t1, Value.int b t2, Value.int c t3, Value.int d t4] = [.int a' t1', .int b' t2', .int c' t3', .int d' t4'] := ⟨t1, t2, t3, t4, by rw [e1, e2, e3, e4]⟩
set_option maxHeartbeats 4000000 in
theorem a2b (w : World) (b : Array UInt8) (t : Tok) (hl : b.size ≤ 100000) (hno : ∀ k ∈ KBw.bInts b, k ≠ 61) (hq : (decF (KBw.bInts b)).1 = 0) : Con w 99 [.bytes b t] [(Str.ofString "strict_mode", .bool false)] 2 (fun _ => True) (fun _ _ v => ∃ t : Tok, v = .bytes (byteArr (decF (KBw.bInts b)).2.2) t) := by
  intro p loose mean mg mb dp un gd cn cs a ccd cl outer A₀ base h₀ L m s Q E hB hF hX hT hK hd hu hp hret
  k_extra "unf"
  k_steps
  rename Fr _ _ _ _ => lF'
  rename News _ _ _ _ => lN'
  refine bytes_loop [Str.ofString "quad_pos", Str.ofString "leftchar", Str.ofString "pads", Str.ofString "i"] [.int 0 _, .int 0 _, .int 0 _, .int 0 _] (fun pre vals its => IntsAre its.toList (decF pre).2.2 ∧ ∃ t1 t2 t3 t4, vals = [.int (decF pre).1 t1, .int (decF pre).2.1 t2, .int 0 t3, .int (pre.length : Int) t4]) rfl lF' lN' (List.forall_mem_cons.mpr ⟨rfl, List.forall_mem_cons.mpr ⟨rfl, List.forall_mem_cons.mpr ⟨rfl, List.forall_mem_cons.mpr ⟨rfl, List.forall_mem_nil _⟩⟩⟩⟩) ⟨.nil, _, _, _, _, rfl⟩ ?_ ?_
  · rintro pre post k tk0 vals its n h tk own hks hlen hk0 hk1 hoff ⟨hI, t1, t2, t3, t4, rfl⟩ F1 N1
    clear lF' lN'
    have hk61 : k ≠ 61 := hno k (by rw [hks]; simp)
    have hok := decF_ok pre
    rw [decF_snoc]
    clear hq hret
    generalize hkl : (pre ++ [k]).length = kl
    have hkl' : (kl : Int) = (pre.length : Int) + 1 := by rw [← hkl]; simp
    clear hkl
    generalize (pre.length : Int) = ii at *
    generalize decF pre = st at *
    obtain ⟨qp, lc, out⟩ := st
    obtain ⟨c3, c4, c5⟩ := hok
    dsimp only at c3 c4 c5 hI F1
    dsimp only [kstB, List.zip, List.zipWith] at F1
    have v0 := val64_lo k
    have v1 := val64_hi k
    have hsz : its.size ≤ 300000 := by have := hI.length; simp only [Array.length_toList] at this; omega
    have hz0 : ∀ (z : Str) (w1 w2 w3 w4 : Value), (∀ p ∈ [Str.ofString "quad_pos", Str.ofString "leftchar", Str.ofString "pads", Str.ofString "i"].zip [w1, w2, w3, w4], z ≠ p.1) → z ≠ Str.ofString "quad_pos" ∧ z ≠ Str.ofString "leftchar" ∧ z ≠ Str.ofString "pads" ∧ z ≠ Str.ofString "i" := fun z w1 w2 w3 w4 h => ⟨h _ (.head _), h _ (.tail _ (.head _)), h _ (.tail _ (.tail _ (.head _))), h _ (.tail _ (.tail _ (.tail _ (.head _))))⟩
    have c1 : 0 ≤ lc := by rcases c3 with ⟨_, h, _⟩ | ⟨_, h, _⟩ | ⟨_, h, _⟩ | ⟨_, h, _⟩ <;> exact h
    have c2 : lc < 64 := by rcases c3 with ⟨_, _, h⟩ | ⟨_, _, h⟩ | ⟨_, _, h⟩ | ⟨_, _, h⟩ <;> first | exact h | exact Int.lt_trans h (by decide)
    clear c3
    k_steps
    all_goals (try dsimp only)
    all_goals (first
      | exact absurd (by assumption) hk61
      | rw [dec_skip (by assumption)]
      | rw [dec_s0 (by assumption) (by assumption)]
      | rw [dec_s1 (by assumption) (by assumption)]
      | rw [dec_s2 (by assumption) (by assumption)]
      | rw [dec_s3 (by assumption) (by assumption) (by assumption) (by assumption)])
    all_goals (first
      | (refine turn_next (vals' := [.int _ _, .int _ _, .int _ _, .int _ _]) (by first | exact .inl rfl | exact .inr rfl) (by k_asm) (by k_asm) (List.Mem.head _) (fun p hp => List.Mem.tail _ hp) (List.forall_mem_cons.mpr ⟨rfl, List.forall_mem_cons.mpr ⟨rfl, List.forall_mem_cons.mpr ⟨rfl, List.forall_mem_cons.mpr ⟨rfl, List.forall_mem_nil _⟩⟩⟩⟩) ?_ ⟨?_, four_ints ?_ ?_ ?_ ?_⟩
         · intro z z1 z2
           obtain ⟨z3, z4, z5, z6⟩ := hz0 z _ _ _ _ z2
           repeat (first | rfl | refine (if_neg (by assumption)).trans ?_)))
    all_goals (try simp only [Array.toList_push, bitAnd_m4, bitAnd_m2])
    all_goals (try have v2 : val64 k < 64 := Int.not_le.mp (by assumption))
    all_goals (first
      | exact hI
      | rfl
      | exact hkl'.symm
      | (rw [or_q1 c1 v0 v2]; exact ints_snoc hI)
      | (rw [or_q2 c1 v0 v2]; exact ints_snoc hI)
      | (rw [or_q3 c1 v0 v2]; exact ints_snoc hI))
  · rintro vals its n u h tk ⟨hI, t1, t2, t3, t4, rfl⟩ F1 N1
    clear lF' lN'
    have hok := decF_ok (KBw.bInts b)
    rw [KBw.ints_length] at hok
    generalize decF (KBw.bInts b) = st at *
    obtain ⟨qp, lc, out⟩ := st
    obtain ⟨c3, c4, c5⟩ := hok
    dsimp only at c3 c4 c5 hI F1 hq hret
    subst hq
    dsimp only [kstB, List.zip, List.zipWith] at F1
    clear c3
    have hl2 : out.length ≤ 16777216 := by omega
    have hin : KBa.In out := c5
    obtain ⟨its⟩ := its
    dsimp only at hI
    k_steps
    all_goals exact hret _ _ _ (Fr.keep (by k_asm)) ⟨_, rfl⟩
end
-- part R0
section
open PySem PySem.W PyProof.Rows PySem.Calls
namespace R
open PySem.Builtin
theorem slot_translate : Slot "bytes" "translate" "bytes.translate" :=
  .of (owner := "bytes") (n := "translate") (by rw [typeLookup_type, builtinLookup_eq_fast]; kernel_rfl) (by decide +kernel) (by decide +kernel) (by decide +kernel)
    (by first | exact .inl (by decide +kernel) | exact .inr (by decide +kernel)) (by rw [isSubtype_type]; kernel_rfl)
theorem type_translate : typeOf (.builtin "bytes.translate") = pure (.type "method_descriptor") := by show builtinType _ = _; rw [builtinType_eq_fast]; kernel_rfl
theorem entry_translate : entryFor table "bytes.translate" = some Builtin.«bytes.translate» := entryFor_of_tree (by kernel_rfl)
theorem args_translate (a b : Value) : argsOk "bytes.translate" ⟨[a, b], []⟩ := by unfold argsOk; kernel_rfl
theorem plain_maketrans : plainId "bytes.maketrans" = true := by decide +kernel
theorem entry_maketrans : entryFor table "bytes.maketrans" = some Builtin.«bytes.maketrans» := entryFor_of_tree (by kernel_rfl)
noncomputable def tabOf (frm to : Array UInt8) : Array UInt8 := (frm.toList.zip to.toList).foldl (fun t (f, x) => t.setIfInBounds f.toNat x) ((Array.range 256).map (·.toUInt8))
theorem tabOf_size (frm to : Array UInt8) : (tabOf frm to).size = 256 := by
  have go : ∀ (l : List (UInt8 × UInt8)) (t : Array UInt8), (l.foldl (fun t (x : UInt8 × UInt8) => t.setIfInBounds x.1.toNat x.2) t).size = t.size := by
    intro l
    induction l with
    | nil => intro t; rfl
    | cons p r ih => intro t; simp only [List.foldl_cons]; rw [ih]; simp
  unfold tabOf
  refine (go _ _).trans ?_
  simp

theorem meets_maketrans (frm to : Array UInt8) (t u : Tok) (h : frm.size = to.size) :
    Meets («bytes.maketrans» ⟨[.bytes frm t, .bytes to u], []⟩) (fun _ R s => ∀ t' k, R (.ok (.ret (.bytes (tabOf frm to) t'))) { s with toks := k }) := by
  refine .of_wp fun prog w A R s hS => ?_
  show wpAny _ _ (Bytes.bytesLike _ (.bytes frm t) >>= fun r => _) _ _ s
  refine wpAny_bind (wpAny_of_eq KBd.like_eq ?_)
  show wpAny _ _ (Bytes.bytesLike _ (.bytes to u) >>= fun r => _) _ _ s
  refine wpAny_bind (wpAny_of_eq KBd.like_eq ?_)
  rw [if_neg (show ¬ ((frm.size != to.size) = true) by simp [h])]
  exact wpAny_bind (wpAny_mkBytes (wpAny_pure ⟨_, rfl, hS _ _⟩) (by have := tabOf_size frm to; show (tabOf frm to).size ≤ sizeLine; rw [this]; decide))
theorem check_maketrans (a b : Value) : checkBuiltinCall "bytes.maketrans" ⟨[a, b], []⟩ = pure () := by kernel_rfl
theorem call_maketrans {prog : Program} {w : World} {A : Around} {E : Value → Shared → Prop} {s : Shared} {Q : Value → Shared → Prop} (frm to : Array UInt8) (t u : Tok) (h : frm.size = to.size) (hq : ∀ t' k, Q (.bytes (tabOf frm to) t') { s with toks := k }) :
    wpAny (model prog w) A (call (.builtin "bytes.maketrans") [.bytes frm t, .bytes to u]) Q E s := by
  refine wpAny_call (codeAny_call_builtin plain_maketrans entry_maketrans ?_)
  have hfin := meets_maketrans frm to t u h prog w A (wants Q E) s hq
  rw [check_maketrans]
  exact wpAny_pure hfin
theorem meets_translate (b tab : Array UInt8) (t u : Tok) (h : tab.size = 256) (hb : b.size ≤ sizeLine) :
    Meets («bytes.translate» ⟨[.bytes b t, .bytes tab u], []⟩) (fun _ R s => ∀ t' k, R (.ok (.ret (.bytes (b.map fun c => tab.getD c.toNat c) t'))) { s with toks := k }) := by
  refine .of_wp fun prog w A R s hS => ?_
  show wpAny _ _ (Bytes.bytesLike _ (.bytes tab u) >>= fun r => _) _ _ s
  refine wpAny_bind (wpAny_of_eq KBd.like_eq ?_)
  dsimp only
  rw [if_neg (show ¬ ((tab.size != 256) = true) by simp [h])]
  refine wpAny_bind (wpAny_pure ?_)
  refine wpAny_bind (wpAny_pure ?_)
  refine wpAny_bind (wpAny_of_eq (a := b) rfl ?_)
  have e : (Array.filter (fun x => !(#[] : Array UInt8).contains x) b) = b := by simp
  simp only [e]
  by_cases hc : ((b.map fun c => tab.getD c.toNat c) == b) = true
  · rw [if_pos hc]
    have hc' : (b.map fun c => tab.getD c.toNat c) = b := by simpa using hc
    refine wpAny_bind (wpAny_rule ?_)
    refine wpAny_bind (wpAny_of_eq (a := .bytes b t) rfl ?_)
    refine wpAny_pure ⟨_, rfl, ?_⟩
    rw [hc'] at hS
    exact hS t s.toks
  · rw [if_neg hc]
    refine wpAny_bind ?_
    exact wpAny_mkBytes (wpAny_pure ⟨_, rfl, hS _ _⟩) (by simpa using hb)
theorem call_translate {prog : Program} {w : World} {A : Around} {E : Value → Shared → Prop} {s : Shared} {Q : Value → Shared → Prop} (b tab : Array UInt8) (t u : Tok) (h : tab.size = 256) (hb : b.size ≤ sizeLine) (hq : ∀ t' k, Q (.bytes (b.map fun c => tab.getD c.toNat c) t') { s with toks := k }) :
    wpAny (model prog w) A (call (.builtin "bytes.translate") [.bytes b t, .bytes tab u]) Q E s :=
  call_meets slot_translate (typeIs_bytes _ _ _) entry_translate (args_translate _ _) (meets_translate b tab t u h hb) hq
theorem method_translate {M : Model} {A : Around} {E : Value → Shared → Prop} {s : Shared} {b : Array UInt8} {t : Tok} {pl : Sem Bool} {Q : Value × List Value → Shared → Prop} (h : Q (.builtin "bytes.translate", [.bytes b t]) s) : wpAny M A (getMethod (.bytes b t) (Str.ofString "translate") pl) Q E s := by
  with_reducible exact KBd.method_of (.bytes b t) (typeIs_bytes _ _ _) slot_translate type_translate KBd.noRef h
end R
end
-- part R1
section
open PySem PySem.W PyProof.Rows PySem.Calls
namespace R
open PySem.Builtin
theorem forRange {M : Model} {A : Around} {E : Value → Shared → Prop} {s : Shared} {β : Type} {n : Nat} {f : Nat → β → Sem (ForInStep β)} (I : Nat → β → Prop) {Q : β → Shared → Prop}
    (hstep : ∀ i c, i < n → I i c → wpAny M A (f i c) (fun r s' => s' = s ∧ (match r with | .done c' => I n c' | .yield c' => I (i + 1) c')) E s)
    (hend : ∀ c, I n c → Q c s) {c : β} (h : I 0 c) : wpAny M A (forIn [0:n] c f) Q E s := by
  rw [Std.Legacy.Range.forIn_eq_forIn_range']
  have hsz : ([0:n] : Std.Legacy.Range).size = n := by simp [Std.Legacy.Range.size]
  show wpAny M A (forIn (List.range' 0 ([0:n] : Std.Legacy.Range).size 1) c f) Q E s
  rw [hsz]
  refine wpAny_forIn_list f (fun l c s' => s' = s ∧ ∃ i, i ≤ n ∧ l = List.range' i (n - i) 1 ∧ I i c) Q ?_ ?_ _ c ⟨rfl, 0, by omega, by congr 1, h⟩
  · rintro x rest c s' ⟨rfl, i, hib, hl, hI⟩
    have hlt : i < n := by
      rcases Nat.lt_or_ge i n with h' | h'
      · exact h'
      · rw [show n - i = 0 by omega] at hl; simp at hl
    obtain ⟨k, hk⟩ : ∃ k, n - i = k + 1 := ⟨n - i - 1, by omega⟩
    rw [hk, List.range'_succ] at hl
    obtain ⟨rfl, rfl⟩ := List.cons.inj hl
    refine wpAny_mono (hstep x c hlt hI) (fun r s'' h' => ?_) fun _ _ y => y
    obtain ⟨rfl, h'⟩ := h'
    cases r with
    | done c' => exact hend _ h'
    | yield c' => exact ⟨rfl, x + 1, by omega, by congr 1; omega, h'⟩
  · rintro c s' ⟨rfl, i, hib, hl, hI⟩
    have : i = n := by
      rcases Nat.lt_or_ge i n with h' | h'
      · obtain ⟨k, hk⟩ : ∃ k, n - i = k + 1 := ⟨n - i - 1, by omega⟩
        rw [hk, List.range'_succ] at hl; simp at hl
      · omega
    subst this; exact hend _ hI

theorem run_ascii {M : Model} {A : Around} {E : Value → Shared → Prop} {s : Shared} {id : String} {b : Array UInt8} (hb : ∀ c ∈ b, c.toNat < 128) (hs : b.size ≤ sizeLine) {Q : Array Nat × Nat → Shared → Prop}
    (h : Q (b.map (·.toNat), b.size) s) : wpAny M A (_codecs.runDecoder id _codecs.asciiDecoder none true b 0 []) Q E s := by
  unfold _codecs.runDecoder
  dsimp only
  refine wpAny_bind (forRange (fun i st => st.1 = i ∧ st.2.1 = ((b.toList.take i).map (·.toNat)).toArray) ?_ ?_ ⟨rfl, by simp⟩)
  · rintro i ⟨p, out, st⟩ hi ⟨h1, h2⟩
    dsimp only at h1 h2 ⊢
    subst h1
    subst h2
    have hsz : (((b.toList.take p).map (·.toNat)).toArray).size ≤ sizeLine := by simp; omega
    rw [if_neg (Nat.not_lt.mpr hsz), if_neg (by omega : ¬ p ≥ b.size)]
    have hm : b[p] ∈ b := Array.getElem_mem hi
    have hc := hb _ hm
    have hf : _codecs.asciiDecoder.find true b p = .text [b[p].toNat] (p + 1) := by
      show (if (b.getD p 0).toNat < 128 then _codecs.Found.char (b.getD p 0).toNat (p + 1) else _) = _
      have : b.getD p 0 = b[p] := by simp [hi]
      rw [this, if_pos hc]; rfl
    rw [hf]
    refine wpAny_pure ⟨rfl, rfl, ?_⟩
    have hp : b.toList[p]? = some b[p] := by simp [hi]
    dsimp only
    rw [List.take_add_one, hp]
    simp
  · rintro ⟨p, out, st⟩ ⟨h1, h2⟩
    dsimp only at h1 h2 ⊢
    subst h1
    subst h2
    refine wpAny_pure ?_
    have : ((b.toList.take b.size).map (·.toNat)).toArray = b.map (·.toNat) := by
      apply Array.ext'
      rw [List.take_of_length_le (by simp)]
      simp
    rw [this]
    exact h
theorem road_ascii {id : String} {b : Array UInt8} : _codecs.decodeRoad id b (PySem.Str.ofString "ascii") none [] = (_codecs.runDecoder id _codecs.asciiDecoder none true b 0 [] >>= fun r => mkStr ⟨r.1⟩) := by kernel_rfl
theorem meets_text {b : Array UInt8} {t t1 t2 : Tok} {d : PySem.Str} (hb : ∀ c ∈ b, c.toNat < 128) (hs : b.size ≤ sizeLine) :
    Meets («_codecs.decode.text» ⟨[.bytes b t, .str (PySem.Str.ofString "ascii") t1, .none, .str d t2], []⟩) (fun _ R s => R (.ok (.ret (.str ⟨b.map (·.toNat)⟩ s.toks))) { s with toks := s.toks + 1 }) := by
  refine .of_wp fun prog w A R s hS => ?_
  show wpAny _ _ (Bytes.bytesLike _ (.bytes b t) >>= fun r => _) _ _ s
  refine wpAny_bind (wpAny_of_eq KBd.like_eq ?_)
  refine wpAny_bind (wpAny_of_eq KBd.held_eq ?_)
  show wpAny _ _ (_codecs.decodeRoad _ b (PySem.Str.ofString "ascii") none [] >>= fun v => _) _ _ s
  rw [road_ascii]
  refine wpAny_bind (wpAny_bind (run_ascii hb hs ?_))
  exact wpAny_mkStr (wpAny_pure ⟨_, rfl, hS⟩) (by show (b.map (·.toNat)).size ≤ sizeLine; simpa using hs)
theorem entry_decode_ascii {c : UInt8} {cs : List UInt8} {t u : Tok} : «bytes.decode» ⟨[.bytes (c :: cs).toArray t, .str (PySem.Str.ofString "ascii") u], []⟩ = (mkStr (PySem.Str.ofString "utf-8") >>= fun _ => mkStr (PySem.Str.ofString "ascii") >>= fun e => mkStr (PySem.Str.ofString "bytes.decode") >>= fun d =>
    call (.builtin "_codecs.decode.text") [.bytes (c :: cs).toArray t, e, .none, d] >>= fun v => ret v) := by kernel_rfl
theorem args_decode_2 (a b : Value) : argsOk "bytes.decode" ⟨[a, b], []⟩ := by unfold argsOk; kernel_rfl
theorem call_decode {prog : Program} {w : World} {A : Around} {E : Value → Shared → Prop} {s : Shared} {Q : Value → Shared → Prop} {b : Array UInt8} {t u : Tok} (h0 : 0 < b.size) (hb : ∀ c ∈ b, c.toNat < 128) (hs : b.size ≤ sizeLine)
    (h : ∀ t' k, Q (.str ⟨b.map (·.toNat)⟩ t') { s with toks := k }) : wpAny (model prog w) A (call (.builtin "bytes.decode") [.bytes b t, .str (PySem.Str.ofString "ascii") u]) Q E s := by
  have hm : Meets («bytes.decode» ⟨[.bytes b t, .str (PySem.Str.ofString "ascii") u], []⟩) (fun _ R s => ∀ t' k, R (.ok (.ret (.str ⟨b.map (·.toNat)⟩ t'))) { s with toks := k }) := by
    refine .of_wp fun prog w A R s hS => ?_
    obtain ⟨l⟩ := b
    cases l with
    | nil => exact absurd h0 (by simp)
    | cons c cs =>
      rw [entry_decode_ascii]
      refine wpAny_bind (wpAny_mkStr ?_ (by decide))
      refine wpAny_bind (wpAny_mkStr ?_ (by decide))
      refine wpAny_bind (wpAny_mkStr ?_ (by decide))
      exact wpAny_bind (call_function_meets KBd.kind_text KBd.plain_text KBd.entry_text (KBd.args_text _ _ _ _) (meets_text hb hs) (wpAny_pure ⟨_, rfl, hS _ _⟩))
  exact call_meets FB.slot_bytes_decode (typeIs_bytes _ _ _) FB.entry_bytes_decode (args_decode_2 _ _) hm h
theorem forOnce {M : Model} {A : Around} {E : Value → Shared → Prop} {s : Shared} {β : Type} {n : Nat} {f : Nat → β → Sem (ForInStep β)} {Q : β → Shared → Prop} {c c' : β} (h0 : 0 < n → f 0 c = pure (.yield c')) (h1 : ∀ i, f i c' = pure (.done c')) (hz : n = 0 → Q c s) (hq : Q c' s) : wpAny M A (forIn [0:n] c f) Q E s :=
  forRange (fun i d => (i = 0 ∧ d = c) ∨ (1 ≤ i ∧ d = c')) (fun i d hi hI => by
    rcases hI with ⟨rfl, rfl⟩ | ⟨_, rfl⟩
    · rw [h0 hi]; exact wpAny_pure ⟨rfl, .inr ⟨Nat.le_refl 1, rfl⟩⟩
    · rw [h1 i]; exact wpAny_pure ⟨rfl, .inr ⟨Nat.lt_of_le_of_lt (Nat.zero_le _) hi, rfl⟩⟩) (fun d hI => by
    rcases hI with ⟨h, rfl⟩ | ⟨_, rfl⟩
    · exact hz h
    · exact hq) (.inl ⟨rfl, rfl⟩)
theorem ascii_bad {x : PySem.Str} (hb : ∀ c ∈ x.cps, c < 128) {c : Nat} (hc : c ∈ x.cps) : _codecs.asciiCodec.bad c = false := decide_eq_false (Nat.not_le.mpr (hb c hc))
theorem ascii_fold (l : List Nat) (acc : Array UInt8) : l.foldl (fun acc y => acc ++ (_codecs.asciiCodec.bytesOf y).toArray) acc = acc ++ (l.map (·.toUInt8)).toArray := by
  induction l generalizing acc with
  | nil => simp
  | cons c r ih =>
    rw [List.foldl_cons, ih]
    show (acc ++ [c.toUInt8].toArray) ++ _ = _
    simp
theorem ascii_once {x : PySem.Str} (hb : ∀ c ∈ x.cps, c < 128) : 0 + ((x.cps.extract 0 x.cps.size).findIdx? _codecs.asciiCodec.bad).getD (x.cps.extract 0 x.cps.size).size = x.cps.size ∧ ((x.cps.extract 0 x.cps.size).extract 0 (((x.cps.extract 0 x.cps.size).findIdx? _codecs.asciiCodec.bad).getD (x.cps.extract 0 x.cps.size).size)).foldl (fun acc y => acc ++ (_codecs.asciiCodec.bytesOf y).toArray) #[] = x.cps.map (·.toUInt8) := by
  rw [Array.extract_size, Array.findIdx?_eq_none_iff.mpr fun c hc => by rw [ascii_bad hb hc], Option.getD_none, Array.extract_size, ← Array.foldl_toList, ascii_fold]
  exact ⟨Nat.zero_add _, by apply Array.ext'; simp⟩
theorem narrow_ascii {M : Model} {A : Around} {E : Value → Shared → Prop} {s : Shared} {id : String} {self : Value} {x : PySem.Str} (hb : ∀ c ∈ x.cps, c < 128) (hs : x.length ≤ sizeLine) {Q : Array UInt8 → Shared → Prop}
    (h : Q (x.cps.map (·.toUInt8)) s) : wpAny M A (_codecs.encodeNarrow id _codecs.asciiCodec none self x) Q E s := by
  refine wpAny_bind (forOnce (c' := (x.cps.size, x.cps.map (·.toUInt8), {})) (fun hn => ?_) (fun i => ?_) (fun hn => wpAny_pure ?_) (wpAny_pure h))
  · refine (if_neg (Nat.not_lt.mpr (Nat.zero_le _))).trans ?_
    rw [Array.getElem?_eq_getElem (xs := x.cps) hn]
    refine (if_pos (by rw [ascii_bad hb (Array.getElem_mem hn)]; rfl)).trans ?_
    exact congrArg pure (congrArg ForInStep.yield (Prod.ext (ascii_once hb).1 (Prod.ext (ascii_once hb).2 rfl)))
  · refine (if_neg (Nat.not_lt.mpr (by rw [Array.size_map]; exact hs))).trans ?_
    rw [Array.getElem?_eq_none (xs := x.cps) (Nat.le_refl _)]
  · have e : x.cps = #[] := Array.eq_empty_of_size_eq_zero hn
    rw [e, Array.map_empty] at h
    exact h
theorem encodeRoad_ascii (id : String) (self : Value) (x : PySem.Str) : _codecs.encodeRoad id self x (PySem.Str.ofString "ascii") none = (_codecs.encodeNarrow id _codecs.asciiCodec none self x >>= fun r => mkBytes r) := by kernel_rfl
theorem encode_tree_ascii (x : PySem.Str) (t u : Tok) : «str.encode» ⟨[.str x t, .str (PySem.Str.ofString "ascii") u], []⟩ = (_codecs.encodeRoad "str.encode" (.str x t) x (PySem.Str.ofString "ascii") none >>= fun r => ret r) := by kernel_rfl
theorem call_encode {prog : Program} {w : World} {A : Around} {E : Value → Shared → Prop} {s : Shared} {Q : Value → Shared → Prop} {x : PySem.Str} {t u : Tok} (hb : ∀ c ∈ x.cps, c < 128) (hs : x.length ≤ sizeLine)
    (h : ∀ t' k, Q (.bytes (x.cps.map (·.toUInt8)) t') { s with toks := k }) : wpAny (model prog w) A (call (.builtin "str.encode") [.str x t, .str (PySem.Str.ofString "ascii") u]) Q E s := by
  have hm : Meets («str.encode» ⟨[.str x t, .str (PySem.Str.ofString "ascii") u], []⟩) (fun _ R s => ∀ t' k, R (.ok (.ret (.bytes (x.cps.map (·.toUInt8)) t'))) { s with toks := k }) := by
    refine .of_wp fun prog w A R s hS => ?_
    rw [encode_tree_ascii, encodeRoad_ascii]
    refine wpAny_bind (wpAny_bind (narrow_ascii hb hs ?_))
    exact wpAny_mkBytes (wpAny_pure ⟨_, rfl, hS _ _⟩) (by rw [Array.size_map]; exact hs)
  exact call_meets F.slot_str_encode (typeIs_str _ _ _) F.entry_str_encode (F.args_str_encode_2 _ _) hm h
end R
end
-- part P2
section
open PySem PySem.W PyProof.Rows
noncomputable def altE (c : Int) : Int := if c = 43 then 10 else if c = 47 then 9 else c
noncomputable def altD0 (c : Int) : Int := if c = 49 then 43 else if c = 48 then 47 else c
noncomputable def altD1 (c : Int) : Int := if c = 120 then 43 else if c = 57 then 47 else c
theorem tab2 (f0 f1 t0 t1 : UInt8) (i : Nat) (hi : i < 256) : (R.tabOf #[f0, f1] #[t0, t1]).getD i i.toUInt8 = if f1.toNat = i then t1 else if f0.toNat = i then t0 else i.toUInt8 := by
  have e : R.tabOf #[f0, f1] #[t0, t1] = ((((Array.range 256).map (·.toUInt8)).setIfInBounds f0.toNat t0).setIfInBounds f1.toNat t1) := rfl
  rw [e, Array.getD_eq_getD_getElem?, Array.getElem?_setIfInBounds]
  have hs : f1.toNat < 256 := f1.toNat_lt
  have hs0 : f0.toNat < 256 := f0.toNat_lt
  split
  · simp only [Array.size_setIfInBounds, Array.size_map, Array.size_range, hs, if_true, Option.getD_some]
  · rw [Array.getElem?_setIfInBounds]
    split
    · simp only [Array.size_map, Array.size_range, hs0, if_true, Option.getD_some]
    · simp [hi]
theorem tabE : ∀ i : Fin 256, (R.tabOf #[43, 47] #[10, 9]).getD i.val (i.val.toUInt8) = (altE i.val).toNat.toUInt8 := by
  rintro ⟨i, hi⟩
  dsimp only
  rw [tab2 _ _ _ _ _ hi, show (47 : UInt8).toNat = 47 from rfl, show (43 : UInt8).toNat = 43 from rfl]
  unfold altE
  by_cases h1 : i = 47
  · subst h1; rfl
  · by_cases h2 : i = 43
    · subst h2; rfl
    · rw [if_neg (by omega), if_neg (by omega), if_neg (by omega), if_neg (by omega)]; rfl
theorem tabD0 : ∀ i : Fin 256, (R.tabOf #[49, 48] #[43, 47]).getD i.val (i.val.toUInt8) = (altD0 i.val).toNat.toUInt8 := by
  rintro ⟨i, hi⟩
  dsimp only
  rw [tab2 _ _ _ _ _ hi, show (48 : UInt8).toNat = 48 from rfl, show (49 : UInt8).toNat = 49 from rfl]
  unfold altD0
  by_cases h1 : i = 48
  · subst h1; rfl
  · by_cases h2 : i = 49
    · subst h2; rfl
    · rw [if_neg (by omega), if_neg (by omega), if_neg (by omega), if_neg (by omega)]; rfl
theorem tabD1 : ∀ i : Fin 256, (R.tabOf #[120, 57] #[43, 47]).getD i.val (i.val.toUInt8) = (altD1 i.val).toNat.toUInt8 := by
  rintro ⟨i, hi⟩
  dsimp only
  rw [tab2 _ _ _ _ _ hi, show (57 : UInt8).toNat = 57 from rfl, show (120 : UInt8).toNat = 120 from rfl]
  unfold altD1
  by_cases h1 : i = 57
  · subst h1; rfl
  · by_cases h2 : i = 120
    · subst h2; rfl
    · rw [if_neg (by omega), if_neg (by omega), if_neg (by omega), if_neg (by omega)]; rfl
theorem map_tab {tab : Array UInt8} {f : Int → Int} (ht : ∀ i : Fin 256, tab.getD i.val (i.val.toUInt8) = (f i.val).toNat.toUInt8) {ns : List Int} (hn : KBa.In ns) :
    (byteArr ns).map (fun c => tab.getD c.toNat c) = byteArr (ns.map f) := by
  apply Array.ext'
  simp only [byteArr, Array.toList_map, List.map_map]
  apply List.map_congr_left
  intro n hx
  obtain ⟨h0, h1⟩ := hn n hx
  obtain ⟨k, rfl⟩ := Int.eq_ofNat_of_zero_le h0
  have hk : k < 256 := by omega
  have := ht ⟨k, hk⟩
  simp only [Function.comp, Int.toNat_natCast]
  have e : (k.toUInt8).toNat = k := by
    show (UInt8.ofNat k).toNat = k
    rw [UInt8.toNat_ofNat']; omega
  rw [e]
  exact this
theorem altD0_in {ns : List Int} (h : KBa.In ns) : KBa.In (ns.map altD0) := by
  intro n hn
  obtain ⟨k, hk, rfl⟩ := List.mem_map.mp hn
  have := h k hk
  unfold altD0
  split <;> (try split) <;> omega
theorem altD1_in {ns : List Int} (h : KBa.In ns) : KBa.In (ns.map altD1) := by
  intro n hn
  obtain ⟨k, hk, rfl⟩ := List.mem_map.mp hn
  have := h k hk
  unfold altD1
  split <;> (try split) <;> omega
theorem byteArr_size (ns : List Int) : (byteArr ns).size = ns.length := by simp [byteArr]
end
-- part B4
section
open PySem PySem.W PyProof.Rows








theorem kw21 : True := by
  w_top off
  k_with_none
  (k_with "unf" => (
  (have kwhf : PySem.Challenge.rw_oy0089_01 = PySem.Challenge.rw_oy0089_01 ∧ _root_.Mine.hd.heap_39 = _root_.Mine.hd.heap_39 := by (k_fill; exact ⟨rfl, rfl⟩));
  clear kwhf;
  k_dflt (refine' enter ?kwk1 ?kwk2 ?kwk3 ?kwk5 ?kwkA ?kwkF ?kwkK ?kwk6 ?kwk7 ?kwk8 ?kwk9 ?kwkB ?_ ?kwc2 ?kwc3 ?kwc4 ?kwc5; (case kwkA => exact rfl); (case kwkF => exact rfl); (case kwkK => assumption); (case kwk1 => k_asm); (case kwk2 => k_asm); (case kwk3 => k_asm); (case kwk5 => k_asm); (case kwk6 => k_is); (case kwk7 => k_is); (case kwk8 => ktr_room); (case kwk9 => first | exact BindsTo.of_eq rfl | exact binds_K (by k_in) rfl (by k_is) rfl rfl rfl | fail "enter: no rule for these arguments"); (case kwc5 => decide); (case kwkB => exact locs rfl); (case kwc2 => exact rfl); (case kwc3 => exact rfl); (case kwc4 => exact rfl); k_whole; intro kwL' kwh' kwF' kwN' kwB' kwX' kwT'; (try dsimp only); (try k_fold))))
  (k_with "exec For Name Name cons nil" => (k_here; (rename Fr _ _ _ _ => kwlF'); (with_unfolding_all refine' For_invVF kwlF' ?kwk1 ?kwk2 ?_; (case kwk1 => exact rfl); (case kwk2 => exact rfl); k_whole)))
  (k_with "getMethod bytes" => (k_here; (with_reducible refine R.method_translate ?_)))
  (k_with "getMethod type:bytes" => (k_here; refine' method_type ?kwF ?kwX ?kwm (by decide +kernel) ?kwe ?kwh ?_; (case kwF => k_asm); (case kwX => k_asm); (case kwm => first | rfl | kernel_rfl); (case kwe => k_dflt k_is); (case kwh => k_handed)))
  (k_with "call builtin:bytes.maketrans" => (k_here; (refine R.call_maketrans _ _ _ _ (by rfl) ?_); intro _ _))
  (k_with "call builtin:bytes.translate" => (k_here; (refine R.call_translate _ _ _ _ (R.tabOf_size _ _) (by assumption) ?_); intro _ _))
  (k_with "call ref" => (k_here; k_dflt (first
  | refine' con_val (b2a _ _ _ ?kwhb1 ?kwhb2) ?kwk1 ?kwk2 ?kwk3 ?kwk4 ?kwk5 ?kwkK ?kwkd ?kwku ?kwkp ?_); (case kwk1 => k_asm); (case kwk2 => k_asm); (case kwk3 => k_asm); (case kwk4 => k_asm); (case kwk5 => k_asm); (case kwkK => first | exact rfl | assumption); (case kwkd => ktr_room); (case kwku => ktr_units); (case kwkp => trivial); (case kwhb1 => assumption); (case kwhb2 => assumption); intro kwt9 kwh9 kwtk9 kwF9 kwN9; (try dsimp only); (try k_sweep)))
  trivial
set_option maxHeartbeats 4000000 in
theorem b64enc (w : World) (b : Array UInt8) (t u : Tok) (hb : b.size % 3 = 0) (hl : b.size ≤ 100000) : Con w 115 [.bytes b t, .bytes #[10, 9] u] [] 3 (fun _ => True) (fun _ _ v => ∃ t : Tok, v = .bytes (byteArr ((encF (KBw.bInts b)).2.2.map altE)) t) := by
  intro p loose mean mg mb dp un gd cn cs a ccd cl outer A₀ base h₀ L m s Q E hB hF hX hT hK hd hu hp hret
  have hsz : (byteArr (encF (KBw.bInts b)).2.2).size ≤ sizeLine := by
    have h1 := (encF_ok (KBw.bInts b)).len
    rw [KBw.ints_length] at h1
    have h2 : (byteArr (encF (KBw.bInts b)).2.2).size = (encF (KBw.bInts b)).2.2.length := by simp [byteArr]
    rw [h2, sizeLine_eq]; omega
  k_extra "unf"
  k_steps
  all_goals exact hret _ _ _ (Fr.keep (by k_asm)) ⟨_, by rw [map_tab tabE (encF_ok (KBw.bInts b)).inn]⟩
end
-- part R2
section
open PySem PySem.W PyProof.Rows PySem.Calls
noncomputable def sub (c : Nat) (z l : List Nat) : List Nat := l.flatMap fun d => if d = c then z else [d]
theorem sub_append (c : Nat) (z a b : List Nat) : sub c z (a ++ b) = sub c z a ++ sub c z b := by simp [sub]
theorem sub_free (c : Nat) (z : List Nat) : ∀ l : List Nat, c ∉ l → sub c z l = l
  | [], _ => rfl
  | k :: r, h => by
    have h1 : ¬ k = c := fun e => h (e ▸ List.mem_cons_self ..)
    have h2 : c ∉ r := fun m => h (List.mem_cons_of_mem _ m)
    have ih := sub_free c z r h2
    unfold sub at ih ⊢
    rw [List.flatMap_cons, if_neg h1, ih]
    rfl
theorem sub_join (c : Nat) (z : Str) : ∀ parts : List Str, (∀ p ∈ parts, c ∉ p.cps.toList) → sub c z.cps.toList (Str.join ⟨#[c]⟩ parts).cps.toList = (Str.join z parts).cps.toList
  | [], _ => rfl
  | [p], h => sub_free c _ _ (h p (List.mem_singleton.mpr rfl))
  | p :: q :: r, h => by
    have ih := sub_join c z (q :: r) fun a ha => h a (List.mem_cons_of_mem _ ha)
    show sub c z.cps.toList (p ++ ⟨#[c]⟩ ++ Str.join ⟨#[c]⟩ (q :: r)).cps.toList = (p ++ z ++ Str.join z (q :: r)).cps.toList
    simp only [Str.cps_append, Array.toList_append]
    rw [sub_append, sub_append, ih, sub_free c _ _ (h p (List.mem_cons_self ..))]
    have : sub c z.cps.toList [c] = z.cps.toList := by simp [sub]
    rw [this]
theorem replace_sub (x z : Str) (c : Nat) : Txt.replace x ⟨#[c]⟩ z = ⟨(sub c z.cps.toList x.cps.toList).toArray⟩ := by
  apply Str.ext'
  apply Array.ext'
  rw [StrLaws.replace_one]
  have := sub_join c z _ (StrLaws.split_free x c)
  rw [StrLaws.join_split] at this
  rw [← this]
theorem sub_length (c : Nat) (z l : List Nat) : (sub c z l).length ≤ l.length * (z.length + 1) := by
  induction l with
  | nil => simp [sub]
  | cons k r ih =>
    have e : sub c z (k :: r) = (if k = c then z else [k]) ++ sub c z r := rfl
    rw [e, List.length_append, List.length_cons, Nat.add_mul]
    have : (if k = c then z else [k]).length ≤ z.length + 1 := by split <;> simp
    omega
theorem mem_sub {c d : Nat} {z l : List Nat} (hz : d ∉ z) (hc : d ≠ c) : d ∈ sub c z l ↔ d ∈ l := by
  unfold sub
  rw [List.mem_flatMap]
  constructor
  · rintro ⟨k, hk, hm⟩
    by_cases h : k = c
    · rw [if_pos h] at hm; exact absurd hm hz
    · rw [if_neg h] at hm; rw [List.mem_singleton.mp hm]; exact hk
  · intro h
    exact ⟨d, h, by rw [if_neg hc]; exact List.mem_singleton.mpr rfl⟩
theorem dec_sub {c d : Nat} {z l : List Nat} {b : Bool} (hz : d ∉ z) (hc : d ≠ c) (h : decide (d ∈ l) = b) : decide (d ∈ sub c z l) = b := by
  rw [← h]; exact decide_eq_decide.mpr (mem_sub hz hc)
theorem parts_count (c : Nat) : ∀ parts : List Str, parts ≠ [] → (∀ p ∈ parts, c ∉ p.cps.toList) → (Str.join ⟨#[c]⟩ parts).cps.toList.count c + 1 = parts.length
  | [], h, _ => absurd rfl h
  | [p], _, h => by
    have := List.count_eq_zero_of_not_mem (h p (List.mem_singleton.mpr rfl))
    show p.cps.toList.count c + 1 = 1
    rw [this]
  | p :: q :: r, _, h => by
    have ih := parts_count c (q :: r) (by simp) fun a ha => h a (List.mem_cons_of_mem _ ha)
    show (p ++ ⟨#[c]⟩ ++ Str.join ⟨#[c]⟩ (q :: r)).cps.toList.count c + 1 = _
    simp only [Str.cps_append, Array.toList_append, List.count_append]
    have := List.count_eq_zero_of_not_mem (h p (List.mem_cons_self ..))
    have h2 : List.count c [c] = 1 := by simp
    rw [this, List.length_cons, h2]
    omega
theorem count_one (x : Str) (c : Nat) : (Builtin.Str.occurrences x ⟨#[c]⟩ 0 x.length (x.length + 1)).length = x.cps.toList.count c := by
  by_cases hc : c ∈ x.cps.toList
  · have hf := StrLaws.found_one x c
    rw [decide_eq_true hc] at hf
    have hne : (Builtin.Str.occurrences x ⟨#[c]⟩ 0 x.length (x.length + 1)).isEmpty = false := by
      cases he : (Builtin.Str.occurrences x ⟨#[c]⟩ 0 x.length (x.length + 1)).isEmpty with
      | false => rfl
      | true =>
        have h1 := replace_sub x ⟨#[]⟩ c
        unfold Txt.replace at h1
        rw [he] at h1
        simp only [Bool.true_or, if_true] at h1
        have h2 : x.cps.toList = sub c [] x.cps.toList := by
          conv => lhs; rw [h1]
        have h3 : c ∉ sub c [] x.cps.toList := by
          unfold sub
          rw [List.mem_flatMap]
          rintro ⟨k, _, hm⟩
          by_cases h : k = c
          · rw [if_pos h] at hm; exact absurd hm (by simp)
          · rw [if_neg h] at hm; exact h (List.mem_singleton.mp hm).symm
        rw [← h2] at h3
        exact absurd hc h3
    have hs : Txt.split x ⟨#[c]⟩ = Builtin.Str.partsBetween x (Builtin.Str.occurrences x ⟨#[c]⟩ 0 x.length (x.length + 1)) (⟨#[c]⟩ : Str).length := by
      have hk : ¬ ((decide (x.length < (⟨#[c]⟩ : Str).length) || decide (Builtin.Str.strKind x < Builtin.Str.strKind ⟨#[c]⟩)) = true) := by
        intro h
        rcases Bool.or_eq_true_iff.mp h with h | h
        · have h0 : x.length < 1 := of_decide_eq_true h
          have : 0 < x.cps.toList.length := List.length_pos_of_mem hc
          simp only [Array.length_toList] at this
          exact absurd this (by show ¬ 0 < x.length; omega)
        · exact StrLaws.kind_free x c (of_decide_eq_true h) hc
      unfold Txt.split
      rw [if_neg hk, hne, if_neg Bool.false_ne_true]
    have hp := StrLaws.split_free x c
    have hj := StrLaws.join_split x ⟨#[c]⟩
    have hl : (Txt.split x ⟨#[c]⟩).length = (Builtin.Str.occurrences x ⟨#[c]⟩ 0 x.length (x.length + 1)).length + 1 := by
      rw [hs]; simp [Builtin.Str.partsBetween]
    have hn : Txt.split x ⟨#[c]⟩ ≠ [] := by intro e; rw [e] at hl; simp at hl
    have := parts_count c _ hn hp
    rw [hj] at this
    omega
  · rw [List.count_eq_zero_of_not_mem hc]
    have h1 := StrLaws.found_one x c
    rw [decide_eq_false hc] at h1
    cases ho : Builtin.Str.occurrences x ⟨#[c]⟩ 0 x.length (x.length + 1) with
    | nil => rfl
    | cons i r =>
      exfalso
      obtain ⟨f, h⟩ := StrLaws.occ_chain x ⟨#[c]⟩ (x.length + 1)
      rw [ho] at h
      exact hc (List.mem_of_getElem? ((StrLaws.subAt_one x c i).mp h.2.1))
section
variable {prog : Program} {w : World} {A : Around} {E : Value → Shared → Prop} {s : Shared} {x y z : Str} {t u v : Tok} {Q : Value → Shared → Prop}
theorem in_one {b : Bool} (c : Nat) (hy : y = ⟨#[c]⟩) (hb : decide (c ∈ x.cps.toList) = b) (h : Q (.bool b) s) : wpAny (model prog w) A (compareOp .In (.str y u) (.str x t)) Q E s := by
  subst hy
  refine in_str ?_
  rw [StrLaws.found_one, hb]
  exact h
theorem repl_one (c : Nat) (hy : y = ⟨#[c]⟩) (zl : List Nat) (hz : z = ⟨zl.toArray⟩) (hu : u ≠ 0) (hv : v ≠ 0) (huv : u ≠ v) (hyz : (y == z) = false) (hx : x.length ≤ 1048576) (hzl : z.length ≤ 14)
    (hq : ∀ t' k, Q (.str ⟨(sub c zl x.cps.toList).toArray⟩ t') { s with toks := k }) : wpAny (model prog w) A (call (.builtin "str.replace") [.str x t, .str y u, .str z v]) Q E s := by
  refine SC.replaceW hu hv huv hyz hx hzl fun t' k => ?_
  rw [hy, replace_sub, hz]
  exact hq t' k
end
end
-- part B5
section
open PySem PySem.W PyProof.Rows




theorem gen_tok {α : Type} {M : Model} {A : Around} {tree : Sem α} {Q : α → Shared → Prop} {E : Value → Shared → Prop} {h : Heap} {g d tk o} (h0 : 0 < tk) (hh : ∀ tk', 0 < tk' → wpAny M A tree Q E ⟨h, g, d, tk', o⟩) : wpAny M A tree Q E ⟨h, g, d, tk, o⟩ := hh tk h0


theorem kw27 : True := by
  w_top off
  k_with_none
  (k_with "unf" => (
  (have kwhf : PySem.Challenge.rw_oy0089_01 = PySem.Challenge.rw_oy0089_01 ∧ _root_.Mine.hd.heap_39 = _root_.Mine.hd.heap_39 := by (k_fill; exact ⟨rfl, rfl⟩));
  clear kwhf;
  k_dflt (refine' enter ?kwk1 ?kwk2 ?kwk3 ?kwk5 ?kwkA ?kwkF ?kwkK ?kwk6 ?kwk7 ?kwk8 ?kwk9 ?kwkB ?_ ?kwc2 ?kwc3 ?kwc4 ?kwc5; (case kwkA => exact rfl); (case kwkF => exact rfl); (case kwkK => assumption); (case kwk1 => k_asm); (case kwk2 => k_asm); (case kwk3 => k_asm); (case kwk5 => k_asm); (case kwk6 => k_is); (case kwk7 => k_is); (case kwk8 => ktr_room); (case kwk9 => first | exact BindsTo.of_eq rfl | exact binds_K (by k_in) rfl (by k_is) rfl rfl rfl | fail "enter: no rule for these arguments"); (case kwc5 => decide); (case kwkB => exact locs rfl); (case kwc2 => exact rfl); (case kwc3 => exact rfl); (case kwc4 => exact rfl); k_whole; intro kwL' kwh' kwF' kwN' kwB' kwX' kwT'; (try dsimp only); (try k_fold))))
  (k_with "exec For Name Name cons nil" => (k_here; (rename Fr _ _ _ _ => kwlF'); (with_unfolding_all refine' For_invVF kwlF' ?kwk1 ?kwk2 ?_; (case kwk1 => exact rfl); (case kwk2 => exact rfl); k_whole)))
  (k_with "execs cons" => (k_here; (with_reducible show wpAny _ _ _ _ _ (Shared.mk _ _ _ (_ + 1) _)); refine gen_tok (Nat.succ_pos _) ?_; intro kwtk kwhtk))
  (k_with "compareOp In str str" => (k_here; first | refine in_one 38 (by decide +kernel) (by assumption) ?_ | refine in_one 60 (by decide +kernel) (by assumption) ?_ | refine in_one 62 (by decide +kernel) (by assumption) ?_ | refine in_one 34 (by decide +kernel) (by assumption) ?_ | refine in_one 13 (by decide +kernel) (by assumption) ?_ | refine in_one 10 (by decide +kernel) (by assumption) ?_ | refine in_one 9 (by decide +kernel) (by assumption) ?_))
  (k_with "call builtin:str.replace" => (k_here; (first | refine repl_one 10 (by decide +kernel) [38, 35, 49, 48, 59] (by decide +kernel) (Nat.ne_of_gt (by assumption)) (Nat.succ_ne_zero _) (Nat.ne_of_lt (Nat.lt_succ_self _)) (by decide +kernel) (by assumption) (by decide +kernel) ?_ | refine repl_one 9 (by decide +kernel) [38, 35, 48, 57, 59] (by decide +kernel) (Nat.ne_of_gt (by assumption)) (Nat.succ_ne_zero _) (Nat.ne_of_lt (Nat.lt_succ_self _)) (by decide +kernel) (by assumption) (by decide +kernel) ?_ | refine repl_one 10 (by decide +kernel) [38, 35, 120, 65, 59] (by decide +kernel) (Nat.ne_of_gt (by assumption)) (Nat.succ_ne_zero _) (Nat.ne_of_lt (Nat.lt_succ_self _)) (by decide +kernel) (by assumption) (by decide +kernel) ?_ | refine repl_one 9 (by decide +kernel) [38, 35, 120, 57, 59] (by decide +kernel) (Nat.ne_of_gt (by assumption)) (Nat.succ_ne_zero _) (Nat.ne_of_lt (Nat.lt_succ_self _)) (by decide +kernel) (by assumption) (by decide +kernel) ?_); intro _ _))
  trivial

set_option maxHeartbeats 4000000 in
theorem esc0 (w : World) (x : Str) (t : Tok) (hl : x.length ≤ 100000) (h38 : decide (38 ∈ x.cps.toList) = false) (h60 : decide (60 ∈ x.cps.toList) = false) (h62 : decide (62 ∈ x.cps.toList) = false) (h34 : decide (34 ∈ x.cps.toList) = false) (h13 : decide (13 ∈ x.cps.toList) = false) :
    Con w 35 [.str x t] [] 1 (fun _ => True) (fun _ _ v => ∃ t : Tok, v = .str ⟨(sub 9 [38, 35, 48, 57, 59] (sub 10 [38, 35, 49, 48, 59] x.cps.toList)).toArray⟩ t) := by
  have hl0 : x.length ≤ 1048576 := by omega
  have hl1 : (⟨(sub 10 [38, 35, 49, 48, 59] x.cps.toList).toArray⟩ : Str).length ≤ 1048576 := by
    have h1 := sub_length 10 [38, 35, 49, 48, 59] x.cps.toList
    have h2 : (⟨(sub 10 [38, 35, 49, 48, 59] x.cps.toList).toArray⟩ : Str).length = (sub 10 [38, 35, 49, 48, 59] x.cps.toList).length := by simp [Str.length]
    have h3 : x.cps.toList.length = x.length := by simp [Str.length]
    rw [h2]
    rw [h3] at h1
    simp only [List.length_cons, List.length_nil] at h1
    omega
  intro p loose mean mg mb dp un gd cn cs a ccd cl outer A₀ base h₀ L m s Q E hB hF hX hT hK hd hu hp hret
  have d2 : ∀ b, decide (9 ∈ x.cps.toList) = b → decide (9 ∈ sub 10 [38, 35, 49, 48, 59] x.cps.toList) = b := fun b h => dec_sub (by decide) (by decide) h
  have e13 : decide (13 ∈ sub 10 [38, 35, 49, 48, 59] x.cps.toList) = false := dec_sub (by decide) (by decide) h13
  have f13 : decide (13 ∈ sub 9 [38, 35, 48, 57, 59] x.cps.toList) = false := dec_sub (by decide) (by decide) h13
  have g13 : decide (13 ∈ sub 9 [38, 35, 48, 57, 59] (sub 10 [38, 35, 49, 48, 59] x.cps.toList)) = false := dec_sub (by decide) (by decide) e13
  cases b1 : decide (10 ∈ x.cps.toList) <;> cases b2 : decide (9 ∈ x.cps.toList)
  all_goals (have b3 := d2 _ b2)
  all_goals k_extra "unf"
  all_goals k_steps
  · rw [sub_free 10 _ _ (of_decide_eq_false b1), sub_free 9 _ _ (of_decide_eq_false b2)] at hret
    exact hret _ _ _ (Fr.keep (by k_asm)) ⟨_, rfl⟩
  · rw [sub_free 10 _ _ (of_decide_eq_false b1)] at hret
    exact hret _ _ _ (Fr.keep (by k_asm)) ⟨_, rfl⟩
  · rw [sub_free 9 _ _ (of_decide_eq_false b3)] at hret
    exact hret _ _ _ (Fr.keep (by k_asm)) ⟨_, rfl⟩
  · exact hret _ _ _ (Fr.keep (by k_asm)) ⟨_, rfl⟩

set_option maxHeartbeats 4000000 in
theorem esc1 (w : World) (x : Str) (t : Tok) (hl : x.length ≤ 100000) (h38 : decide (38 ∈ x.cps.toList) = false) (h60 : decide (60 ∈ x.cps.toList) = false) (h62 : decide (62 ∈ x.cps.toList) = false) (h34 : decide (34 ∈ x.cps.toList) = false) (h13 : decide (13 ∈ x.cps.toList) = false) :
    Con w 42 [.str x t] [] 1 (fun _ => True) (fun _ _ v => ∃ t : Tok, v = .str ⟨(sub 10 [38, 35, 120, 65, 59] (sub 9 [38, 35, 120, 57, 59] x.cps.toList)).toArray⟩ t) := by
  have hl0 : x.length ≤ 1048576 := by omega
  have hl1 : (⟨(sub 9 [38, 35, 120, 57, 59] x.cps.toList).toArray⟩ : Str).length ≤ 1048576 := by
    have h1 := sub_length 9 [38, 35, 120, 57, 59] x.cps.toList
    have h2 : (⟨(sub 9 [38, 35, 120, 57, 59] x.cps.toList).toArray⟩ : Str).length = (sub 9 [38, 35, 120, 57, 59] x.cps.toList).length := by simp [Str.length]
    have h3 : x.cps.toList.length = x.length := by simp [Str.length]
    rw [h2]
    rw [h3] at h1
    simp only [List.length_cons, List.length_nil] at h1
    omega
  intro p loose mean mg mb dp un gd cn cs a ccd cl outer A₀ base h₀ L m s Q E hB hF hX hT hK hd hu hp hret
  have d2 : ∀ b, decide (10 ∈ x.cps.toList) = b → decide (10 ∈ sub 9 [38, 35, 120, 57, 59] x.cps.toList) = b := fun b h => dec_sub (by decide) (by decide) h
  have e13 : decide (13 ∈ sub 9 [38, 35, 120, 57, 59] x.cps.toList) = false := dec_sub (by decide) (by decide) h13
  have f13 : decide (13 ∈ sub 10 [38, 35, 120, 65, 59] x.cps.toList) = false := dec_sub (by decide) (by decide) h13
  have g13 : decide (13 ∈ sub 10 [38, 35, 120, 65, 59] (sub 9 [38, 35, 120, 57, 59] x.cps.toList)) = false := dec_sub (by decide) (by decide) e13
  cases b1 : decide (9 ∈ x.cps.toList) <;> cases b2 : decide (10 ∈ x.cps.toList)
  all_goals (have b3 := d2 _ b2)
  all_goals k_extra "unf"
  all_goals k_steps
  · rw [sub_free 9 _ _ (of_decide_eq_false b1), sub_free 10 _ _ (of_decide_eq_false b2)] at hret
    exact hret _ _ _ (Fr.keep (by k_asm)) ⟨_, rfl⟩
  · rw [sub_free 9 _ _ (of_decide_eq_false b1)] at hret
    exact hret _ _ _ (Fr.keep (by k_asm)) ⟨_, rfl⟩
  · rw [sub_free 10 _ _ (of_decide_eq_false b3)] at hret
    exact hret _ _ _ (Fr.keep (by k_asm)) ⟨_, rfl⟩
  · exact hret _ _ _ (Fr.keep (by k_asm)) ⟨_, rfl⟩
end
-- part B6
section
open PySem PySem.W PyProof.Rows








noncomputable def tInts (x : Str) : List Int := x.cps.toList.map fun (c : Nat) => (c : Int)
theorem ints_in (x : Str) (hb : ∀ c ∈ x.cps, c < 128) : KBa.In (tInts x) := by
  intro n hn
  obtain ⟨c, hc, rfl⟩ := List.mem_map.mp hn
  have := hb c (by simpa using hc)
  omega
theorem enc_ints (x : Str) : x.cps.map (·.toUInt8) = byteArr (tInts x) := by
  apply Array.ext'
  simp [byteArr, tInts]
theorem method_encode {M : Model} {A : Around} {E : Value → Shared → Prop} {s : Shared} {x : Str} {t : Tok} {pl : Sem Bool} {Q : Value × List Value → Shared → Prop} (h : Q (.builtin "str.encode", [.str x t]) s) : wpAny M A (getMethod (.str x t) (Str.ofString "encode") pl) Q E s := by
  with_reducible exact GM.of (.str x t) (typeIs_str _ _ _) F.slot_str_encode F.type_str_encode GM.noRef h

theorem kw37 : True := by
  w_top off
  k_with_none
  (k_with "unf" => (
  (have kwhf : PySem.Challenge.rw_oy0089_01 = PySem.Challenge.rw_oy0089_01 ∧ _root_.Mine.hd.heap_39 = _root_.Mine.hd.heap_39 := by (k_fill; exact ⟨rfl, rfl⟩));
  clear kwhf;
  k_dflt (refine' enter ?kwk1 ?kwk2 ?kwk3 ?kwk5 ?kwkA ?kwkF ?kwkK ?kwk6 ?kwk7 ?kwk8 ?kwk9 ?kwkB ?_ ?kwc2 ?kwc3 ?kwc4 ?kwc5; (case kwkA => exact rfl); (case kwkF => exact rfl); (case kwkK => assumption); (case kwk1 => k_asm); (case kwk2 => k_asm); (case kwk3 => k_asm); (case kwk5 => k_asm); (case kwk6 => k_is); (case kwk7 => k_is); (case kwk8 => ktr_room); (case kwk9 => first | exact BindsTo.of_eq rfl | exact binds_K (by k_in) rfl (by k_is) rfl rfl rfl | fail "enter: no rule for these arguments"); (case kwc5 => decide); (case kwkB => exact locs rfl); (case kwc2 => exact rfl); (case kwc3 => exact rfl); (case kwc4 => exact rfl); k_whole; intro kwL' kwh' kwF' kwN' kwB' kwX' kwT'; (try dsimp only); (try k_fold))))
  (k_with "exec For Name Name cons nil" => (k_here; (rename Fr _ _ _ _ => kwlF'); (with_unfolding_all refine' For_invVF kwlF' ?kwk1 ?kwk2 ?_; (case kwk1 => exact rfl); (case kwk2 => exact rfl); k_whole)))
  (k_with "getMethod bytes" => (k_here; (with_reducible refine R.method_translate ?_)))
  (k_with "getMethod type:bytes" => (k_here; refine' method_type ?kwF ?kwX ?kwm (by decide +kernel) ?kwe ?kwh ?_; (case kwF => k_asm); (case kwX => k_asm); (case kwm => first | rfl | kernel_rfl); (case kwe => k_dflt k_is); (case kwh => k_handed)))
  (k_with "call builtin:bytes.maketrans" => (k_here; (refine R.call_maketrans _ _ _ _ (by rfl) ?_); intro _ _))
  (k_with "call builtin:bytes.translate" => (k_here; (refine R.call_translate _ _ _ _ (R.tabOf_size _ _) (by assumption) ?_); intro _ _))
  (k_with "getMethod str" => (k_here; (with_reducible refine method_encode ?_)))
  (k_with "call builtin:str.encode" => (k_here; (refine R.call_encode (by assumption) (by assumption) ?_); intro _ _))
  trivial
theorem from_str (w : World) (x : Str) (t : Tok) (hb : ∀ c ∈ x.cps, c < 128) (hs : x.length ≤ 100000) : Con w 50 [.str x t] [] 1 (fun _ => True) (fun _ _ v => ∃ t : Tok, v = .bytes (byteArr (tInts x)) t) := by
  intro p loose mean mg mb dp un gd cn cs a ccd cl outer A₀ base h₀ L m s Q E hB hF hX hT hK hd hu hp hret
  have hs2 : x.length ≤ sizeLine := by rw [sizeLine_eq]; omega
  rw [← enc_ints] at hret
  k_extra "unf"
  k_steps
  all_goals exact hret _ _ _ (Fr.keep (by k_asm)) ⟨_, rfl⟩
theorem kw38 : True := by
  (k_with "call ref" => (k_here; k_dflt (first
  | (refine' con_val (from_str _ _ _ ?kwq1 ?kwq2) ?kwk1 ?kwk2 ?kwk3 ?kwk4 ?kwk5 ?kwkK ?kwkd ?kwku ?kwkp ?_; (case kwq1 => assumption); (case kwq2 => assumption))
  | (refine' con_val (from_bytes _ _ _) ?kwk1 ?kwk2 ?kwk3 ?kwk4 ?kwk5 ?kwkK ?kwkd ?kwku ?kwkp ?_)
  | (refine' con_val (a2b _ _ _ ?kwq3 ?kwq4 ?kwq5) ?kwk1 ?kwk2 ?kwk3 ?kwk4 ?kwk5 ?kwkK ?kwkd ?kwku ?kwkp ?_; (case kwq3 => assumption); (case kwq4 => assumption); (case kwq5 => assumption))); (case kwk1 => k_asm); (case kwk2 => k_asm); (case kwk3 => k_asm); (case kwk4 => k_asm); (case kwk5 => k_asm); (case kwkK => first | exact rfl | assumption); (case kwkd => ktr_room); (case kwku => ktr_units); (case kwkp => trivial); intro kwt9 kwh9 kwtk9 kwF9 kwN9; (try dsimp only); (try k_sweep)))
  trivial

set_option maxHeartbeats 4000000 in
theorem b64dec0 (w : World) (x : Str) (t u : Tok) (hb : ∀ c ∈ x.cps, c < 128) (hs : x.length ≤ 100000) (hno : ∀ k ∈ (tInts x).map altD0, k ≠ 61) (hq : (decF ((tInts x).map altD0)).1 = 0) :
    Con w 123 [.str x t, .bytes #[49, 48] u] [] 3 (fun _ => True) (fun _ _ v => ∃ t : Tok, v = .bytes (byteArr (decF ((tInts x).map altD0)).2.2) t) := by
  intro p loose mean mg mb dp un gd cn cs a ccd cl outer A₀ base h₀ L m s Q E hB hF hX hT hK hd hu hp hret
  have hin : KBa.In (tInts x) := ints_in x hb
  have hin2 : KBa.In ((tInts x).map altD0) := altD0_in hin
  have hlen : (tInts x).length = x.length := by simp [tInts, Str.length]
  have hsz : (byteArr (tInts x)).size ≤ sizeLine := by rw [byteArr_size, hlen, sizeLine_eq]; omega
  have hsz2 : (byteArr ((tInts x).map altD0)).size ≤ 100000 := by rw [byteArr_size, List.length_map, hlen]; omega
  have hm := map_tab tabD0 hin
  have hi2 := KBa.ints_make hin2
  have hno2 : ∀ k ∈ KBw.bInts (byteArr ((tInts x).map altD0)), k ≠ 61 := by rw [hi2]; exact hno
  have hq2 : (decF (KBw.bInts (byteArr ((tInts x).map altD0)))).1 = 0 := by rw [hi2]; exact hq
  rw [← hm] at hsz2 hno2 hq2 hi2
  k_extra "unf"
  k_steps
  all_goals exact hret _ _ _ (Fr.keep (by k_asm)) ⟨_, by rw [hi2]⟩

set_option maxHeartbeats 4000000 in
theorem b64dec1 (w : World) (x : Str) (t u : Tok) (hb : ∀ c ∈ x.cps, c < 128) (hs : x.length ≤ 100000) (hno : ∀ k ∈ (tInts x).map altD1, k ≠ 61) (hq : (decF ((tInts x).map altD1)).1 = 0) :
    Con w 123 [.str x t, .bytes #[120, 57] u] [] 3 (fun _ => True) (fun _ _ v => ∃ t : Tok, v = .bytes (byteArr (decF ((tInts x).map altD1)).2.2) t) := by
  intro p loose mean mg mb dp un gd cn cs a ccd cl outer A₀ base h₀ L m s Q E hB hF hX hT hK hd hu hp hret
  have hin : KBa.In (tInts x) := ints_in x hb
  have hin2 : KBa.In ((tInts x).map altD1) := altD1_in hin
  have hlen : (tInts x).length = x.length := by simp [tInts, Str.length]
  have hsz : (byteArr (tInts x)).size ≤ sizeLine := by rw [byteArr_size, hlen, sizeLine_eq]; omega
  have hsz2 : (byteArr ((tInts x).map altD1)).size ≤ 100000 := by rw [byteArr_size, List.length_map, hlen]; omega
  have hm := map_tab tabD1 hin
  have hi2 := KBa.ints_make hin2
  have hno2 : ∀ k ∈ KBw.bInts (byteArr ((tInts x).map altD1)), k ≠ 61 := by rw [hi2]; exact hno
  have hq2 : (decF (KBw.bInts (byteArr ((tInts x).map altD1)))).1 = 0 := by rw [hi2]; exact hq
  rw [← hm] at hsz2 hno2 hq2 hi2
  k_extra "unf"
  k_steps
  all_goals exact hret _ _ _ (Fr.keep (by k_asm)) ⟨_, by rw [hi2]⟩
end
-- part P3
section
open PySem PySem.W PyProof.Rows
noncomputable def octs : List Int → List Int
  | a :: b :: c :: d :: r => (a * 4 + b / 16) :: ((b % 16) * 16 + c / 4) :: ((c % 4) * 64 + d) :: octs r
  | _ => []
noncomputable def Fig (F : List Int) : Prop := ∀ f ∈ F, 0 ≤ f ∧ f < 64
inductive Fours : List Int → Prop
  | nil : Fours []
  | cons (a b c d : Int) (r : List Int) : Fours r → Fours (a :: b :: c :: d :: r)
theorem fours_of : ∀ (n : Nat) (F : List Int), F.length = 4 * n → Fours F
  | 0, F, h => by
    have : F = [] := List.eq_nil_of_length_eq_zero (by omega)
    rw [this]; exact .nil
  | n + 1, F, h => by
    match F, h with
    | a :: b :: c :: d :: r, h =>
      refine .cons a b c d r (fours_of n r ?_)
      simp only [List.length_cons] at h
      omega
theorem fours {F : List Int} (h : F.length % 4 = 0) : Fours F := fours_of (F.length / 4) F (by omega)
theorem octs_in {F : List Int} (h4 : Fours F) : Fig F → KBa.In (octs F) := by
  induction h4 with
  | nil => intro _ n hn; exact absurd hn (by simp [octs])
  | cons a b c d r _ ih =>
    intro hf
    have ha := hf a (by simp)
    have hb := hf b (by simp)
    have hc := hf c (by simp)
    have hd := hf d (by simp)
    have ih := ih fun f hm => hf f (by simp [hm])
    intro n hn
    simp only [octs, List.mem_cons] at hn
    rcases hn with rfl | rfl | rfl | hn
    · omega
    · omega
    · omega
    · exact ih n hn
theorem octs_length {F : List Int} (h4 : Fours F) : 4 * (octs F).length = 3 * F.length := by
  induction h4 with
  | nil => rfl
  | cons a b c d r _ ih => simp only [octs, List.length_cons]; omega
theorem dm {n : Int} (q : Int) {r X : Int} (h0 : 0 ≤ r) (h1 : r < n) (e : r + n * q = X) : X / n = q ∧ X % n = r := (Int.ediv_emod_unique (Int.lt_of_le_of_lt h0 h1)).2 ⟨e, h0, h1⟩
theorem bits (x m : Int) {X a r n : Int} (e : ∀ k, r + n * (a + 64 * (x - m * k)) = X - 65536 * k) (h : 0 ≤ a ∧ a < 64) (h0 : 0 ≤ r) (h1 : r < n) : X % 65536 / n % 64 = a ∧ X % 65536 % n = r := by
  rw [Int.emod_def X]
  obtain ⟨p, q⟩ := dm _ h0 h1 (e (X / 65536))
  exact ⟨p ▸ (dm _ h.1 h.2 rfl).2, q⟩
theorem lin1 {x a r k : Int} : r + 4 * (a + 64 * (x - 256 * k)) = x * 256 + (a * 4 + r) - 65536 * k := by omega
theorem lin2 {u v w r k : Int} : r + 16 * ((16 * v + w) + 64 * (u - 64 * k)) = (4 * u + v) * 256 + (w * 16 + r) - 65536 * k := by omega
theorem lin3 {u v w r k : Int} : r + 64 * ((4 * v + w) + 64 * (u - 16 * k)) = (16 * u + v) * 256 + (w * 64 + r) - 65536 * k := by omega
theorem bits1 {x a r : Int} (h : 0 ≤ a ∧ a < 64) (h0 : 0 ≤ r) (h1 : r < 4) : (x * 256 + (a * 4 + r)) % 65536 / 4 % 64 = a ∧ (x * 256 + (a * 4 + r)) % 65536 % 4 = r := bits x 256 (fun _ => lin1) h h0 h1
theorem two_parts {x b n m : Int} (hx : x % n = b / m) : x = n * (x / n) + b / m ∧ b = m * (b / m) + b % m := ⟨hx ▸ (Int.mul_ediv_add_emod x n).symm, (Int.mul_ediv_add_emod b m).symm⟩
theorem bits2 {x b r : Int} (hx : x % 4 = b / 16) (h : 0 ≤ b ∧ b < 64) (h0 : 0 ≤ r) (h1 : r < 16) : (x * 256 + (b % 16 * 16 + r)) % 65536 / 16 % 64 = b ∧ (x * 256 + (b % 16 * 16 + r)) % 65536 % 16 = r :=
  bits (x / 4) 64 (fun k => by have e := @lin2 (x / 4) (b / 16) (b % 16) r k; rwa [← (two_parts hx).1, ← (two_parts hx).2] at e) h h0 h1
theorem bits3 {x c d : Int} (hx : x % 16 = c / 4) (h : 0 ≤ c ∧ c < 64) (h0 : 0 ≤ d) (h1 : d < 64) : (x * 256 + (c % 4 * 64 + d)) % 65536 / 64 % 64 = c ∧ (x * 256 + (c % 4 * 64 + d)) % 65536 % 64 = d :=
  bits (x / 16) 16 (fun k => by have e := @lin3 (x / 16) (c / 4) (c % 4) d k; rwa [← (two_parts hx).1, ← (two_parts hx).2] at e) h h0 h1
theorem part_in {b k n : Int} (hk : 0 < k) (h0 : 0 ≤ b) (h1 : b < n * k) : 0 ≤ b / k ∧ b / k < n := ⟨Int.ediv_nonneg h0 (Int.le_of_lt hk), Int.ediv_lt_of_lt_mul hk h1⟩
theorem enc_octs {F : List Int} (h4 : Fours F) : Fig F → ∀ (lc : Int) (out : List Int), 0 ≤ lc → ∃ lc', 0 ≤ lc' ∧ (octs F).foldl encStep (lc, 0, out) = (lc', 0, out ++ F.map let64) := by
  induction h4 with
  | nil => intro _ lc out h; exact ⟨lc, h, by simp [octs]⟩
  | cons a b c d r _ ih =>
    intro hf lc out h0
    have ha := hf a (by simp)
    have hb := hf b (by simp)
    have hc := hf c (by simp)
    have hd := hf d (by simp)
    have ih := ih fun f hm => hf f (by simp [hm])
    have pb := part_in (k := 16) (n := 4) (by decide) hb.1 hb.2
    have pc := part_in (k := 4) (n := 16) (by decide) hc.1 hc.2
    simp only [octs, List.foldl_cons]
    have q1 := bits1 (x := lc) ha pb.1 pb.2
    have e1 : encStep (lc, 0, out) (a * 4 + b / 16) = ((lc * 256 + (a * 4 + b / 16)) % 65536, 2, out ++ [let64 a]) := by
      show ((lc * 256 + (a * 4 + b / 16)) % 65536, (2 : Int), out ++ [let64 ((lc * 256 + (a * 4 + b / 16)) % 65536 / 4 % 64)]) = _
      rw [q1.1]
    rw [e1]
    generalize (lc * 256 + (a * 4 + b / 16)) % 65536 = l1 at q1 ⊢
    have q2 := bits2 (x := l1) q1.2 hb pc.1 pc.2
    have e2 : encStep (l1, 2, out ++ [let64 a]) ((b % 16) * 16 + c / 4) = ((l1 * 256 + ((b % 16) * 16 + c / 4)) % 65536, 4, out ++ [let64 a] ++ [let64 b]) := by
      show ((l1 * 256 + ((b % 16) * 16 + c / 4)) % 65536, (4 : Int), out ++ [let64 a] ++ [let64 ((l1 * 256 + ((b % 16) * 16 + c / 4)) % 65536 / 16 % 64)]) = _
      rw [q2.1]
    rw [e2]
    generalize (l1 * 256 + ((b % 16) * 16 + c / 4)) % 65536 = l2 at q2 ⊢
    have q3 := bits3 (x := l2) q2.2 hc hd.1 hd.2
    have e3 : encStep (l2, 4, out ++ [let64 a] ++ [let64 b]) ((c % 4) * 64 + d) = ((l2 * 256 + ((c % 4) * 64 + d)) % 65536, 0, out ++ [let64 a] ++ [let64 b] ++ [let64 c, let64 d]) := by
      show ((l2 * 256 + ((c % 4) * 64 + d)) % 65536, (0 : Int), out ++ [let64 a] ++ [let64 b] ++ [let64 ((l2 * 256 + ((c % 4) * 64 + d)) % 65536 / 64 % 64), let64 ((l2 * 256 + ((c % 4) * 64 + d)) % 65536 % 64)]) = _
      rw [q3.1, q3.2]
    rw [e3]
    obtain ⟨lc', h1, h2⟩ := ih ((l2 * 256 + ((c % 4) * 64 + d)) % 65536) (out ++ [let64 a] ++ [let64 b] ++ [let64 c, let64 d]) (Int.emod_nonneg _ (by decide))
    exact ⟨lc', h1, by rw [h2]; simp⟩
theorem encF_octs {F : List Int} (h4 : Fours F) (hf : Fig F) : (encF (octs F)).2.2 = F.map let64 := by
  obtain ⟨lc', _, h⟩ := enc_octs h4 hf 0 [] (by decide)
  unfold encF
  rw [h]
  rfl
noncomputable def vals (l : List Int) : List Int := l.filterMap fun c => if val64 c < 64 then some (val64 c) else none
theorem dec_vals : ∀ (l : List Int) (st : Int × Int × List Int), l.foldl decStep st = (vals l).foldl (fun st v => if st.1 = 0 then (1, v, st.2.2) else if st.1 = 1 then (2, v % 16, st.2.2 ++ [st.2.1 * 4 + v / 16]) else if st.1 = 2 then (3, v % 4, st.2.2 ++ [st.2.1 * 16 + v / 4]) else (0, 0, st.2.2 ++ [st.2.1 * 64 + v])) st
  | [], _ => rfl
  | c :: r, st => by
    rw [List.foldl_cons, dec_vals r]
    unfold vals
    rw [List.filterMap_cons]
    by_cases h : 64 ≤ val64 c
    · rw [dec_skip h, if_neg (by omega)]
    · rw [if_pos (by omega)]
      simp only [List.foldl_cons]
      congr 1
      unfold decStep
      rw [if_neg h]
theorem dec_octs {V : List Int} (h4 : Fours V) : ∀ out : List Int, V.foldl (fun (st : Int × Int × List Int) v => if st.1 = 0 then (1, v, st.2.2) else if st.1 = 1 then (2, v % 16, st.2.2 ++ [st.2.1 * 4 + v / 16]) else if st.1 = 2 then (3, v % 4, st.2.2 ++ [st.2.1 * 16 + v / 4]) else (0, 0, st.2.2 ++ [st.2.1 * 64 + v])) (0, 0, out) = (0, 0, out ++ octs V) := by
  induction h4 with
  | nil => intro out; simp [octs]
  | cons a b c d r _ ih =>
    intro out
    simp only [List.foldl_cons, octs]
    show List.foldl _ (0, 0, out ++ [a * 4 + b / 16] ++ [b % 16 * 16 + c / 4] ++ [c % 4 * 64 + d]) r = _
    rw [ih]
    simp
theorem decF_vals {l : List Int} (h4 : Fours (vals l)) : decF l = (0, 0, octs (vals l)) := by
  unfold decF
  rw [dec_vals, dec_octs h4]
  rfl
end
-- part P4
section
open PySem PySem.W PyProof.Rows
noncomputable def code (f : Int) : Nat := (altE (let64 f)).toNat
noncomputable def esc (k : Nat) (c : Nat) : List Nat :=
  if k = 0 then (if c = 10 then [38, 35, 49, 48, 59] else if c = 9 then [38, 35, 48, 57, 59] else [c])
  else (if c = 10 then [38, 35, 120, 65, 59] else if c = 9 then [38, 35, 120, 57, 59] else [c])
noncomputable def altD (k : Nat) (c : Int) : Int := if k = 0 then altD0 c else altD1 c
noncomputable def gro (k : Nat) (f : Int) : List Int :=
  if k = 0 then (if f = 62 then [62, 63] else if f = 63 then [63, 61] else if f = 53 then [62] else if f = 52 then [63] else [f])
  else (if f = 62 then [62, 0] else if f = 63 then [62, 63] else if f = 49 then [62] else if f = 61 then [63] else [f])
noncomputable def padN (n : Nat) : Nat := (4 - n % 4) % 4
theorem pad_neg (m : Nat) : (-(m : Int)) % 4 = (padN m : Int) := by unfold padN; omega
theorem pad_lt (m : Nat) : padN m < 4 := Nat.mod_lt _ (by decide)
theorem pad_four (m : Nat) : (m + padN m) % 4 = 0 := by unfold padN; omega
noncomputable def stepF (k : Nat) (F : List Int) : List Int := F.flatMap (gro k) ++ List.replicate (padN (F.flatMap (gro k)).length) 0
noncomputable def txt (F : List Int) : List Nat := F.map code
noncomputable def etxt (k : Nat) (F : List Int) : List Nat := (txt F).flatMap (esc k)

theorem sub_two (c d : Nat) (z y : List Nat) (h1 : d ∉ z) (h2 : c ≠ d) : ∀ l : List Nat, sub d y (sub c z l) = l.flatMap fun e => if e = c then z else if e = d then y else [e]
  | [] => rfl
  | e :: r => by
    have ih := sub_two c d z y h1 h2 r
    have e1 : sub c z (e :: r) = (if e = c then z else [e]) ++ sub c z r := rfl
    rw [e1, sub_append, ih, List.flatMap_cons]
    congr 1
    by_cases h : e = c
    · rw [if_pos h, if_pos h, sub_free d y z h1]
    · rw [if_neg h, if_neg h]
      unfold sub
      simp
theorem esc_zero (F : List Int) : sub 9 [38, 35, 48, 57, 59] (sub 10 [38, 35, 49, 48, 59] (txt F)) = etxt 0 F := by
  rw [sub_two 10 9 _ _ (by decide) (by decide)]
  rfl
theorem esc_one (F : List Int) : sub 10 [38, 35, 120, 65, 59] (sub 9 [38, 35, 120, 57, 59] (txt F)) = etxt 1 F := by
  rw [sub_two 9 10 _ _ (by decide) (by decide)]
  unfold etxt
  congr 1
  funext e
  unfold esc
  rw [if_neg (show ¬ (1 : Nat) = 0 by decide)]
  by_cases h : e = 9
  · rw [if_pos h, if_neg (by omega), if_pos h]
  · rw [if_neg h]
    by_cases h2 : e = 10
    · rw [if_pos h2, if_pos h2]
    · rw [if_neg h2, if_neg h2, if_neg h]
theorem fin64 {P : Int → Prop} (h : ∀ i : Fin 64, P (i.val : Int)) {f : Int} (h0 : 0 ≤ f) (h1 : f < 64) : P f := by
  obtain ⟨n, rfl⟩ := Int.eq_ofNat_of_zero_le h0
  exact h ⟨n, by omega⟩
theorem code_lt {f : Int} (h0 : 0 ≤ f) (h1 : f < 64) : code f < 128 ∧ code f ≠ 38 ∧ code f ≠ 60 ∧ code f ≠ 62 ∧ code f ≠ 34 ∧ code f ≠ 13 ∧ ((code f : Nat) : Int) = altE (let64 f) :=
  fin64 (P := fun f => code f < 128 ∧ code f ≠ 38 ∧ code f ≠ 60 ∧ code f ≠ 62 ∧ code f ≠ 34 ∧ code f ≠ 13 ∧ ((code f : Nat) : Int) = altE (let64 f)) (by decide +kernel) h0 h1
theorem one_fig {k : Nat} (hk : k = 0 ∨ k = 1) {f : Int} (h0 : 0 ≤ f) (h1 : f < 64) :
    vals (((esc k (code f)).map fun (c : Nat) => (c : Int)).map (altD k)) = gro k f ∧ (esc k (code f)).length = (gro k f).length + 3 * (esc k (code f)).count 38 ∧ (∀ c ∈ esc k (code f), c < 128 ∧ altD k c ≠ 61) ∧ (∀ x ∈ gro k f, 0 ≤ x ∧ x < 64) ∧ 1 ≤ (gro k f).length ∧ (esc k (code f)).length ≤ 5 ∧ (gro k f).length ≤ 2 := by
  rcases hk with rfl | rfl
  · exact fin64 (P := fun f => vals (((esc 0 (code f)).map fun (c : Nat) => (c : Int)).map (altD 0)) = gro 0 f ∧ (esc 0 (code f)).length = (gro 0 f).length + 3 * (esc 0 (code f)).count 38 ∧ (∀ c ∈ esc 0 (code f), c < 128 ∧ altD 0 c ≠ 61) ∧ (∀ x ∈ gro 0 f, 0 ≤ x ∧ x < 64) ∧ 1 ≤ (gro 0 f).length ∧ (esc 0 (code f)).length ≤ 5 ∧ (gro 0 f).length ≤ 2) (by decide +kernel) h0 h1
  · exact fin64 (P := fun f => vals (((esc 1 (code f)).map fun (c : Nat) => (c : Int)).map (altD 1)) = gro 1 f ∧ (esc 1 (code f)).length = (gro 1 f).length + 3 * (esc 1 (code f)).count 38 ∧ (∀ c ∈ esc 1 (code f), c < 128 ∧ altD 1 c ≠ 61) ∧ (∀ x ∈ gro 1 f, 0 ≤ x ∧ x < 64) ∧ 1 ≤ (gro 1 f).length ∧ (esc 1 (code f)).length ≤ 5 ∧ (gro 1 f).length ≤ 2) (by decide +kernel) h0 h1
theorem vals_append (a b : List Int) : vals (a ++ b) = vals a ++ vals b := by simp [vals]
theorem row_vals {k : Nat} (hk : k = 0 ∨ k = 1) : ∀ F : List Int, Fig F → vals (((etxt k F).map fun (c : Nat) => (c : Int)).map (altD k)) = F.flatMap (gro k) ∧ (etxt k F).length = (F.flatMap (gro k)).length + 3 * (etxt k F).count 38 ∧ (∀ c ∈ etxt k F, c < 128 ∧ altD k c ≠ 61) ∧ Fig (F.flatMap (gro k)) ∧ F.length ≤ (F.flatMap (gro k)).length ∧ (etxt k F).length ≤ 5 * F.length ∧ (F.flatMap (gro k)).length ≤ 2 * F.length
  | [], _ => ⟨rfl, rfl, by simp [etxt, txt], by intro f hf; simp at hf, by simp, by simp [etxt, txt], by simp⟩
  | f :: r, hf => by
    obtain ⟨i1, i2, i3, i4, i5, i6, i7⟩ := row_vals hk r fun x hx => hf x (by simp [hx])
    have hb := hf f (by simp)
    obtain ⟨o1, o2, o3, o4, o5, o6, o7⟩ := one_fig hk hb.1 hb.2
    have e : etxt k (f :: r) = esc k (code f) ++ etxt k r := rfl
    rw [e, List.flatMap_cons]
    refine ⟨?_, ?_, ?_, ?_, ?_, ?_, ?_⟩
    · rw [List.map_append, List.map_append, vals_append, i1, o1]
    · rw [List.length_append, List.length_append, List.count_append, i2, o2]; omega
    · intro c hc
      rcases List.mem_append.mp hc with h | h
      · exact o3 c h
      · exact i3 c h
    · intro x hx
      rcases List.mem_append.mp hx with h | h
      · exact o4 x h
      · exact i4 x h
    · simp only [List.length_append, List.length_cons]; omega
    · simp only [List.length_append, List.length_cons]; omega
    · simp only [List.length_append, List.length_cons]; omega
theorem alt_a {k : Nat} (n : Nat) : vals (((List.replicate n 65).map fun (c : Nat) => (c : Int)).map (altD k)) = List.replicate n 0 := by
  have h : altD k 65 = 65 := by unfold altD; split <;> rfl
  induction n with
  | zero => rfl
  | succ n ih =>
    rw [List.replicate_succ, List.map_cons, List.map_cons, List.replicate_succ]
    have : vals (altD k ((65 : Nat) : Int) :: List.map (altD k) (List.map (fun (c : Nat) => (c : Int)) (List.replicate n 65))) = 0 :: vals (List.map (altD k) (List.map (fun (c : Nat) => (c : Int)) (List.replicate n 65))) := by
      have h2 : altD k ((65 : Nat) : Int) = 65 := h
      rw [h2]
      rfl
    rw [this, ih]
noncomputable def rtxt (k : Nat) (F : List Int) : List Nat := etxt k F ++ List.replicate (padN (F.flatMap (gro k)).length) 65
theorem read_vals {k : Nat} (hk : k = 0 ∨ k = 1) {F : List Int} (hf : Fig F) : vals (((rtxt k F).map fun (c : Nat) => (c : Int)).map (altD k)) = stepF k F := by
  unfold rtxt stepF
  rw [List.map_append, List.map_append, vals_append, (row_vals hk F hf).1, alt_a]
theorem step_length {k : Nat} {F : List Int} : (stepF k F).length % 4 = 0 := by
  unfold stepF
  rw [List.length_append, List.length_replicate]
  exact pad_four _
theorem step_fig {k : Nat} (hk : k = 0 ∨ k = 1) {F : List Int} (hf : Fig F) : Fig (stepF k F) := by
  intro x hx
  rcases List.mem_append.mp hx with h | h
  · exact (row_vals hk F hf).2.2.2.1 x h
  · rw [(List.mem_replicate.mp h).2]; decide
theorem read_dec {k : Nat} (hk : k = 0 ∨ k = 1) {F : List Int} (hf : Fig F) : decF (((rtxt k F).map fun (c : Nat) => (c : Int)).map (altD k)) = (0, 0, octs (stepF k F)) := by
  have h := read_vals hk hf
  rw [decF_vals (by rw [h]; exact fours step_length), h]
end
-- part B7
section
open PySem PySem.W PyProof.Rows



noncomputable def tstr (l : List Nat) : Str := ⟨l.toArray⟩
structure Row4 (F : List Int) : Prop where
  four : F.length % 4 = 0
  fig : Fig F
  pos : 0 < F.length
  small : F.length ≤ 2000
theorem txt_cast {F : List Int} (hf : Fig F) : (F.map let64).map altE = (txt F).map fun (c : Nat) => (c : Int) := by
  unfold txt
  rw [List.map_map, List.map_map]
  apply List.map_congr_left
  intro f hm
  exact (code_lt (hf f hm).1 (hf f hm).2).2.2.2.2.2.2.symm
theorem octs_size {F : List Int} (h : Row4 F) : 4 * (byteArr (octs F)).size = 3 * F.length := by rw [byteArr_size]; exact octs_length (fours h.four)
theorem encT (w : World) (F : List Int) (t u : Tok) (h : Row4 F) : Con w 115 [.bytes (byteArr (octs F)) t, .bytes #[10, 9] u] [] 3 (fun _ => True) (fun _ _ v => ∃ t : Tok, v = .bytes (byteArr ((txt F).map fun (c : Nat) => (c : Int))) t) := by
  have hs := octs_size h
  have h0 := h.small
  have h4 := h.four
  have hc := b64enc w (byteArr (octs F)) t u (by omega) (by omega)
  rw [KBa.ints_make (octs_in (fours h.four) h.fig), encF_octs (fours h.four) h.fig, txt_cast h.fig] at hc
  exact hc
theorem txt_lt {F : List Int} (hf : Fig F) : ∀ c ∈ txt F, c < 128 ∧ c ≠ 38 ∧ c ≠ 60 ∧ c ≠ 62 ∧ c ≠ 34 ∧ c ≠ 13 := by
  intro c hc
  obtain ⟨f, hm, rfl⟩ := List.mem_map.mp hc
  obtain ⟨a1, a2, a3, a4, a5, a6, _⟩ := code_lt (hf f hm).1 (hf f hm).2
  exact ⟨a1, a2, a3, a4, a5, a6⟩
theorem arr_txt {l : List Nat} (h : ∀ c ∈ l, c < 128) : (byteArr (l.map fun (c : Nat) => (c : Int))).map (·.toNat) = l.toArray := by
  apply Array.ext'
  simp only [byteArr, List.map_map, Array.toList_map]
  refine (List.map_congr_left (g := id) fun c hc => ?_).trans (List.map_id _)
  have := h c hc
  show (UInt8.ofNat c).toNat = c
  rw [UInt8.toNat_ofNat']; omega
theorem decode_txt {prog : Program} {w : World} {A : Around} {E : Value → Shared → Prop} {s : Shared} {Q : Value → Shared → Prop} {F : List Int} {t u : Tok} (hr : Row4 F)
    (h : ∀ t' k, Q (.str (tstr (txt F)) t') { s with toks := k }) : wpAny (model prog w) A (call (.builtin "bytes.decode") [.bytes (byteArr ((txt F).map fun (c : Nat) => (c : Int))) t, .str (PySem.Str.ofString "ascii") u]) Q E s := by
  have hl : (byteArr ((txt F).map fun (c : Nat) => (c : Int))).size = F.length := by rw [byteArr_size]; simp [txt]
  have hlt : ∀ c ∈ txt F, c < 128 := fun c hc => (txt_lt hr.fig c hc).1
  refine R.call_decode (by rw [hl]; exact hr.pos) (fun c hc => ?_) (by rw [hl, sizeLine_eq]; have := hr.small; omega) fun t' k => ?_
  · have : c.toNat ∈ ((byteArr ((txt F).map fun (c : Nat) => (c : Int))).map (·.toNat)) := Array.mem_map_of_mem hc
    rw [arr_txt hlt] at this
    exact hlt _ (by simpa using this)
  · rw [arr_txt hlt]
    exact h t' k
theorem no_code {F : List Int} (hf : Fig F) {d : Nat} (h : ∀ c ∈ txt F, c ≠ d) : decide (d ∈ (tstr (txt F)).cps.toList) = false := decide_eq_false fun hm => h d hm rfl
theorem tstr_len (l : List Nat) : (tstr l).length = l.length := by simp [tstr, Str.length]
theorem escT0 (w : World) (F : List Int) (t : Tok) (h : Row4 F) : Con w 35 [.str (tstr (txt F)) t] [] 1 (fun _ => True) (fun _ _ v => ∃ t : Tok, v = .str (tstr (etxt 0 F)) t) := by
  have hx := txt_lt h.fig
  have hc := esc0 w (tstr (txt F)) t (by rw [tstr_len]; have := h.small; simp [txt]; omega) (no_code h.fig fun c hc => (hx c hc).2.1) (no_code h.fig fun c hc => (hx c hc).2.2.1) (no_code h.fig fun c hc => (hx c hc).2.2.2.1) (no_code h.fig fun c hc => (hx c hc).2.2.2.2.1) (no_code h.fig fun c hc => (hx c hc).2.2.2.2.2)
  rw [show (tstr (txt F)).cps.toList = txt F from rfl, esc_zero] at hc
  exact hc
theorem escT1 (w : World) (F : List Int) (t : Tok) (h : Row4 F) : Con w 42 [.str (tstr (txt F)) t] [] 1 (fun _ => True) (fun _ _ v => ∃ t : Tok, v = .str (tstr (etxt 1 F)) t) := by
  have hx := txt_lt h.fig
  have hc := esc1 w (tstr (txt F)) t (by rw [tstr_len]; have := h.small; simp [txt]; omega) (no_code h.fig fun c hc => (hx c hc).2.1) (no_code h.fig fun c hc => (hx c hc).2.2.1) (no_code h.fig fun c hc => (hx c hc).2.2.2.1) (no_code h.fig fun c hc => (hx c hc).2.2.2.2.1) (no_code h.fig fun c hc => (hx c hc).2.2.2.2.2)
  rw [show (tstr (txt F)).cps.toList = txt F from rfl, esc_one] at hc
  exact hc
theorem rtxt_lt {k : Nat} (hk : k = 0 ∨ k = 1) {F : List Int} (hf : Fig F) : ∀ c ∈ rtxt k F, c < 128 ∧ altD k c ≠ 61 := by
  intro c hc
  rcases List.mem_append.mp hc with h | h
  · exact (row_vals hk F hf).2.2.1 c h
  · rw [(List.mem_replicate.mp h).2]
    refine ⟨by decide, ?_⟩
    unfold altD
    split <;> decide
theorem rtxt_len {k : Nat} (hk : k = 0 ∨ k = 1) {F : List Int} (h : Row4 F) : (rtxt k F).length ≤ 100000 := by
  have h1 := (row_vals hk F h.fig).2.2.2.2.2.1
  have h2 := h.small
  unfold rtxt padN
  rw [List.length_append, List.length_replicate]
  omega
theorem decT0 (w : World) (F : List Int) (t u : Tok) (h : Row4 F) : Con w 123 [.str (tstr (rtxt 0 F)) t, .bytes #[49, 48] u] [] 3 (fun _ => True) (fun _ _ v => ∃ t : Tok, v = .bytes (byteArr (octs (stepF 0 F))) t) := by
  have hk : (0 : Nat) = 0 ∨ (0 : Nat) = 1 := .inl rfl
  have hd := read_dec hk h.fig
  have hl := rtxt_lt hk h.fig
  have e : (tInts (tstr (rtxt 0 F))).map altD0 = ((rtxt 0 F).map fun (c : Nat) => (c : Int)).map (altD 0) := rfl
  have hc := b64dec0 w (tstr (rtxt 0 F)) t u (fun c hc => (hl c (by simpa [tstr] using hc)).1) (by rw [tstr_len]; exact rtxt_len hk h) (by
    rw [e]
    intro k hk'
    obtain ⟨c, hc, rfl⟩ := List.mem_map.mp hk'
    obtain ⟨d, hd', rfl⟩ := List.mem_map.mp hc
    exact (hl d hd').2) (by rw [e, hd])
  rw [e, hd] at hc
  exact hc
theorem decT1 (w : World) (F : List Int) (t u : Tok) (h : Row4 F) : Con w 123 [.str (tstr (rtxt 1 F)) t, .bytes #[120, 57] u] [] 3 (fun _ => True) (fun _ _ v => ∃ t : Tok, v = .bytes (byteArr (octs (stepF 1 F))) t) := by
  have hk : (1 : Nat) = 0 ∨ (1 : Nat) = 1 := .inr rfl
  have hd := read_dec hk h.fig
  have hl := rtxt_lt hk h.fig
  have e : (tInts (tstr (rtxt 1 F))).map altD1 = ((rtxt 1 F).map fun (c : Nat) => (c : Int)).map (altD 1) := rfl
  have hc := b64dec1 w (tstr (rtxt 1 F)) t u (fun c hc => (hl c (by simpa [tstr] using hc)).1) (by rw [tstr_len]; exact rtxt_len hk h) (by
    rw [e]
    intro k hk'
    obtain ⟨c, hc, rfl⟩ := List.mem_map.mp hk'
    obtain ⟨d, hd', rfl⟩ := List.mem_map.mp hc
    exact (hl d hd').2) (by rw [e, hd])
  rw [e, hd] at hc
  exact hc
end
-- part R3
section
open PySem PySem.W PyProof.Rows PySem.Calls
section
variable {prog : Program} {w : World} {A : Around} {E : Value → Shared → Prop} {s : Shared} {l a b c : List Nat} {t u : Tok} {Q : Value → Shared → Prop}
theorem len_t (hl : l.length ≤ 100000) (h : ∀ t' k, Q (.int (l.length : Int) t') { s with toks := k }) : wpAny (model prog w) A (call (.builtin "len") [.str (tstr l) t]) Q E s := by
  refine PyProof.Rows.len_str (by rw [tstr_len]; omega) ?_
  rw [tstr_len]
  exact h _ _
theorem count_t (h : ∀ t' k, Q (.int (l.count 38 : Int) t') { s with toks := k }) : wpAny (model prog w) A (call (.builtin "str.count") [.str (tstr l) t, .str (Str.ofString "&") u]) Q E s := by
  refine SC.count ?_
  have e : Str.ofString "&" = ⟨#[38]⟩ := by decide +kernel
  have : Txt.count (tstr l) (Str.ofString "&") = (l.count 38 : Int) := by
    rw [e]
    show ((Builtin.Str.occurrences (tstr l) ⟨#[38]⟩ 0 (tstr l).length ((tstr l).length + 1)).length : Int) = _
    rw [count_one]
    rfl
  rw [this]
  exact h _ _
theorem mul_a {x : Int} (h : ∀ t' k, Q (.str (tstr (List.replicate (x % 4).toNat 65)) t') { s with toks := k }) : wpAny (model prog w) A (binaryOp .Mult (.str (Str.ofString "A") t) (.int (x.fmod 4) u)) Q E s := by
  have e : x.fmod 4 = x % 4 := Int.fmod_eq_emod_of_nonneg x (by decide)
  rw [e]
  have h0 := Int.emod_nonneg x (by decide : (4 : Int) ≠ 0)
  have h1 := Int.emod_lt_of_pos x (by decide : (0 : Int) < 4)
  generalize x % 4 = n at *
  have eA : Str.ofString "A" = ⟨#[65]⟩ := by decide +kernel
  have hcase : n = 0 ∨ n = 1 ∨ n = 2 ∨ n = 3 := by omega
  refine SB.mul ?_ fun t' k => ?_
  · rcases hcase with rfl | rfl | rfl | rfl <;> exact mulOk_of 16 1048576 (by first | decide | omega) (by omega) (by omega) (by decide) (by decide)
  · have : Txt.mul (Str.ofString "A") n = tstr (List.replicate n.toNat 65) := by
      rw [eA]
      rcases hcase with rfl | rfl | rfl | rfl <;> rfl
    rw [this]
    exact h t' k
theorem add_t (e : a ++ b = c) (hc : c.length ≤ 100000) (h : ∀ t' k, Q (.str (tstr c) t') { s with toks := k }) : wpAny (model prog w) A (binaryOp .Add (.str (tstr a) t) (.str (tstr b) u)) Q E s := by
  subst e
  have e2 : tstr a ++ tstr b = tstr (a ++ b) := by
    apply Str.ext'
    rw [Str.cps_append]
    simp [tstr]
  refine SBL.add (fun t' k _ => ?_) ?_
  · rw [e2]
    exact h t' k
  · rw [tstr_len, tstr_len, sizeLine_eq]
    rw [List.length_append] at hc
    omega
end
end
-- part B8
section
open PySem PySem.W PyProof.Rows









theorem kw48 : True := by
  w_top off
  k_with_none
  (k_with "unf" => (
  (have kwhf : PySem.Challenge.rw_oy0089_01 = PySem.Challenge.rw_oy0089_01 ∧ _root_.Mine.hd.heap_39 = _root_.Mine.hd.heap_39 := by (k_fill; exact ⟨rfl, rfl⟩));
  clear kwhf;
  k_dflt (refine' enter ?kwk1 ?kwk2 ?kwk3 ?kwk5 ?kwkA ?kwkF ?kwkK ?kwk6 ?kwk7 ?kwk8 ?kwk9 ?kwkB ?_ ?kwc2 ?kwc3 ?kwc4 ?kwc5; (case kwkA => exact rfl); (case kwkF => exact rfl); (case kwkK => assumption); (case kwk1 => k_asm); (case kwk2 => k_asm); (case kwk3 => k_asm); (case kwk5 => k_asm); (case kwk6 => k_is); (case kwk7 => k_is); (case kwk8 => ktr_room); (case kwk9 => first | exact BindsTo.of_eq rfl | exact binds_K (by k_in) rfl (by k_is) rfl rfl rfl | fail "enter: no rule for these arguments"); (case kwc5 => decide); (case kwkB => exact locs rfl); (case kwc2 => exact rfl); (case kwc3 => exact rfl); (case kwc4 => exact rfl); k_whole; intro kwL' kwh' kwF' kwN' kwB' kwX' kwT'; (try dsimp only); (try k_fold))))
  (k_with "exec For Name Name cons nil" => (k_here; (rename Fr _ _ _ _ => kwlF'); (with_unfolding_all refine' For_invVF kwlF' ?kwk1 ?kwk2 ?_; (case kwk1 => exact rfl); (case kwk2 => exact rfl); k_whole)))
  (k_with "call builtin:len" => (k_here; (with_reducible refine len_t ?_ ?_); (assumption); intro _ _))
  (k_with "call builtin:str.count" => (k_here; (with_reducible refine count_t ?_); intro _ _))
  (k_with "binaryOp Mult str int" => (k_here; (with_reducible refine mul_a ?_); intro _ _))
  (k_with "binaryOp Add str str" => (k_here; (with_reducible refine' add_t ?kwe1 ?kwe2 ?_; (case kwe1 => assumption); (case kwe2 => assumption)); intro _ _))
  (k_with "call builtin:bytes.decode" => (k_here; (refine decode_txt (by assumption) ?_); intro _ _))
  (k_with "call ref" => (k_here; k_dflt (first
  | (refine' con_val (encT _ _ _ _ ?kwq1) ?kwk1 ?kwk2 ?kwk3 ?kwk4 ?kwk5 ?kwkK ?kwkd ?kwku ?kwkp ?_; (case kwq1 => assumption))
  | (refine' con_val (escT0 _ _ _ ?kwq1) ?kwk1 ?kwk2 ?kwk3 ?kwk4 ?kwk5 ?kwkK ?kwkd ?kwku ?kwkp ?_; (case kwq1 => assumption))
  | (refine' con_val (escT1 _ _ _ ?kwq1) ?kwk1 ?kwk2 ?kwk3 ?kwk4 ?kwk5 ?kwkK ?kwkd ?kwku ?kwkp ?_; (case kwq1 => assumption))
  | (refine' con_val (decT0 _ _ _ _ ?kwq1) ?kwk1 ?kwk2 ?kwk3 ?kwk4 ?kwk5 ?kwkK ?kwkd ?kwku ?kwkp ?_; (case kwq1 => assumption))
  | (refine' con_val (decT1 _ _ _ _ ?kwq1) ?kwk1 ?kwk2 ?kwk3 ?kwk4 ?kwk5 ?kwkK ?kwkd ?kwku ?kwkp ?_; (case kwq1 => assumption))); (case kwk1 => k_asm); (case kwk2 => k_asm); (case kwk3 => k_asm); (case kwk4 => k_asm); (case kwk5 => k_asm); (case kwkK => first | exact rfl | assumption); (case kwkd => ktr_room); (case kwku => ktr_units); (case kwkp => trivial); intro kwt9 kwh9 kwtk9 kwF9 kwN9; (try dsimp only); (try k_sweep)))
  trivial

theorem pad_eq {k : Nat} (hk : k = 0 ∨ k = 1) {F : List Int} (h : Row4 F) : etxt k F ++ List.replicate (-((etxt k F).length - 3 * (List.count 38 (etxt k F) : Int)) % 4).toNat 65 = rtxt k F := by
  have h1 := (row_vals hk F h.fig).2.1
  have e : ((etxt k F).length : Int) - 3 * (List.count 38 (etxt k F) : Int) = ((F.flatMap (gro k)).length : Int) := by
    rw [h1, Int.natCast_add, Int.natCast_mul]
    exact Int.add_sub_cancel _ _
  rw [e, pad_neg, Int.toNat_natCast]
  rfl

set_option maxHeartbeats 4000000 in
theorem step0 (w : World) (F : List Int) (t u : Tok) (h : Row4 F) : Con w 153 [.bytes (byteArr (octs F)) t, .int 0 u] [] 4 (fun _ => True) (fun _ _ v => ∃ t : Tok, v = .bytes (byteArr (octs (stepF 0 F))) t) := by
  intro p loose mean mg mb dp un gd cn cs a ccd cl outer A₀ base h₀ L m s Q E hB hF hX hT hK hd hu hp hret
  have hl1 : (etxt 0 F).length ≤ 100000 := by have h1 := (row_vals (.inl rfl) F h.fig).2.2.2.2.2.1; have h2 := h.small; omega
  have hA := pad_eq (k := 0) (.inl rfl) h
  have hA2 := rtxt_len (k := 0) (.inl rfl) h
  k_extra "unf"
  k_steps
  all_goals exact hret _ _ _ (Fr.keep (by k_asm)) ⟨_, rfl⟩

set_option maxHeartbeats 4000000 in
theorem step1 (w : World) (F : List Int) (t u : Tok) (h : Row4 F) : Con w 153 [.bytes (byteArr (octs F)) t, .int 1 u] [] 4 (fun _ => True) (fun _ _ v => ∃ t : Tok, v = .bytes (byteArr (octs (stepF 1 F))) t) := by
  intro p loose mean mg mb dp un gd cn cs a ccd cl outer A₀ base h₀ L m s Q E hB hF hX hT hK hd hu hp hret
  have hl1 : (etxt 1 F).length ≤ 100000 := by have h1 := (row_vals (.inr rfl) F h.fig).2.2.2.2.2.1; have h2 := h.small; omega
  have hA := pad_eq (k := 1) (.inr rfl) h
  have hA2 := rtxt_len (k := 1) (.inr rfl) h
  k_extra "unf"
  k_steps
  all_goals exact hret _ _ _ (Fr.keep (by k_asm)) ⟨_, rfl⟩
end
-- part L1
section
open PySem PySem.W PyProof.Rows
noncomputable abbrev LpLedF (l : Addr) (fixed : List (Addr × Obj)) : LoopS → List (Addr × Obj) := fun c => (l, W.listOf c.2.1 c.2.2) :: fixed
noncomputable def TurnEndG (h₀ : Heap) (L l : Addr) (fixed : List (Addr × Obj)) (ys stored : List Str) (x : Str) (m₀ : Str → Option Value) (P : List Value → Array Value → Prop) (own : List (Addr × Obj)) (s₁ : Shared) (Q : Flow → Shared → Prop) (f : Flow) (s₂ : Shared) : Prop :=
  InvPostN h₀ L (KstS (LpLedF l fixed) (LpPs ys) (fun _ => True) x stored m₀ (fun _ c => P c.1 c.2.1) []) own (l :: fixed.map (·.1)) s₁ Q f s₂
noncomputable def TurnEndV (h₀ : Heap) (L : Addr) (fixed : List (Addr × Obj)) (ys stored : List Str) (x : Str) (m₀ : Str → Option Value) (P : List Value → Prop) (own : List (Addr × Obj)) (s₁ : Shared) (Q : Flow → Shared → Prop) (f : Flow) (s₂ : Shared) : Prop :=
  InvPostN h₀ L (KstS (fun _ : List Value => fixed) (fun c => ys.zip c) (fun _ => True) x stored m₀ (fun _ c => P c) []) own (fixed.map (·.1)) s₁ Q f s₂
section
variable {prog : Program} {w : World} {A : Around} {E : Value → Shared → Prop} {s : Shared} {env : Env} {h₀ : Heap} {x : Str} {body : List Stmt} {Q : Flow → Shared → Prop}
theorem turn_nextG {L l : Addr} {fixed : List (Addr × Obj)} {ys stored : List Str} {m₀ m' : Str → Option Value} {P : List Value → Array Value → Prop} {own news' : List (Addr × Obj)} {s₁ : Shared} {h' : Heap} {tk n' : Nat} {vals' : List Value} {its' : Array Value} {f : Flow}
    (hf : f = .next ∨ f = .cont) (F : Fr h₀ L h' m') (N : News h₀ L h' news') (hn : (l, W.listOf its' n') ∈ news') (hx : ∀ p ∈ fixed, p ∈ news') (ho : ∀ p ∈ own, p ∈ news')
    (hps : ∀ p ∈ ys.zip vals', m' p.1 = some p.2) (hz : ∀ z, z ≠ x → (∀ p ∈ ys.zip vals', z ≠ p.1) → stored.contains z = false → m' z = m₀ z) (hp : P vals' its') :
    TurnEndG h₀ L l fixed ys stored x m₀ P own s₁ Q f { s₁ with heap := h', toks := tk } := by
  have e : InvEndN h₀ L (KstS (LpLedF l fixed) (LpPs ys) (fun _ => True) x stored m₀ (fun _ c => P c.1 c.2.1) []) own (l :: fixed.map (·.1)) s₁ { s₁ with heap := h', toks := tk } :=
    ⟨h', tk, m', news', (l, W.listOf its' n') :: fixed, rfl, F, N, fun p hp => by
      rcases List.mem_cons.mp hp with rfl | hp
      · exact hn
      · exact hx p hp, ho, rfl, ⟨(vals', its', n'), rfl, trivial, hps, hz, hp⟩⟩
  unfold TurnEndG InvPostN
  rcases hf with rfl | rfl <;> exact e
theorem turn_nextV {L : Addr} {fixed : List (Addr × Obj)} {ys stored : List Str} {m₀ m' : Str → Option Value} {P : List Value → Prop} {own news' : List (Addr × Obj)} {s₁ : Shared} {h' : Heap} {tk : Nat} {vals' : List Value} {f : Flow}
    (hf : f = .next ∨ f = .cont) (F : Fr h₀ L h' m') (N : News h₀ L h' news') (hx : ∀ p ∈ fixed, p ∈ news') (ho : ∀ p ∈ own, p ∈ news')
    (hps : ∀ p ∈ ys.zip vals', m' p.1 = some p.2) (hz : ∀ z, z ≠ x → (∀ p ∈ ys.zip vals', z ≠ p.1) → stored.contains z = false → m' z = m₀ z) (hp : P vals') :
    TurnEndV h₀ L fixed ys stored x m₀ P own s₁ Q f { s₁ with heap := h', toks := tk } := by
  have e : InvEndN h₀ L (KstS (fun _ : List Value => fixed) (fun c => ys.zip c) (fun _ => True) x stored m₀ (fun _ c => P c) []) own (fixed.map (·.1)) s₁ { s₁ with heap := h', toks := tk } :=
    ⟨h', tk, m', news', fixed, rfl, F, N, hx, ho, rfl, ⟨vals', rfl, trivial, hps, hz, hp⟩⟩
  unfold TurnEndV InvPostN
  rcases hf with rfl | rfl <;> exact e
theorem gen_loop {I : Addr} {fp wr : List Addr} {n : Nat} {Pv : Nat → Value → Prop} {St : Nat → Heap → Prop} {l : Addr} {fixed : List (Addr × Obj)} {its₀ : Array Value} {n₀ : Nat} {m₀ : Str → Option Value} (ys stored : List Str) (vals₀ : List Value) (P : Nat → List Value → Array Value → Prop)
    (Wk : Walks prog w A I fp wr n Pv St) (hLf : env.locals ∉ fp) (hwr : ∀ b ∈ wr, h₀.get? b = none) (hnw : ∀ p ∈ (l, W.listOf its₀ n₀) :: fixed, p.1 ∉ wr) (hfp : ∀ q ∈ (l, W.listOf its₀ n₀) :: fixed, q.1 ∉ fp) (hst : St 0 s.heap)
    (F : Fr h₀ env.locals s.heap m₀) (N : News h₀ env.locals s.heap ((l, W.listOf its₀ n₀) :: fixed)) (hk : ∀ p ∈ ys.zip vals₀, m₀ p.1 = some p.2) (hp : P 0 vals₀ its₀)
    (turn : ∀ i v vals its nn (u : Str → Option Value) h tk own, i < n → Pv i v → OwnOff own (l :: fixed.map (·.1)) → P i vals its →
      Fr h₀ env.locals h (fun y => if y = x then some v else kstB (fun z => if stored.contains z then u z else m₀ z) (ys.zip vals) y) → News h₀ env.locals h ((l, W.listOf its nn) :: (fixed ++ own)) →
      wpAny (model prog w) A (execs body env) (TurnEndG h₀ env.locals l fixed ys stored x m₀ (P (i + 1)) own { s with heap := h, toks := tk } Q) E { s with heap := h, toks := tk })
    (done : ∀ vals its nn (u : Str → Option Value) h tk, P n vals its → Fr h₀ env.locals h (fun y => if y = x then u y else kstB (fun z => if stored.contains z then u z else m₀ z) (ys.zip vals) y) → News h₀ env.locals h ((l, W.listOf its nn) :: fixed) → Q .next { s with heap := h, toks := tk }) :
    LoopAtV prog w A h₀ env x body Q E (.ref I) s := by
  refine loop_invN (fun i m nx => KstS (LpLedF l fixed) (LpPs ys) (fun _ => True) x stored m₀ (fun _ c => P i c.1 c.2.1) [] m nx) Wk hLf hwr hnw hfp hst F N ⟨(vals₀, its₀, n₀), rfl, trivial, hk, fun _ _ _ _ => rfl, hp⟩ ?_ ?_
  · rintro i v m₁ nx h tk own hi hv _ hoff ⟨c, rfl, _, h1, h2, hp'⟩ F₁ N₁
    refine wpAny_mono (turn i v c.1 c.2.1 c.2.2 m₁ h tk own hi hv hoff hp' (kst_fr h1 h2 F₁) N₁) (fun f s₂ p => ?_) fun _ _ y => y
    unfold TurnEndG at p
    exact p
  · rintro m₁ nx h tk ⟨c, rfl, _, h1, h2, hp'⟩ F₁ N₁
    exact done c.1 c.2.1 c.2.2 m₁ h tk hp' (kst_frOut h1 h2 F₁) N₁
theorem gen_loopV {I : Addr} {fp wr : List Addr} {n : Nat} {Pv : Nat → Value → Prop} {St : Nat → Heap → Prop} {fixed : List (Addr × Obj)} {m₀ : Str → Option Value} (ys stored : List Str) (vals₀ : List Value) (P : Nat → List Value → Prop)
    (Wk : Walks prog w A I fp wr n Pv St) (hLf : env.locals ∉ fp) (hwr : ∀ b ∈ wr, h₀.get? b = none) (hnw : ∀ p ∈ fixed, p.1 ∉ wr) (hfp : ∀ q ∈ fixed, q.1 ∉ fp) (hst : St 0 s.heap)
    (F : Fr h₀ env.locals s.heap m₀) (N : News h₀ env.locals s.heap fixed) (hk : ∀ p ∈ ys.zip vals₀, m₀ p.1 = some p.2) (hp : P 0 vals₀)
    (turn : ∀ i v vals (u : Str → Option Value) h tk own, i < n → Pv i v → OwnOff own (fixed.map (·.1)) → P i vals →
      Fr h₀ env.locals h (fun y => if y = x then some v else kstB (fun z => if stored.contains z then u z else m₀ z) (ys.zip vals) y) → News h₀ env.locals h (fixed ++ own) →
      wpAny (model prog w) A (execs body env) (TurnEndV h₀ env.locals fixed ys stored x m₀ (P (i + 1)) own { s with heap := h, toks := tk } Q) E { s with heap := h, toks := tk })
    (done : ∀ vals (u : Str → Option Value) h tk, P n vals → Fr h₀ env.locals h (fun y => if y = x then u y else kstB (fun z => if stored.contains z then u z else m₀ z) (ys.zip vals) y) → News h₀ env.locals h fixed → Q .next { s with heap := h, toks := tk }) :
    LoopAtV prog w A h₀ env x body Q E (.ref I) s := by
  refine loop_invN (fun i m nx => KstS (fun _ : List Value => fixed) (fun c => ys.zip c) (fun _ => True) x stored m₀ (fun _ c => P i c) [] m nx) Wk hLf hwr hnw hfp hst F N ⟨vals₀, rfl, trivial, hk, fun _ _ _ _ => rfl, hp⟩ ?_ ?_
  · rintro i v m₁ nx h tk own hi hv _ hoff ⟨c, rfl, _, h1, h2, hp'⟩ F₁ N₁
    refine wpAny_mono (turn i v c m₁ h tk own hi hv hoff hp' (kst_fr h1 h2 F₁) N₁) (fun f s₂ p => ?_) fun _ _ y => y
    unfold TurnEndV at p
    exact p
  · rintro m₁ nx h tk ⟨c, rfl, _, h1, h2, hp'⟩ F₁ N₁
    exact done c m₁ h tk hp' (kst_frOut h1 h2 F₁) N₁
theorem range_loop {r : Addr} {a₀ b₀ c₀ : Int} {t₀ u₀ v₀ : Tok} {n : Nat} {l : Addr} {fixed : List (Addr × Obj)} {its₀ : Array Value} {n₀ : Nat} {m₀ : Str → Option Value} (ys stored : List Str) (vals₀ : List Value) (P : Nat → List Value → Array Value → Prop)
    (hh : A.handled = none) (hr : IsRange s.heap r a₀ b₀ c₀ t₀ u₀ v₀) (hsmall : Builtin.Range.small a₀ b₀ c₀ = true) (hn : Builtin.Range.rangeSize a₀ b₀ c₀ = (n : Int))
    (F : Fr h₀ env.locals s.heap m₀) (N : News h₀ env.locals s.heap ((l, W.listOf its₀ n₀) :: fixed)) (hk : ∀ p ∈ ys.zip vals₀, m₀ p.1 = some p.2) (hp : P 0 vals₀ its₀)
    (turn : ∀ (i : Nat) t vals its nn (u : Str → Option Value) h tk own, i < n → OwnOff own (l :: fixed.map (·.1)) → P i vals its →
      Fr h₀ env.locals h (fun y => if y = x then some (.int (a₀ + i * c₀) t) else kstB (fun z => if stored.contains z then u z else m₀ z) (ys.zip vals) y) → News h₀ env.locals h ((l, W.listOf its nn) :: (fixed ++ own)) →
      wpAny (model prog w) A (execs body env) (TurnEndG h₀ env.locals l fixed ys stored x m₀ (P (i + 1)) own { s with heap := h, toks := tk } Q) E { s with heap := h, toks := tk })
    (done : ∀ vals its nn (u : Str → Option Value) h tk, P n vals its → Fr h₀ env.locals h (fun y => if y = x then u y else kstB (fun z => if stored.contains z then u z else m₀ z) (ys.zip vals) y) → News h₀ env.locals h ((l, W.listOf its nn) :: fixed) → Q .next { s with heap := h, toks := tk }) :
    wpAny (model prog w) A (pyIter (.ref r)) (fun it s₂ => LoopAtV prog w A h₀ env x body Q E it s₂) E s := by
  refine wpAny_pyIter_range hr hsmall ?_
  have W := Walks.range (prog := prog) (w := w) hh s.heap.objs.size a₀ c₀ n
  refine gen_loop ys stored vals₀ P W ?_ ?_ ?_ ?_ (by show IsRangeIter _ _ _ _ _; rw [hn]; simpa using Heap.get?_push_size _ rfl) (F.push _) (fun p hp => ⟨Heap.get?_push_of_some _ (N p hp).1, (N p hp).2⟩) hk hp ?_ ?_
  · intro hm
    exact absurd F.ns.lt ((List.mem_singleton.mp hm) ▸ Nat.lt_irrefl _)
  · intro b hb
    rw [List.mem_singleton.mp hb]
    exact next_is_new F
  · intro p hp hI
    exact absurd (Heap.lt_size (N p hp).1) ((List.mem_singleton.mp hI) ▸ Nat.lt_irrefl _)
  · intro p hp hI
    exact absurd (Heap.lt_size (N p hp).1) ((List.mem_singleton.mp hI) ▸ Nat.lt_irrefl _)
  · rintro i v vals its nn u h tk own hi ⟨t, rfl⟩ hoff hp' F' N'
    exact turn i t vals its nn u h tk own hi hoff hp' F' N'
  · exact done
end
end
-- part B9
section
open PySem PySem.W PyProof.Rows

theorem oct1 {a u v p q d : Int} : (v * 4096 + p * 256 + q * 64 + d) + 65536 * (a * 4 + u) = ((a * 64 + (16 * u + v)) * 64 + (4 * p + q)) * 64 + d ∧ (q * 64 + d) + 256 * ((v * 16 + p) + 256 * (a * 4 + u)) = ((a * 64 + (16 * u + v)) * 64 + (4 * p + q)) * 64 + d := by constructor <;> omega
theorem oct2 {X a u v p q d : Int} (e : (v * 4096 + p * 256 + q * 64 + d) + 65536 * (a * 4 + u) = X) (f : (q * 64 + d) + 256 * ((v * 16 + p) + 256 * (a * 4 + u)) = X) (v0 : 0 ≤ v ∧ v < 16) (p0 : 0 ≤ p ∧ p < 16) (q0 : 0 ≤ q ∧ q < 4) (d0 : 0 ≤ d ∧ d < 64) : X.fdiv 65536 = a * 4 + u ∧ (X.fdiv 256).fmod 256 = v * 16 + p ∧ X.fmod 256 = q * 64 + d := by
  have g := dm (n := 256) _ (by omega) (by omega) f
  rw [Int.fdiv_eq_ediv_of_nonneg _ (by decide), Int.fdiv_eq_ediv_of_nonneg _ (by decide), Int.fmod_eq_emod_of_nonneg _ (by decide), Int.fmod_eq_emod_of_nonneg _ (by decide), g.1]
  exact ⟨(dm (n := 65536) _ (by omega) (by omega) e).1, (dm _ (by omega) (by omega) rfl).2, g.2⟩
theorem emod_in (b : Int) {n : Int} (h : 0 < n) : 0 ≤ b % n ∧ b % n < n := ⟨Int.emod_nonneg _ (Int.ne_of_gt h), Int.emod_lt_of_pos _ h⟩
theorem oct3 {a b c d : Int} (c0 : 0 ≤ c) (c1 : c < 64) (d0 : 0 ≤ d) (d1 : d < 64) : (((a * 64 + b) * 64 + c) * 64 + d).fdiv 65536 = a * 4 + b / 16 ∧ ((((a * 64 + b) * 64 + c) * 64 + d).fdiv 256).fmod 256 = b % 16 * 16 + c / 4 ∧ (((a * 64 + b) * 64 + c) * 64 + d).fmod 256 = c % 4 * 64 + d := by
  have e := @oct1 a (b / 16) (b % 16) (c / 4) (c % 4) d
  rw [Int.mul_ediv_add_emod, Int.mul_ediv_add_emod] at e
  exact oct2 e.1 e.2 (emod_in _ (by decide)) (part_in (by decide) c0 c1) (emod_in _ (by decide)) ⟨d0, d1⟩
theorem small_of {n : Nat} (h : n ≤ 2000) : Builtin.Range.small 0 (n : Int) 4 = true := by
  have h1 : Builtin.Range.rangeSize 0 (n : Int) 4 ≤ 2000 ∧ 0 ≤ Builtin.Range.rangeSize 0 (n : Int) 4 := by
    simp only [Builtin.Range.rangeSize]
    split <;> (try split) <;> omega
  generalize hz : Builtin.Range.rangeSize 0 (n : Int) 4 = z at h1
  unfold Builtin.Range.small
  rw [hz]
  have f1 : ∀ k : Int, 0 ≤ k → k ≤ 3000 → Builtin.Range.rangeFitsLong k = true := by
    intro k k0 k1
    simp only [Builtin.Range.rangeFitsLong]
    simp
    omega
  rw [f1 0 (by omega) (by omega), f1 _ (by omega) (by omega), f1 4 (by omega) (by omega), f1 z (by omega) (by omega), if_pos (by decide), f1 _ (by omega) (by omega)]
  simp
theorem take_four {F : List Int} {i : Nat} {a b c d : Int} (ha : F[4 * i]? = some a) (hb : F[4 * i + 1]? = some b) (hc : F[4 * i + 2]? = some c) (hd : F[4 * i + 3]? = some d) : F.take (4 * (i + 1)) = F.take (4 * i) ++ [a, b, c, d] := by
  rw [show 4 * (i + 1) = 4 * i + 1 + 1 + 1 + 1 by omega, List.take_add_one, List.take_add_one, List.take_add_one, List.take_add_one, ha, hb, hc, hd]
  simp
theorem octs_app {V : List Int} (h4 : Fours V) (a b c d : Int) : octs (V ++ [a, b, c, d]) = octs V ++ [a * 4 + b / 16, (b % 16) * 16 + c / 4, (c % 4) * 64 + d] := by
  induction h4 with
  | nil => rfl
  | cons e f g h r _ ih =>
    show octs (e :: f :: g :: h :: (r ++ [a, b, c, d])) = _
    simp only [octs, ih, List.cons_append]
theorem ints_app3 {its : Array Value} {ns : List Int} {x y z : Int} {t u v : Tok} (h : IntsAre its.toList ns) : IntsAre (its.toList ++ [.int x t, .int y u, .int z v]) (ns ++ [x, y, z]) := h.append (.cons x t (.cons y u (.cons z v .nil)))
open PySem PySem.W PyProof.Rows




theorem ext_ok {its : Array Value} {n : Nat} (h : its.size ≤ 3000) (hn : n ≤ 3) : ¬(!its.isEmpty && Builtin.List.listTooLong (its.size + n)) = true := by
  have : Builtin.List.listTooLong (its.size + n) = false := by
    unfold Builtin.List.listTooLong
    have := sizeLine_eq
    simp
    omega
  rw [this]; simp
theorem kw54 : True := by
  w_top off
  k_with_none
  (k_with "unf" => (
  (have kwhf : PySem.Challenge.rw_oy0089_01 = PySem.Challenge.rw_oy0089_01 ∧ _root_.Mine.hd.heap_39 = _root_.Mine.hd.heap_39 := by (k_fill; exact ⟨rfl, rfl⟩));
  clear kwhf;
  k_dflt (refine' enter ?kwk1 ?kwk2 ?kwk3 ?kwk5 ?kwkA ?kwkF ?kwkK ?kwk6 ?kwk7 ?kwk8 ?kwk9 ?kwkB ?_ ?kwc2 ?kwc3 ?kwc4 ?kwc5; (case kwkA => exact rfl); (case kwkF => exact rfl); (case kwkK => assumption); (case kwk1 => k_asm); (case kwk2 => k_asm); (case kwk3 => k_asm); (case kwk5 => k_asm); (case kwk6 => k_is); (case kwk7 => k_is); (case kwk8 => ktr_room); (case kwk9 => first | exact BindsTo.of_eq rfl | exact binds_K (by k_in) rfl (by k_is) rfl rfl rfl | fail "enter: no rule for these arguments"); (case kwc5 => decide); (case kwkB => exact locs rfl); (case kwc2 => exact rfl); (case kwc3 => exact rfl); (case kwc4 => exact rfl); k_whole; intro kwL' kwh' kwF' kwN' kwB' kwX' kwT'; (try dsimp only); (try k_fold))))
  (k_with "exec For Name Name cons nil" => (k_here; (rename Fr _ _ _ _ => kwlF'); (with_unfolding_all refine' For_invVF kwlF' ?kwk1 ?kwk2 ?_; (case kwk1 => exact rfl); (case kwk2 => exact rfl); k_whole)))
  (k_with "pyIter ref" => (k_here; (with_reducible show wpAny _ _ (pyIter (Value.ref _)) (fun it s₂ => LoopAtV _ _ _ _ _ _ _ _ _ it s₂) _ _); refine unstop ?_))
  (k_with "call builtin:list.extend" => (k_here; (with_reducible show wpAny _ _ (call (Value.builtin _) [Value.ref _, Value.ref _]) _ _ _); k_dflt (refine' kl_extend ?kwF ?kwN ?kwb rfl ?kwne ?kwU ?kwd ?kwz ?kwy ?_; (case kwF => k_asm); (case kwN => k_asm); (case kwb => k_mem); (case kwU => k_upd); (case kwne => simp); (case kwd => exact ext_ok (by assumption) (by simp)); (case kwz => (rw [Array.length_toList, sizeLine_eq]; omega)); (case kwy => (rw [sizeLine_eq]; simp; omega))); intro kwh' kwF' kwN'))
  trivial

set_option maxHeartbeats 4000000 in
theorem octets (w : World) (F : List Int) (l : Addr) (hf : Fig F) (h4 : F.length % 4 = 0) (hs : F.length ≤ 2000) : Con w 146 [.ref l] [] 1 (fun h => ∃ vs : List Value, h.IsList l vs.toArray ∧ IntsAre vs F) (fun _ _ v => ∃ t : Tok, v = .bytes (byteArr (octs F)) t) := by
  rintro p loose mean mg mb dp un gd cn cs a ccd cl outer A₀ base h₀ L m s Q E hB hF hX hT hK hd hu ⟨vs, hL, hI⟩ hret
  have hvl : vs.length = F.length := hI.length
  k_extra "unf"
  k_steps
  rename IsRange _ _ _ _ _ _ _ _ => hr
  rename Fr _ _ _ _ => lF'
  rename News _ _ _ _ => lN'
  refine range_loop (n := F.length / 4) (fixed := []) [] [Str.ofString "whole"] [] (fun i _ its => IntsAre its.toList (octs (F.take (4 * i)))) rfl hr (small_of hs) (by simp only [Builtin.Range.rangeSize]; split <;> (try split) <;> omega) lF' lN' (fun p hp => nomatch hp) (by simpa [octs] using IntsAre.nil) ?_ ?_
  · intro i tk0 vals its nn u h tk own hi hoff hP F1 N1
    clear lF' lN' hret
    have hi4 : 4 * i + 3 < F.length := by omega
    obtain ⟨fa, ha⟩ : ∃ fa, F[4 * i]? = some fa := ⟨_, List.getElem?_eq_getElem (Nat.lt_of_succ_lt (Nat.lt_of_succ_lt (Nat.lt_of_succ_lt hi4)))⟩
    obtain ⟨fb, hb⟩ : ∃ fb, F[4 * i + 1]? = some fb := ⟨_, List.getElem?_eq_getElem (Nat.lt_of_succ_lt (Nat.lt_of_succ_lt hi4))⟩
    obtain ⟨fc, hc⟩ : ∃ fc, F[4 * i + 2]? = some fc := ⟨_, List.getElem?_eq_getElem (Nat.lt_of_succ_lt hi4)⟩
    obtain ⟨fd, hd'⟩ : ∃ fd, F[4 * i + 3]? = some fd := ⟨_, List.getElem?_eq_getElem hi4⟩
    have ba := hf fa (List.mem_of_getElem? ha)
    have bb := hf fb (List.mem_of_getElem? hb)
    have bc := hf fc (List.mem_of_getElem? hc)
    have bd := hf fd (List.mem_of_getElem? hd')
    have f4 : (F.take (4 * i)).length % 4 = 0 := by rw [List.length_take, Nat.min_eq_left (by omega)]; exact Nat.mul_mod_right 4 i
    have e4 := octs_app (fours f4) fa fb fc fd
    rw [← take_four ha hb hc hd'] at e4
    rw [e4]
    generalize hk : (0 : Int) + (i : Int) * 4 = k at F1
    have hk0 : 0 ≤ k := by omega
    have hk1 : k < 2000 := by omega
    have kj : ∀ j : Nat, (k + (j : Int)).toNat = 4 * i + j := by intro j; omega
    have e0 : k.toNat = 4 * i := by have := kj 0; simpa using this
    have ga : F[k.toNat]? = some fa := by rw [e0]; exact ha
    have gb : F[(k + 1).toNat]? = some fb := (congrArg (F[·]?) (kj 1)).trans hb
    have gc : F[(k + 2).toNat]? = some fc := (congrArg (F[·]?) (kj 2)).trans hc
    have gd' : F[(k + 3).toNat]? = some fd := (congrArg (F[·]?) (kj 3)).trans hd'
    have k1 : 0 ≤ k + 1 := Int.add_nonneg hk0 (by decide)
    have k2 : 0 ≤ k + 2 := Int.add_nonneg hk0 (by decide)
    have k3 : 0 ≤ k + 3 := Int.add_nonneg hk0 (by decide)
    have m0 : k < 2 ^ 63 := Int.lt_trans hk1 (by decide)
    have m1 : k + 1 < 2 ^ 63 := Int.lt_trans (Int.add_lt_add_right hk1 1) (by decide)
    have m2 : k + 2 < 2 ^ 63 := Int.lt_trans (Int.add_lt_add_right hk1 2) (by decide)
    have m3 : k + 3 < 2 ^ 63 := Int.lt_trans (Int.add_lt_add_right hk1 3) (by decide)
    have n3 : k + 3 < (F.length : Int) := by omega
    have n2 : k + 2 < (F.length : Int) := Int.lt_trans (Int.add_lt_add_left (by decide : (2 : Int) < 3) k) n3
    have n1 : k + 1 < (F.length : Int) := Int.lt_trans (Int.add_lt_add_left (by decide : (1 : Int) < 3) k) n3
    have n0 : k < (F.length : Int) := Int.lt_trans (Int.lt_add_of_pos_right k (by decide : (0 : Int) < 3)) n3
    have hol : (octs (F.take (4 * i))).length ≤ 3000 := by
      have := octs_length (fours f4)
      rw [List.length_take] at this
      omega
    have hsz : its.size ≤ 3000 := by have := hP.length; simp only [Array.length_toList] at this; omega
    simp only [List.nil_append] at N1
    dsimp only [kstB, List.zip, List.zipWith] at F1
    obtain ⟨ba0, ba1⟩ := ba
    obtain ⟨bb0, bb1⟩ := bb
    obtain ⟨bc0, bc1⟩ := bc
    obtain ⟨bd0, bd1⟩ := bd
    generalize octs (F.take (4 * i)) = O at *
    have da : F.getD k.toNat 0 = fa := by rw [List.getD_eq_getElem?_getD, ga]; rfl
    have db : F.getD (k + 1).toNat 0 = fb := by rw [List.getD_eq_getElem?_getD, gb]; rfl
    have dc : F.getD (k + 2).toNat 0 = fc := by rw [List.getD_eq_getElem?_getD, gc]; rfl
    have dd : F.getD (k + 3).toNat 0 = fd := by rw [List.getD_eq_getElem?_getD, gd']; rfl
    k_steps
    all_goals (refine turn_nextG (vals' := []) (.inl rfl) (by k_asm) (by k_asm) (by k_mem) (List.forall_mem_nil _) (by (intro p hp; k_ownIn)) (List.forall_mem_nil _) ?_ ?_)
    · intro z z1 _ z3
      have z4 : z ≠ Str.ofString "whole" := by intro e; subst e; exact absurd z3 (by decide)
      repeat (first | rfl | refine (if_neg (by assumption)).trans ?_ | (simp only [z3, Bool.false_eq_true, if_false]; rfl))
    · rw [da, db, dc, dd]
      obtain ⟨e1, e2, e3⟩ := oct3 (a := fa) (b := fb) bc0 bc1 bd0 bd1
      rw [e1, e2, e3]
      exact ints_app3 hP
  · intro vals its nn u h tk hP F1 N1
    clear lF' lN'
    rw [List.take_of_length_le (by omega)] at hP
    have hin : KBa.In (octs F) := octs_in (fours h4) hf
    have hl2 : (octs F).length ≤ 16777216 := by have := octs_length (fours h4); omega
    obtain ⟨its⟩ := its
    dsimp only at hP
    dsimp only [kstB, List.zip, List.zipWith] at F1
    k_steps
    all_goals exact hret _ _ _ (Fr.keep (by k_asm)) ⟨_, rfl⟩
end
-- part R4
section
open PySem PySem.W PyProof.Rows PySem.Calls
structure ItAt (o : Obj) (l : Addr) (i : Nat) : Prop where
  cls : o.cls = .type "list_iterator"
  data : o.data = .fields #[.ref l, .int i 0]
section
variable {prog : Program} {w : World} {A : Around} {E : Value → Shared → Prop} {s : Shared} {h₀ : Heap} {L l it : Addr} {m : Str → Option Value} {news : List (Addr × Obj)} {items : Array Value} {o : Obj} {i : Nat} {x : Value}
theorem call_iter {Q : Value → Shared → Prop} (F : Fr h₀ L s.heap m) (N : News h₀ L s.heap news) (hl : h₀.IsList l items)
    (h : ∀ (I : Addr) h' o', Fr h₀ L h' m → News h₀ L h' ((I, o') :: news) → (∀ p ∈ news, p.1 < I) → ItAt o' l 0 → Q (.ref I) { s with heap := h' }) :
    wpAny (model prog w) A (call (.builtin "iter") [.ref l]) Q E s := by
  refine call_function_entry (by decide +kernel) (by decide +kernel) kdk_entry_iter (kdk_args_iter _) ?_
  unfold Builtin.«iter»
  refine wpAny_bind (m := someArgs "iter" 1 2 _) (wpAny_of_eq (a := [Value.ref l]) (by first | rfl | kernel_rfl!) ?_)
  show wpAny _ _ (pyIter (.ref l) >>= _) _ _ _
  refine wpAny_bind (wpAny_pyIter_list (hl.at fun o e => F.keep l o e) ?_)
  exact wpAny_pure ⟨_, rfl, h _ _ _ (F.push _) (News.push F N _ rfl) (fun q hq => Heap.lt_size (N q hq).1) ⟨rfl, rfl⟩⟩
theorem call_next {Q : Value → Shared → Prop} (F : Fr h₀ L s.heap m) (N : News h₀ L s.heap [(it, o)]) (hi : ItAt o l i) (hl : h₀.IsList l items) (hx : items[i]? = some x)
    (h : ∀ h' o', Fr h₀ L h' m → News h₀ L h' [(it, o')] → ItAt o' l (i + 1) → Q x { s with heap := h' }) :
    wpAny (model prog w) A (call (.builtin "next") [.ref it]) Q E s := by
  have hm := N (it, o) (.head _)
  have hit : s.heap.IsListIter it l i := ⟨o, hm.1, hi.cls, hi.data⟩
  have hls : s.heap.IsList l items := hl.at fun o e => F.keep l o e
  refine call_function_entry (by decide +kernel) (by decide +kernel) kdk_entry_next (kdk_args_next _) ?_
  unfold Builtin.«next»
  refine wpAny_bind (m := someArgs "next" 1 2 _) (wpAny_of_eq (a := [Value.ref it]) (by first | rfl | kernel_rfl!) ?_)
  dsimp only
  refine wpAny_bind (wpAny_specialOf (name := Str.ofString "__next__") hit.typeIs slot_listiter_next.lookup ?_)
  refine wpAny_ite_split (fun hab => absurd hab (by decide)) (fun _ => ?_)
  obtain ⟨oi, ho, hc, hd⟩ := id hit
  obtain ⟨ol, hol, _, nl, hdl⟩ := hls
  refine wpAny_bind (wpAny_callSpecial?_slot (name := Str.ofString "__next__") hit.typeIs slot_listiter_next
    (wpAny_call_entry slot_listiter_next hit.typeIs entry_listiter_next ?_ (args_listiter_next _)))
  show wpAny _ _ (field (.ref it) 0 >>= _) _ _ s
  refine wpAny_bind (wpAny_field ho hd (x := .ref l) rfl ?_)
  show wpAny _ _ (if (Value.ref l == Value.none) = true then _ else _) _ _ s
  rw [if_neg (show ¬ ((Value.ref l == Value.none) = true) from Bool.false_ne_true)]
  show wpAny _ _ (field (.ref it) 1 >>= _) _ _ s
  refine wpAny_bind (wpAny_field ho hd (x := .int i 0) rfl ?_)
  show wpAny _ _ (seqItems? (.ref l) >>= _) _ _ s
  refine wpAny_bind (wpAny_seqItems hol hdl ?_)
  simp only [Int.toNat_natCast, hx]
  have hs : Heap.SameBut it s.heap (s.heap.update it (Obj.mapFields (·.setIfInBounds 1 (rawInt ((i : Int) + 1))))) := Heap.SameBut.update ..
  have hg := Heap.get?_update_self (Obj.mapFields (·.setIfInBounds 1 (rawInt ((i : Int) + 1)))) ho (Obj.isFreed_of_fields (Obj.data_mapFields hd _))
  refine wpAny_bind (wpAny_setField ho hd (by simp) (wpAny_pure ⟨x, rfl, wpAny_pure ⟨_, rfl, h _ (Obj.mapFields (·.setIfInBounds 1 (rawInt ((i : Int) + 1))) oi) (F.change hs hm.2.1 hm.2.2) ?_ ?_⟩⟩))
  · intro p hp
    rw [List.mem_singleton.mp hp]
    exact ⟨hg, hm.2⟩
  · exact ⟨(Obj.cls_mapFields ..).trans hc, by rw [Obj.data_mapFields hd]; simp [rawInt]⟩
theorem walks_from (hh : A.handled = none) (I ax : Addr) (hne : ax ≠ I) (items : Array Value) (j : Nat) (hj : j ≤ items.size) :
    Walks prog w A I [I, ax] [I] (items.size - j) (fun i v => items[i + j]? = some v) (fun i h => h.IsListIter I ax (i + j) ∧ h.IsList ax items) := by
  have W := Walks.list (prog := prog) (w := w) hh I ax hne items
  refine ⟨W.sub, fun i => W.frame (i + j), fun i s Q E hi st hQ => W.item (i + j) s Q E (by omega) st fun v h' tk hp st' k => hQ v h' tk hp (by rw [show i + 1 + j = i + j + 1 by omega]; exact st') k, fun s Q E st hQ => W.done s Q E (by rw [show items.size - j + j = items.size by omega] at st; exact st) hQ, fun i => W.self (i + j)⟩
variable {env : Env} {xn : Str} {body : List Stmt} {Q : Flow → Shared → Prop}
theorem iter_loopV {m₀ : Str → Option Value} {j : Nat} (ys stored : List Str) (vals₀ : List Value) (P : Nat → List Value → Prop)
    (hh : A.handled = none) (hl : h₀.IsList l items) (hj : j ≤ items.size) (F : Fr h₀ env.locals s.heap m₀) (N : News h₀ env.locals s.heap [(it, o)]) (hi : ItAt o l j) (hk : ∀ p ∈ ys.zip vals₀, m₀ p.1 = some p.2) (hp : P 0 vals₀)
    (turn : ∀ (i : Nat) v vals (u : Str → Option Value) h tk own, i < items.size - j → items[i + j]? = some v → P i vals →
      Fr h₀ env.locals h (fun y => if y = xn then some v else kstB (fun z => if stored.contains z then u z else m₀ z) (ys.zip vals) y) → News h₀ env.locals h own →
      wpAny (model prog w) A (execs body env) (TurnEndV h₀ env.locals [] ys stored xn m₀ (P (i + 1)) own { s with heap := h, toks := tk } Q) E { s with heap := h, toks := tk })
    (done : ∀ vals (u : Str → Option Value) h tk, P (items.size - j) vals → Fr h₀ env.locals h (fun y => if y = xn then u y else kstB (fun z => if stored.contains z then u z else m₀ z) (ys.zip vals) y) → Q .next { s with heap := h, toks := tk }) :
    wpAny (model prog w) A (pyIter (.ref it)) (fun it s₂ => LoopAtV prog w A h₀ env xn body Q E it s₂) E s := by
  have hm := N (it, o) (.head _)
  have hit : s.heap.IsListIter it l j := ⟨o, hm.1, hi.cls, hi.data⟩
  have hls : s.heap.IsList l items := hl.at fun o e => F.keep l o e
  obtain ⟨ol, hol, _⟩ := id hl
  have hne : l ≠ it := fun e => by rw [e, hm.2.2] at hol; cases hol
  have hLl : env.locals ≠ l := fun e => by
    have := Heap.lt_size hol
    rw [← e] at this
    exact absurd F.above (Nat.not_le.mpr this)
  refine wpAny_pyIter_listiter hit ?_
  refine gen_loopV (fixed := []) ys stored vals₀ P (walks_from hh it l hne items j hj) ?_ ?_ (fun p hp => nomatch hp) (fun p hp => nomatch hp) ⟨by simpa using hit, hls⟩ F News.nil hk hp ?_ ?_
  · intro hx
    rcases List.mem_cons.mp hx with e | hx
    · exact hm.2.1 e.symm
    · exact hLl (List.mem_singleton.mp hx)
  · intro b hb
    rw [List.mem_singleton.mp hb]
    exact hm.2.2
  · intro i v vals u h tk own hi' hv _ hp' F' N'
    exact turn i v vals u h tk own hi' hv hp' F' N'
  · intro vals u h tk hp' F' _
    exact done vals u h tk hp' F'
end
noncomputable def stepN (k : Nat) : Nat → List Int → List Int
  | 0, F => F
  | n + 1, F => stepF k (stepN k n F)
theorem step_len {k : Nat} (hk : k = 0 ∨ k = 1) {F : List Int} (hf : Fig F) : F.length ≤ (stepF k F).length ∧ (stepF k F).length ≤ 2 * F.length + 3 := by
  have h := (row_vals hk F hf).2.2.2.2
  unfold stepF
  rw [List.length_append, List.length_replicate]
  exact ⟨Nat.le_trans h.1 (Nat.le_add_right _ _), Nat.add_le_add h.2.2 (Nat.le_of_lt_succ (pad_lt _))⟩
theorem stepN_row {k : Nat} (hk : k = 0 ∨ k = 1) {F : List Int} (h : Row4 F) (h8 : F.length ≤ 8) : ∀ n, Fig (stepN k n F) ∧ (stepN k n F).length % 4 = 0 ∧ F.length ≤ (stepN k n F).length ∧ (stepN k n F).length + 3 ≤ 11 * 2 ^ n
  | 0 => ⟨h.fig, h.four, Nat.le_refl _, by show F.length + 3 ≤ 11 * 1; omega⟩
  | n + 1 => by
    obtain ⟨a, b, c, d⟩ := stepN_row hk h h8 n
    have hs := step_len hk a
    refine ⟨step_fig hk a, step_length, Nat.le_trans c hs.1, ?_⟩
    show (stepF k (stepN k n F)).length + 3 ≤ _
    rw [Nat.pow_succ]
    omega
theorem stepN_row4 {k : Nat} (hk : k = 0 ∨ k = 1) {F : List Int} (h : Row4 F) (h8 : F.length ≤ 8) {n : Nat} (hn : n ≤ 6) : Row4 (stepN k n F) := by
  obtain ⟨a, b, c, d⟩ := stepN_row hk h h8 n
  have : 2 ^ n ≤ 2 ^ 6 := Nat.pow_le_pow_right (by decide) hn
  have e : (2 : Nat) ^ 6 = 64 := by decide
  exact ⟨b, a, Nat.lt_of_lt_of_le h.pos c, by omega⟩
end
-- part B10
section
open PySem PySem.W PyProof.Rows








theorem kw62 : True := by
  w_top off
  k_with_none
  (k_with "unf" => (
  (have kwhf : PySem.Challenge.rw_oy0089_01 = PySem.Challenge.rw_oy0089_01 ∧ _root_.Mine.hd.heap_39 = _root_.Mine.hd.heap_39 := by (k_fill; exact ⟨rfl, rfl⟩));
  clear kwhf;
  k_dflt (refine' enter ?kwk1 ?kwk2 ?kwk3 ?kwk5 ?kwkA ?kwkF ?kwkK ?kwk6 ?kwk7 ?kwk8 ?kwk9 ?kwkB ?_ ?kwc2 ?kwc3 ?kwc4 ?kwc5; (case kwkA => exact rfl); (case kwkF => exact rfl); (case kwkK => assumption); (case kwk1 => k_asm); (case kwk2 => k_asm); (case kwk3 => k_asm); (case kwk5 => k_asm); (case kwk6 => k_is); (case kwk7 => k_is); (case kwk8 => ktr_room); (case kwk9 => first | exact BindsTo.of_eq rfl | exact binds_K (by k_in) rfl (by k_is) rfl rfl rfl | fail "enter: no rule for these arguments"); (case kwc5 => decide); (case kwkB => exact locs rfl); (case kwc2 => exact rfl); (case kwc3 => exact rfl); (case kwc4 => exact rfl); k_whole; intro kwL' kwh' kwF' kwN' kwB' kwX' kwT'; (try dsimp only); (try k_fold))))
  (k_with "exec For Name Name cons nil" => (k_here; (rename Fr _ _ _ _ => kwlF'); (with_unfolding_all refine' For_invVF kwlF' ?kwk1 ?kwk2 ?_; (case kwk1 => exact rfl); (case kwk2 => exact rfl); k_whole)))
  (k_with "pyIter ref" => (k_here; (with_reducible show wpAny _ _ (pyIter (Value.ref _)) (fun it s₂ => LoopAtV _ _ _ _ _ _ _ _ _ it s₂) _ _); refine unstop ?_))
  (k_with "compareOp Is" => (k_here; (with_reducible show wpAny _ _ (compareOp CmpOp.Is (Value.bytes _ _) (Value.ref _)) _ _ _); refine wpAny_is_other (by rfl) (by intro kwx; cases kwx) ?_))
  (k_with "call builtin:iter" => (k_here; k_dflt (refine' call_iter ?kwF ?kwN ?kwl ?_; (case kwF => k_asm); (case kwN => k_asm); (case kwl => assumption)); intro kwI' kwh' kwo' kwF' kwN' kwl1 kwhi'))
  (k_with "call builtin:next" => (k_here; k_dflt (refine' call_next ?kwF ?kwN ?kwi ?kwl ?kwx ?_; (case kwF => k_asm); (case kwN => k_asm); (case kwi => assumption); (case kwl => assumption); (case kwx => rfl)); intro kwh' kwo' kwF' kwN' kwhi'))
  (k_with "call ref" => (k_here; k_dflt (first
  | (refine' con_val (step0 _ _ _ _ ?kwq1) ?kwk1 ?kwk2 ?kwk3 ?kwk4 ?kwk5 ?kwkK ?kwkd ?kwku ?kwkp ?_; (case kwq1 => assumption))
  | (refine' con_val (step1 _ _ _ _ ?kwq1) ?kwk1 ?kwk2 ?kwk3 ?kwk4 ?kwk5 ?kwkK ?kwkd ?kwku ?kwkp ?_; (case kwq1 => assumption))); (case kwk1 => k_asm); (case kwk2 => k_asm); (case kwk3 => k_asm); (case kwk4 => k_asm); (case kwk5 => k_asm); (case kwkK => first | exact rfl | assumption); (case kwkd => ktr_room); (case kwku => ktr_units); (case kwkp => trivial); intro kwt9 kwh9 kwtk9 kwF9 kwN9; (try dsimp only); (try k_sweep)))
  trivial

set_option maxHeartbeats 4000000 in
theorem reduce0 (w : World) (F : List Int) (l : Addr) (n : Nat) (t : Tok) (h : Row4 F) (h8 : F.length ≤ 8) (hn : n ≤ 6) : Con w 132 [.ref 153, .ref l, .bytes (byteArr (octs F)) t] [] 6 (fun h => ∃ vs : List Value, h.IsList l vs.toArray ∧ IntsAre vs (List.replicate n 0)) (fun _ _ v => ∃ t : Tok, v = .bytes (byteArr (octs (stepN 0 n F))) t) := by
  rintro p loose mean mg mb dp un gd cn cs a ccd cl outer A₀ base h₀ L m s Q E hB hF hX hT hK hd hu ⟨vs, hL, hI⟩ hret
  have hvl : vs.length = n := by rw [hI.length, List.length_replicate]
  have hsz : vs.toArray.size - 0 = n := by simp [hvl]
  k_extra "unf"
  k_steps
  rename ItAt _ _ _ => hit
  rename Fr _ _ _ _ => lF'
  rename News _ _ _ _ => lN'
  refine iter_loopV (j := 0) [Str.ofString "value"] [] [.bytes _ _] (fun i vals => ∃ t, vals = [.bytes (byteArr (octs (stepN 0 i F))) t]) rfl hL (by simp) lF' lN' hit (List.forall_mem_cons.mpr ⟨rfl, List.forall_mem_nil _⟩) ⟨_, rfl⟩ ?_ ?_
  · rintro i v vals u h' tk own hi hv ⟨tv, rfl⟩ F1 N1
    rw [hsz] at hi
    have hv' : vs[i]? = some v := by simpa using hv
    obtain ⟨k', u', rfl, hk'⟩ := hI.at i v hv'
    obtain rfl : k' = 0 := by
      have := List.mem_of_getElem? hk'
      exact (List.mem_replicate.mp this).2
    clear lF' lN' hret
    have hrow := stepN_row4 (k := 0) (.inl rfl) h h8 (n := i) (by omega)
    have hst : stepN 0 (i + 1) F = stepF 0 (stepN 0 i F) := rfl
    rw [hst]
    generalize stepN 0 i F = G at *
    dsimp only [kstB, List.zip, List.zipWith] at F1
    k_steps
    all_goals (refine turn_nextV (vals' := [.bytes _ _]) (.inl rfl) (by k_asm) (by k_asm) (List.forall_mem_nil _) (fun p hp => hp) (List.forall_mem_cons.mpr ⟨rfl, List.forall_mem_nil _⟩) ?_ ⟨_, rfl⟩)
    all_goals (
      intro z z1 z2 _
      have z3 := z2 _ (.head _)
      simp only [if_neg z1, if_neg z3]
      rfl)
  · rintro vals u h' tk ⟨tv, rfl⟩ F1
    rw [hsz] at F1
    clear lF' lN'
    have N1 : News s.heap _ h' [] := News.nil (L := 0)
    dsimp only [kstB, List.zip, List.zipWith] at F1
    k_steps
    all_goals exact hret _ _ _ (Fr.keep (by k_asm)) ⟨_, rfl⟩

set_option maxHeartbeats 4000000 in
theorem reduce1 (w : World) (F : List Int) (l : Addr) (n : Nat) (h : Row4 F) (h8 : F.length ≤ 8) (hn : n ≤ 6) : Con w 132 [.ref 153, .ref l] [] 6 (fun h => ∃ (vs : List Value) (t : Tok), h.IsList l (Value.bytes (byteArr (octs F)) t :: vs).toArray ∧ IntsAre vs (List.replicate n 1)) (fun _ _ v => ∃ t : Tok, v = .bytes (byteArr (octs (stepN 1 n F))) t) := by
  rintro p loose mean mg mb dp un gd cn cs a ccd cl outer A₀ base h₀ L m s Q E hB hF hX hT hK hd hu ⟨vs, tb, hL, hI⟩ hret
  have hvl : vs.length = n := by rw [hI.length, List.length_replicate]
  have hsz : (Value.bytes (byteArr (octs F)) tb :: vs).toArray.size - 1 = n := by simp [hvl]
  k_extra "unf"
  k_steps
  rename ItAt _ _ _ => hit
  rename Fr _ _ _ _ => lF'
  rename News _ _ _ _ => lN'
  refine iter_loopV (j := 1) [Str.ofString "value"] [] [.bytes _ _] (fun i vals => ∃ t, vals = [.bytes (byteArr (octs (stepN 1 i F))) t]) rfl hL (by simp) lF' lN' hit (List.forall_mem_cons.mpr ⟨rfl, List.forall_mem_nil _⟩) ⟨_, rfl⟩ ?_ ?_
  · rintro i v vals u h' tk own hi hv ⟨tv, rfl⟩ F1 N1
    rw [hsz] at hi
    have hv' : vs[i]? = some v := by simpa using hv
    obtain ⟨k', u', rfl, hk'⟩ := hI.at i v hv'
    obtain rfl : k' = 1 := by
      have := List.mem_of_getElem? hk'
      exact (List.mem_replicate.mp this).2
    clear lF' lN' hret
    have hrow := stepN_row4 (k := 1) (.inr rfl) h h8 (n := i) (by omega)
    have hst : stepN 1 (i + 1) F = stepF 1 (stepN 1 i F) := rfl
    rw [hst]
    generalize stepN 1 i F = G at *
    dsimp only [kstB, List.zip, List.zipWith] at F1
    k_steps
    all_goals (refine turn_nextV (vals' := [.bytes _ _]) (.inl rfl) (by k_asm) (by k_asm) (List.forall_mem_nil _) (fun p hp => hp) (List.forall_mem_cons.mpr ⟨rfl, List.forall_mem_nil _⟩) ?_ ⟨_, rfl⟩)
    all_goals (
      intro z z1 z2 _
      have z3 := z2 _ (.head _)
      simp only [if_neg z1, if_neg z3]
      rfl)
  · rintro vals u h' tk ⟨tv, rfl⟩ F1
    rw [hsz] at F1
    clear lF' lN'
    have N1 : News s.heap _ h' [] := News.nil (L := 0)
    dsimp only [kstB, List.zip, List.zipWith] at F1
    k_steps
    all_goals exact hret _ _ _ (Fr.keep (by k_asm)) ⟨_, rfl⟩
end
-- part B11a
section
open PySem PySem.W PyProof.Rows
section
open PySem.Calls
variable {prog : Program} {w : World} {A A₀ : Around} {E : Value → Shared → Prop} {s : Shared} {K : Frag} {L : Addr} {h₀ base : Heap} {m mg mb : Str → Option Value} {p : Program} {loose : List Str} {mean : ExcName → Option Value} {Q : Value → Shared → Prop}
theorem enterC {env : Env} {outer : List Env} {name qual : Str} {params : Arguments} {body : List Stmt} {scope : Scope} {dV kV doc pm cdv ct oc : Value} {an od : Option Addr} {osl : Array (Option Value)} {f : Addr} {pos : List Value} {kw : List (Str × Value)} {binds : List (Str × Value)}
    (B : Below A₀ base outer h₀) (F : Fr h₀ L s.heap m) (X₀ : K.In h₀) (T : Top p loose mean mg mb h₀) (hA : A.frames = some (env :: outer)) (hf : env.frame = some L) (hke : env.scope.kind = .function)
    (ho : K.lookup f = some ⟨oc, od, .func (fnOf name qual params body scope dV kV doc pm an cdv ct), osl⟩) (hcd : codeIn K cdv qual = true) (hroom : A.depth < recursionLimit)
    (hbind : BindsTo s (fnOf name qual params body scope dV kV doc pm an cdv ct) ⟨pos, kw⟩ binds) (hkind : (binds.all fun y => scope.names.lookup y.1 == some .local || scope.names.lookup y.1 == some .cell) = true)
    (hnd : ((cellsFrom 0 scope.names []).map (·.1)).Nodup)
    (h : ∀ L' h₁ tk cells, Fr s.heap L' h₁ (bindL (envOfC qual scope L' f cdv).kindOf binds fun _ => none) → News s.heap L' h₁ cells →
      CellsAre (bindC (envOfC qual scope L' f cdv).kindOf binds fun _ => none) (cellsFrom (L' + 1) scope.names []) cells → Below A base (env :: outer) s.heap → K.In s.heap → Top p loose mean mg mb s.heap →
      wpAny (model prog w) (A.deeper (envOfC qual scope L' f cdv)) (execs body (envOfC qual scope L' f cdv))
        (fun fl s' => Q (match fl with | .ret v => v | _ => .none) s')
        (fun e s' => wpAny (model prog w) (A.deeper (envOfC qual scope L' f cdv)) (leaving (envOfC qual scope L' f cdv) e) (fun _ s'' => E e s'') (fun e' s'' => E e' s'') s')
        { s with heap := h₁, toks := tk })
    (hco : scope.isCoroutine = false) (hgen : scope.isGenerator = false) (hk : scope.kind = .function) : wpAny (model prog w) A (call (.ref f) pos kw) Q E s := by
  have B1 := pushX B F hf hke
  have X1 := X₀.keeps F.keep
  refine wpAny_call (codeAny_call_function (body := body) hroom (X1 _ _ ho) rfl hco hgen rfl (codeRec_of X1 hcd) (hbind _ _ _ _ ?_))
  refine wpAny_newFunctionEnv_cells hk (kindsX hkind _) fun env' he s' x => ?_
  subst he
  refine ⟨(T.nolimit.keeps F.keep).keeps x.toInCall.keep, codeAny_func ?_⟩
  obtain ⟨h₁, tk, rfl, _⟩ := x.done
  have hk₁ := x.toInCall.keep
  obtain ⟨cells, NC, Y⟩ := Cl.news (h₀ := s.heap) (Nat.le_refl _) fun n c hm => ⟨x.cell n c (lookup_of_mem_nodup (cellsFrom_names scope.names 0 (s.heap.objs.size + 1) [] [] rfl ▸ hnd) hm), x.above n c hm⟩
  exact h s.heap.objs.size h₁ tk cells ⟨x.toInCall.ns, hk₁, Nat.le_refl _⟩ NC Y ⟨hA, B1.stays, B1.frames⟩ X1 (T.keeps F.keep)
end
end
-- part C0
section
open PySem PySem.W PyProof.Rows PySem.Calls
theorem news_new' {h h' h₀ : Heap} {L l : Addr} {m : Str → Option Value} {o : Obj} {news : List (Addr × Obj)} (F : Fr h₀ L h m) (N : News h₀ L h news) (st : h.StaysIn h') (hl : h.get? l = none) (ho : h'.get? l = some o) : News h₀ L h' ((l, o) :: news) ∧ ∀ p ∈ news, p.1 ≠ l := by
  refine ⟨fun p hp => ?_, fun p hp e => ?_⟩
  · rcases List.mem_cons.mp hp with rfl | hp
    · refine ⟨ho, fun e => ?_, ?_⟩
      · obtain ⟨oL, _, _, hL, _⟩ := F.ns
        have e' : l = L := e
        rw [e', hL] at hl
        cases hl
      · cases q : h₀.get? l with
        | none => rfl
        | some o' => rw [F.keep _ _ q] at hl; cases hl
    · exact ⟨st _ _ (N p hp).1, (N p hp).2⟩
  · have := (N p hp).1
    rw [e, hl] at this
    cases this
section
variable {prog : Program} {w : World} {A : Around} {E : Value → Shared → Prop} {s : Shared} {h₀ : Heap} {L D : Addr} {m : Str → Option Value} {env : Env} {news : List (Addr × Obj)}
theorem ints_any {k : Int} : ∀ {ys : List Value} {ns : List Int}, IntsAre ys ns → kf_ints ys = true ∧ ys.any (isInt k) = decide (k ∈ ns)
  | _, _, .nil => ⟨rfl, by simp⟩
  | _, _, .cons n t h => by
    obtain ⟨h1, h2⟩ := ints_any (k := k) h
    refine ⟨h1, ?_⟩
    rw [List.any_cons, h2]
    have : isInt k (.int n t) = decide (k = n) := by
      show (n == k) = decide (k = n)
      by_cases e : k = n
      · subst e; simp
      · have : n ≠ k := fun q => e q.symm
        simp [e, this]
    rw [this]
    simp [List.mem_cons]
theorem in_ints {ys : List Value} {ns : List Int} {k : Int} {t : Tok} {n : Nat} {Q : Value → Shared → Prop} (N : News h₀ L s.heap news) (hm : (D, W.listOf ys.toArray n) ∈ news) (hI : IntsAre ys ns) (h : Q (.bool (decide (k ∈ ns))) s) :
    wpAny (model prog w) A (compareOp .In (.int k t) (.ref D)) Q E s :=
  kf_in N hm (ints_any (k := k) hI).1 (ints_any (k := k) hI).2 h
noncomputable def SrcS (prog : Program) (w : World) (A : Around) (h₀ : Heap) (L : Addr) (m : Str → Option Value) (env : Env) (elt : Expr) (x : Str) (scope : Scope) (cl : List (Str × Addr)) (Fin : Shared → List Value → List (Addr × Obj) → Prop) (xv : Value) (s₁ : Shared) : Prop :=
  ∃ r a b c t u v n news, xv = .ref r ∧ A.handled = none ∧ Fr h₀ L s₁.heap m ∧ News h₀ L s₁.heap news ∧ IsRange s₁.heap r a b c t u v ∧ Builtin.Range.small a b c = true ∧ Builtin.Range.rangeSize a b c = ((n : Nat) : Int) ∧ n ≤ sizeLine ∧
    ∀ s₂ : Shared, (∃ h, s₂ = { s₁ with heap := h }) → LCg.CompRest prog w A h₀ L m env elt x scope cl s₂ (fun _ => True) (fun i v => ∃ t, v = .int (a + (i : Int) * c) t) (Fin s₂) n 0 [] news
theorem comp_range {elt iter : Expr} {x : Str} {px : Pos} {scope : Scope} {cl : List (Str × Addr)} {pos : Pos} {Q : Value → Shared → Prop} (F₀ : Fr h₀ L s.heap m)
    (hclos : closureFor scope env = pure cl) (hcell : ∀ y ∈ scope.names, y.2 ≠ .cell) (hkind : scope.kind = .function)
    (hnames : ∀ y ∈ scope.names, y.2 = .local → scope.names.lookup y.1 = some .local) (hx : scope.names.lookup x = some .local)
    (h : wpAny (model prog w) A (eval iter env) (SrcS prog w A h₀ L m env elt x scope cl (fun s₂ => LCg.FinE h₀ L m s₂ Q)) E s)
    (hs : ∀ x, foldedSetIterable iter env x = pure x := by intro _; rfl) :
    wpAny (model prog w) A (eval (.ListComp elt [⟨.Name x px, iter, [], 0⟩] scope pos) env) Q E s := by
  have := F₀
  rw [eval_ListComp]
  refine wpAny_comprehension_free (use := none) rfl hs hclos hkind hnames (wpAny_mono h (fun xv s₁ h₁ => ?_) fun _ _ e => e)
  obtain ⟨r, a, b, c, t, u, v, n, news, rfl, hh, F, N, hr, hsm, hn, hsz, R⟩ := h₁
  refine wpAny_pyIter_range hr hsm ?_
  have hst : ∀ i (h h' : Heap) (o : Obj) (nw : List (Addr × Obj)), IsRangeIter h s₁.heap.objs.size (a + (i : Nat) * c) ((n : Int) - (i : Nat)) c → h.get? s₁.heap.objs.size = some o → h'.get? s₁.heap.objs.size = some o → (∀ b o, h₀.get? b = some o → h'.get? b = some o) → News h₀ L h' nw → True → IsRangeIter h' s₁.heap.objs.size (a + (i : Nat) * c) ((n : Int) - (i : Nat)) c := by
    intro i h h' o nw st e e' _ _ _
    have st' : h.get? s₁.heap.objs.size = some _ := st
    show h'.get? s₁.heap.objs.size = some _
    rw [e', ← e]; exact st'
  refine LCg.block_U (Walks.range hh s₁.heap.objs.size a c n) hsz (fun i h st => ⟨_, st⟩) hst hcell hkind hx (by show IsRangeIter _ _ _ _ _; rw [hn]; simpa using Heap.get?_push_size _ rfl) (fun b hb => ?_)
    (F.keeps fun _ _ e => Heap.get?_push_of_some _ e) (N.grown fun _ _ e => Heap.get?_push_of_some _ e) (Nat.ne_of_lt F.ns.lt) (next_is_new F) (fun p hp => Nat.ne_of_lt (Heap.lt_size (N p hp).1)) trivial (R _ ⟨_, rfl⟩) ?_
  · rw [List.mem_singleton.mp hb]
    show s₁.heap.objs.size < (s₁.heap.push _).objs.size
    rw [Heap.size_push]; exact Nat.lt_succ_self _
  · intro D C h tk m' ys news' F' N' o1 hn hC₀ hD₀ hCL hDL hCD offC fin
    refine ⟨m', hn, fun h'' hs'' => fin D h'' tk (F'.change hs'' hCL hC₀) (fun p hp => ?_) o1⟩
    refine ⟨hs''.extBut _ _ ?_ (N' p hp).1, (N' p hp).2⟩
    rcases List.mem_cons.mp hp with rfl | hp
    · exact Ne.symm hCD
    · exact offC p hp
end
end
-- part C1
section
open PySem PySem.W PyProof.Rows PySem.Calls
section
variable {prog : Program} {w : World} {A : Around} {E : Value → Shared → Prop} {s : Shared} {h₀ : Heap} {L a b : Addr} {m : Str → Option Value} {news : List (Addr × Obj)} {vs ws : List Value} {ns ms : List Int} {Q : Value → Shared → Prop}
theorem add_led {n1 n2 : Nat} (F : Fr h₀ L s.heap m) (N : News h₀ L s.heap news) (ha : (a, W.listOf vs.toArray n1) ∈ news) (hb : (b, W.listOf ws.toArray n2) ∈ news) (hi : IntsAre vs ns) (hj : IntsAre ws ms) (hz : ns.length + ms.length ≤ sizeLine)
    (h : ∀ D us h', Fr h₀ L h' m → News h₀ L h' ((D, W.listOf (List.toArray us) 0) :: news) → (∀ p ∈ news, p.1 < D) → IntsAre us (ns ++ ms) → Q (.ref D) { s with heap := h' }) :
    wpAny (model prog w) A (binaryOp .Add (.ref a) (.ref b)) Q E s :=
  kmk_add_ints F N ⟨_, (N _ ha).1, rfl, _, rfl⟩ ⟨_, (N _ hb).1, rfl, _, rfl⟩ hi hj h hz
theorem ints_rep (x : Int) (t : Tok) : ∀ k : Nat, IntsAre (List.replicate k [Value.int x t]).flatten (List.replicate k x)
  | 0 => .nil
  | k + 1 => by
    rw [List.replicate_succ, List.replicate_succ, List.flatten_cons]
    exact .cons x t (ints_rep x t k)
theorem mul_led {x : Int} {n : Int} {t u : Tok} {n1 : Nat} (F : Fr h₀ L s.heap m) (N : News h₀ L s.heap news) (ha : (a, W.listOf [Value.int x t].toArray n1) ∈ news) (h0 : 0 ≤ n) (h6 : n ≤ 200)
    (h : ∀ D us h', Fr h₀ L h' m → News h₀ L h' ((D, W.listOf (List.toArray us) 0) :: news) → (∀ p ∈ news, p.1 < D) → IntsAre us (List.replicate n.toNat x) → Q (.ref D) { s with heap := h' }) :
    wpAny (model prog w) A (binaryOp .Mult (.ref a) (.int n u)) Q E s :=
  KMa.mul F N (vs := [Value.int x t]) ⟨_, (N _ ha).1, rfl, _, rfl⟩ (by omega) (by omega) (by simp; omega) rfl fun D h' F' N' l1 => h D _ h' F' N' l1 (ints_rep x t _)
end
end
-- part B11
section
open PySem PySem.W PyProof.Rows







noncomputable abbrev ListR (G : List Int) : Heap → Heap → Value → Prop := fun h h' v => ∃ (l : Addr) (vs : List Value) (nn : Nat), v = .ref l ∧ h.get? l = none ∧ h'.get? l = some (W.listOf vs.toArray nn) ∧ IntsAre vs G
section
variable {w : World} {f : Addr} {pos : List Value} {kw : List (Str × Value)} {dd : Nat} {pre : Heap → Prop} {G : List Int}
  {dp un : Nat} {gd : Option (List Code)} {cn : Str} {cs : Scope} {a : Addr} {ccd : Value} {cl : List (Str × Addr)} {outer : List Env} {A₀ : Around} {base h₀ : Heap} {L : Addr} {m : Str → Option Value} {s : Shared} {Q E : Value → Shared → Prop}
  {p : Program} {loose : List Str} {mean : ExcName → Option Value} {mg mb : Str → Option Value} {news : List (Addr × Obj)}
theorem con_list (C : Con w f pos kw dd pre (ListR G)) (B : Below A₀ base outer h₀) (F : Fr h₀ L s.heap m) (X : (hd.heap_39 w.params).In h₀) (N : News h₀ L s.heap news) (T : Top p loose mean mg mb h₀) (hk : cs.kind = .function)
    (hd : dp + dd < recursionLimit) (hu : un + 8 * dd < cLine) (hp : pre s.heap)
    (ret : ∀ l vs nn h' tk', Fr h₀ L h' m → News h₀ L h' ((l, W.listOf (List.toArray vs) nn) :: news) → (∀ p ∈ news, p.1 ≠ l) → IntsAre vs G → Q (.ref l) { s with heap := h', toks := tk' }) :
    wpAny (model Challenge.pw_oy0089_01 w) (ktrTop dp un gd cn cs L a ccd cl outer) (call (.ref f) pos kw) Q E s :=
  con_use C B F X N T hk hd hu hp fun v h' tk' F' _ st ⟨l, vs, nn, e, hl, ho, hI⟩ => by
    obtain ⟨N2, hne⟩ := news_new' F N st hl ho
    rw [e]
    exact ret l vs nn h' tk' F' N2 hne hI
end
noncomputable def corn (n : Int) : List Int := (rangeKs 0 (n + 1 - 0).toNat).map (fun k' => (k' * (k' + 1)).fdiv 2)
noncomputable def tri (n : Int) : Nat := ((n * (n + 1)).fdiv 2).toNat
theorem tri_eq {n : Int} (h0 : 0 ≤ n) (h6 : n ≤ 6) : (n * (n + 1)).fdiv 2 = (tri n : Int) ∧ tri n ≤ 21 := by
  have : n = 0 ∨ n = 1 ∨ n = 2 ∨ n = 3 ∨ n = 4 ∨ n = 5 ∨ n = 6 := by omega
  rcases this with rfl | rfl | rfl | rfl | rfl | rfl | rfl <;> decide
theorem size_up {n : Nat} : Builtin.Range.rangeSize 0 (n : Int) 1 = n := by
  simp only [Builtin.Range.rangeSize]
  split <;> (try split) <;> omega
theorem size_dn {n : Nat} : Builtin.Range.rangeSize (n : Int) 0 (-1) = n := by
  simp only [Builtin.Range.rangeSize, Int.neg_neg, Int.ediv_one]
  split <;> (try split) <;> omega
theorem fits_small (k : Int) (k0 : -1 ≤ k) (k1 : k ≤ 3000) : Builtin.Range.rangeFitsLong k = true := by
  simp only [Builtin.Range.rangeFitsLong]
  simp
  omega
theorem small_up {n : Nat} (h : n ≤ 2000) : Builtin.Range.small 0 (n : Int) 1 = true := by
  unfold Builtin.Range.small
  rw [size_up, fits_small 0 (by omega) (by omega), fits_small _ (by omega) (by omega), fits_small 1 (by omega) (by omega), if_pos (by decide), fits_small _ (by omega) (by omega)]
  simp
theorem small_dn {n : Nat} (h : n ≤ 2000) : Builtin.Range.small (n : Int) 0 (-1) = true := by
  unfold Builtin.Range.small
  rw [size_dn, fits_small 0 (by omega) (by omega), fits_small _ (by omega) (by omega), fits_small (-1) (by omega) (by omega), if_neg (by decide), fits_small _ (by omega) (by omega)]
  simp
noncomputable def l62 (k : Nat) (n : Int) : List Int := if k = 0 then [62] ++ (((List.range (tri n)).map fun i : Nat => (i : Int)).map fun p => if p ∈ corn n then 63 else 61) else [62] ++ List.replicate n.toNat 0
noncomputable def l63 (k : Nat) (n : Int) : List Int := if k = 0 then [63] ++ List.replicate n.toNat 61 else (((List.range (tri n)).map fun i : Nat => (tri n : Int) - (i : Int)).map fun p => if p ∈ corn n then 62 else 0) ++ [63]

theorem kw71 : True := by
  w_top off
  k_with_none
  (k_with "unf" => (
  (have kwhf : PySem.Challenge.rw_oy0089_01 = PySem.Challenge.rw_oy0089_01 ∧ _root_.Mine.hd.heap_39 = _root_.Mine.hd.heap_39 := by (k_fill; exact ⟨rfl, rfl⟩));
  clear kwhf;
  k_dflt (refine' enter ?kwk1 ?kwk2 ?kwk3 ?kwk5 ?kwkA ?kwkF ?kwkK ?kwk6 ?kwk7 ?kwk8 ?kwk9 ?kwkB ?_ ?kwc2 ?kwc3 ?kwc4 ?kwc5; (case kwkA => exact rfl); (case kwkF => exact rfl); (case kwkK => assumption); (case kwk1 => k_asm); (case kwk2 => k_asm); (case kwk3 => k_asm); (case kwk5 => k_asm); (case kwk6 => k_is); (case kwk7 => k_is); (case kwk8 => ktr_room); (case kwk9 => first | exact BindsTo.of_eq rfl | exact binds_K (by k_in) rfl (by k_is) rfl rfl rfl | fail "enter: no rule for these arguments"); (case kwc5 => decide); (case kwkB => exact locs rfl); (case kwc2 => exact rfl); (case kwc3 => exact rfl); (case kwc4 => exact rfl); k_whole; intro kwL' kwh' kwF' kwN' kwB' kwX' kwT'; (try dsimp only); (try k_fold))))
  (k_with "exec For Name Name cons nil" => (k_here; (rename Fr _ _ _ _ => kwlF'); (with_unfolding_all refine' For_invVF kwlF' ?kwk1 ?kwk2 ?_; (case kwk1 => exact rfl); (case kwk2 => exact rfl); k_whole)))
  (k_with "rel" => (
  (have kwhf : PySem.Challenge.rw_oy0089_01 = PySem.Challenge.rw_oy0089_01 ∧ _root_.Mine.hd.heap_39 = _root_.Mine.hd.heap_39 := by (k_fill; exact ⟨rfl, rfl⟩));
  clear kwhf;
  k_dflt (refine' enterC ?kwk1 ?kwk2 ?kwk3 ?kwk5 ?kwkA ?kwkF ?kwkK ?kwk6 ?kwk7 ?kwk8 ?kwk9 ?kwkB ?kwkD ?_ ?kwc2 ?kwc3 ?kwc4; (case kwkA => exact rfl); (case kwkF => exact rfl); (case kwkK => assumption); (case kwk1 => k_asm); (case kwk2 => k_asm); (case kwk3 => k_asm); (case kwk5 => k_asm); (case kwk6 => k_is); (case kwk7 => k_is); (case kwk8 => ktr_room); (case kwk9 => first | exact BindsTo.of_eq rfl | exact binds_K (by k_in) rfl (by k_is) rfl rfl rfl | fail "enter: no rule for these arguments"); (case kwkB => exact rfl); (case kwkD => decide +kernel); (case kwc2 => exact rfl); (case kwc3 => exact rfl); (case kwc4 => exact rfl); k_whole; intro kwL' kwh' kwtk' kwcells' kwF' kwN' kwY' kwB' kwX' kwT'; k_cells kwY'; (try dsimp only); (try k_fold))))
  (k_with "binaryOp Add ref ref" => (k_here; k_dflt (refine' add_led ?kwF ?kwN ?kwa ?kwb ?kwi ?kwj ?kwz ?_; (case kwF => k_asm); (case kwN => k_asm); (case kwa => k_mem); (case kwb => k_mem); (case kwi => first | assumption | exact IntsAre.cons _ _ IntsAre.nil); (case kwj => first | assumption | exact IntsAre.cons _ _ IntsAre.nil); (case kwz => (rw [sizeLine_eq]; (try simp only [List.length_append, List.length_cons, List.length_nil, List.length_map, List.length_range, List.length_replicate]); omega))); intro kwD' kwus' kwh' kwF' kwN' kwl1 kwhI'; (try k_lt kwl1)))
  (k_with "binaryOp Mult ref int" => (k_here; k_dflt (refine' mul_led ?kwF ?kwN ?kwa ?kwz1 ?kwz2 ?_; (case kwF => k_asm); (case kwN => k_asm); (case kwa => k_mem); (case kwz1 => omega); (case kwz2 => omega)); intro kwD' kwus' kwh' kwF' kwN' kwl1 kwhI'; (try k_lt kwl1)))
  (k_with "eval ListComp" => (k_here; (with_reducible show wpAny _ _ (eval (Expr.ListComp (Expr.IfExp _ _ _ _) _ _ _) _) _ _ _); k_dflt (refine comp_range (F₀ := by k_asm) (by with_unfolding_all rfl) (by decide) (by rfl) (by decide) (by rfl) ?_)))
  (k_with "compareOp In int ref" => (k_here; k_dflt (refine' in_ints ?kwN ?kwm ?kwi ?_; (case kwN => k_asm); (case kwm => k_mem); (case kwi => assumption))))
  trivial

set_option maxHeartbeats 4000000 in
theorem g62_0 (w : World) (n : Int) (t u v : Tok) (h0 : 0 ≤ n) (h6 : n ≤ 6) : Con w 158 [.int 62 t, .int n u, .int 0 v] [] 1 (fun _ => True) (ListR (l62 0 n)) := by
  intro p loose mean mg mb dp un gd cn cs a ccd cl outer A₀ base h₀ L m s Q E hB hF hX hT hK hd hu hp hret
  obtain ⟨ht1, ht2⟩ := tri_eq h0 h6
  k_extra "rel"
  k_steps
  rename IsRange _ _ _ _ _ _ _ _ => hr
  rename Fr _ _ _ _ => lF'
  rename News _ _ _ _ => lN'
  rename IntsAre _ _ => hI8
  change IntsAre _ (corn n) at hI8
  rw [ht1] at hr
  refine ⟨_, _, _, _, _, _, _, tri n, _, rfl, rfl, lF', lN', hr, small_up (by omega), size_up, by rw [sizeLine_eq]; omega, ?_⟩
  rintro s₂ ⟨gh, rfl⟩
  refine kcf_rest (ks := (List.range (tri n)).map fun i : Nat => (i : Int)) (fun p => if p ∈ corn n then 63 else 61) (by simp) ?_ ?_ ?_
  · rintro i v hi ⟨tv, rfl⟩
    exact ⟨(i : Int), tv, by simp [hi], by congr 1; omega⟩
  · intro k tk0 I oI C oC D m₂ ys h tk E' hk hC hx F1 N1 off ne mk
    clear lF' lN' hr hret
    k_steps
  · unfold KPfDone
    intro ys hys D h tk F1 N1 off1
    clear lF' lN' hr
    have N1 : News s.heap _ h ((D, W.listOf ys.toArray ys.length) :: _) := N1
    k_steps
    rename News _ _ _ _ => N2
    all_goals exact hret _ _ _ (Fr.keep (by k_asm)) ⟨_, _, _, rfl, (N2 _ (.head _)).2.2, (N2 _ (.head _)).1, by assumption⟩

set_option maxHeartbeats 4000000 in
theorem g63_0 (w : World) (n : Int) (t u v : Tok) (h0 : 0 ≤ n) (h6 : n ≤ 6) : Con w 158 [.int 63 t, .int n u, .int 0 v] [] 1 (fun _ => True) (ListR (l63 0 n)) := by
  intro p loose mean mg mb dp un gd cn cs a ccd cl outer A₀ base h₀ L m s Q E hB hF hX hT hK hd hu hp hret
  obtain ⟨ht1, ht2⟩ := tri_eq h0 h6
  k_extra "rel"
  k_steps
  rename News _ _ _ _ => N2
  all_goals exact hret _ _ _ (Fr.keep (by k_asm)) ⟨_, _, _, rfl, (N2 _ (.head _)).2.2, (N2 _ (.head _)).1, by assumption⟩

set_option maxHeartbeats 4000000 in
theorem g62_1 (w : World) (n : Int) (t u v : Tok) (h0 : 0 ≤ n) (h6 : n ≤ 6) : Con w 158 [.int 62 t, .int n u, .int 1 v] [] 1 (fun _ => True) (ListR (l62 1 n)) := by
  intro p loose mean mg mb dp un gd cn cs a ccd cl outer A₀ base h₀ L m s Q E hB hF hX hT hK hd hu hp hret
  obtain ⟨ht1, ht2⟩ := tri_eq h0 h6
  k_extra "rel"
  k_steps
  rename News _ _ _ _ => N2
  all_goals exact hret _ _ _ (Fr.keep (by k_asm)) ⟨_, _, _, rfl, (N2 _ (.head _)).2.2, (N2 _ (.head _)).1, by assumption⟩

set_option maxHeartbeats 4000000 in
theorem g63_1 (w : World) (n : Int) (t u v : Tok) (h0 : 0 ≤ n) (h6 : n ≤ 6) : Con w 158 [.int 63 t, .int n u, .int 1 v] [] 1 (fun _ => True) (ListR (l63 1 n)) := by
  intro p loose mean mg mb dp un gd cn cs a ccd cl outer A₀ base h₀ L m s Q E hB hF hX hT hK hd hu hp hret
  obtain ⟨ht1, ht2⟩ := tri_eq h0 h6
  k_extra "rel"
  k_steps
  rename IsRange _ _ _ _ _ _ _ _ => hr
  rename Fr _ _ _ _ => lF'
  rename News _ _ _ _ => lN'
  rename IntsAre _ _ => hI8
  change IntsAre _ (corn n) at hI8
  rw [ht1] at hr
  refine ⟨_, _, _, _, _, _, _, tri n, _, rfl, rfl, lF', lN', hr, small_dn (by omega), size_dn, by rw [sizeLine_eq]; omega, ?_⟩
  rintro s₂ ⟨gh, rfl⟩
  refine kcf_rest (ks := (List.range (tri n)).map fun i : Nat => (tri n : Int) - (i : Int)) (fun p => if p ∈ corn n then 62 else 0) (by simp) ?_ ?_ ?_
  · rintro i v hi ⟨tv, rfl⟩
    exact ⟨(tri n : Int) - (i : Int), tv, by simp [hi], by congr 1; omega⟩
  · intro k tk0 I oI C oC D m₂ ys h tk E' hk hC hx F1 N1 off ne mk
    clear lF' lN' hr hret
    k_steps
  · unfold KPfDone
    intro ys hys D h tk F1 N1 off1
    clear lF' lN' hr
    have N1 : News s.heap _ h ((D, W.listOf ys.toArray ys.length) :: _) := N1
    k_steps
    rename News _ _ _ _ => N2
    all_goals exact hret _ _ _ (Fr.keep (by k_asm)) ⟨_, _, _, rfl, (N2 _ (.head _)).2.2, (N2 _ (.head _)).1, by assumption⟩

theorem con_more {w : World} {f : Addr} {pos : List Value} {kw : List (Str × Value)} {d1 d2 : Nat} {pre : Heap → Prop} {R : Heap → Heap → Value → Prop} (h : d1 ≤ d2) (C : Con w f pos kw d1 pre R) : Con w f pos kw d2 pre R :=
  fun _ _ _ _ _ _ _ _ _ _ _ _ _ _ _ _ _ _ _ _ _ _ hB hF hX hT hK hd hu hp hret => C _ _ _ _ _ _ _ _ _ _ _ _ _ _ _ _ _ _ _ _ _ _ hB hF hX hT hK (by omega) (by omega) hp hret
theorem kw72 : True := by
  (k_with "call ref" => (k_here; k_dflt (first
  | refine' con_list (g62_0 _ _ _ _ _ ?kwq1 ?kwq2) ?kwk1 ?kwk2 ?kwk3 ?kwk4 ?kwk5 ?kwkK ?kwkd ?kwku ?kwkp ?_
  | refine' con_list (g63_0 _ _ _ _ _ ?kwq1 ?kwq2) ?kwk1 ?kwk2 ?kwk3 ?kwk4 ?kwk5 ?kwkK ?kwkd ?kwku ?kwkp ?_
  | refine' con_list (g62_1 _ _ _ _ _ ?kwq1 ?kwq2) ?kwk1 ?kwk2 ?kwk3 ?kwk4 ?kwk5 ?kwkK ?kwkd ?kwku ?kwkp ?_
  | refine' con_list (g63_1 _ _ _ _ _ ?kwq1 ?kwq2) ?kwk1 ?kwk2 ?kwk3 ?kwk4 ?kwk5 ?kwkK ?kwkd ?kwku ?kwkp ?_); (case kwk1 => k_asm); (case kwk2 => k_asm); (case kwk3 => k_asm); (case kwk4 => k_asm); (case kwk5 => k_asm); (case kwkK => first | exact rfl | assumption); (case kwkd => ktr_room); (case kwku => ktr_units); (case kwkp => trivial); (case kwq1 => omega); (case kwq2 => omega); intro kwl9 kwvs9 kwnn9 kwh9 kwtk9 kwF9 kwN9 kwl1 kwhI9; (try dsimp only)))
  trivial

set_option maxHeartbeats 4000000 in
theorem grown0 (w : World) (f n : Int) (t u v : Tok) (h0 : 1 ≤ n) (h6 : n ≤ 6) : Con w 158 [.int f t, .int n u, .int 0 v] [] 2 (fun _ => True) (ListR (if f = 53 then l62 0 (n - 1) else if f = 52 then l63 0 (n - 1) else if f = 62 then l62 0 n else if f = 63 then l63 0 n else [f])) := by
  by_cases f1 : f = 62
  · subst f1
    rw [if_neg (by decide), if_neg (by decide), if_pos rfl]
    exact con_more (by decide) (g62_0 w n t u v (by omega) h6)
  by_cases f2 : f = 63
  · subst f2
    rw [if_neg (by decide), if_neg (by decide), if_neg (by decide), if_pos rfl]
    exact con_more (by decide) (g63_0 w n t u v (by omega) h6)
  rw [if_neg f1, if_neg f2]
  intro p loose mean mg mb dp un gd cn cs a ccd cl outer A₀ base h₀ L m s Q E hB hF hX hT hK hd hu hp hret
  obtain ⟨ht1, ht2⟩ := tri_eq (n := n) (by omega) h6
  k_extra "rel"
  k_steps
  all_goals (rename News _ _ _ _ => N2)
  all_goals (first
    | (exfalso; omega)
    | (rw [if_pos (by omega)] at hret; exact hret _ _ _ (Fr.keep (by k_asm)) ⟨_, _, _, rfl, (N2 _ (.head _)).2.2, (N2 _ (.head _)).1, by assumption⟩)
    | (rw [if_neg (by omega), if_pos (by omega)] at hret; exact hret _ _ _ (Fr.keep (by k_asm)) ⟨_, _, _, rfl, (N2 _ (.head _)).2.2, (N2 _ (.head _)).1, by assumption⟩)
    | (rw [if_neg (by omega), if_neg (by omega)] at hret; exact hret _ _ _ (Fr.keep (by k_asm)) ⟨_, [_], _, rfl, (N2 _ (.head _)).2.2, (N2 _ (.head _)).1, .cons _ _ .nil⟩))

set_option maxHeartbeats 4000000 in
theorem grown1 (w : World) (f n : Int) (t u v : Tok) (h0 : 1 ≤ n) (h6 : n ≤ 6) : Con w 158 [.int f t, .int n u, .int 1 v] [] 2 (fun _ => True) (ListR (if f = 49 then l62 1 (n - 1) else if f = 61 then l63 1 (n - 1) else if f = 62 then l62 1 n else if f = 63 then l63 1 n else [f])) := by
  by_cases f1 : f = 62
  · subst f1
    rw [if_neg (by decide), if_neg (by decide), if_pos rfl]
    exact con_more (by decide) (g62_1 w n t u v (by omega) h6)
  by_cases f2 : f = 63
  · subst f2
    rw [if_neg (by decide), if_neg (by decide), if_neg (by decide), if_pos rfl]
    exact con_more (by decide) (g63_1 w n t u v (by omega) h6)
  rw [if_neg f1, if_neg f2]
  intro p loose mean mg mb dp un gd cn cs a ccd cl outer A₀ base h₀ L m s Q E hB hF hX hT hK hd hu hp hret
  obtain ⟨ht1, ht2⟩ := tri_eq (n := n) (by omega) h6
  k_extra "rel"
  k_steps
  all_goals (rename News _ _ _ _ => N2)
  all_goals (first
    | (exfalso; omega)
    | (rw [if_pos (by omega)] at hret; exact hret _ _ _ (Fr.keep (by k_asm)) ⟨_, _, _, rfl, (N2 _ (.head _)).2.2, (N2 _ (.head _)).1, by assumption⟩)
    | (rw [if_neg (by omega), if_pos (by omega)] at hret; exact hret _ _ _ (Fr.keep (by k_asm)) ⟨_, _, _, rfl, (N2 _ (.head _)).2.2, (N2 _ (.head _)).1, by assumption⟩)
    | (rw [if_neg (by omega), if_neg (by omega)] at hret; exact hret _ _ _ (Fr.keep (by k_asm)) ⟨_, [_], _, rfl, (N2 _ (.head _)).2.2, (N2 _ (.head _)).1, .cons _ _ .nil⟩))
end
-- part L2
section
open PySem PySem.W PyProof.Rows PySem.Calls
noncomputable def NamesAt (ys stored : List Str) (m₀ : Str → Option Value) (vals : List Value) (m : Str → Option Value) : Prop :=
  (∀ p ∈ ys.zip vals, m p.1 = some p.2) ∧ ∀ z, (∀ p ∈ ys.zip vals, z ≠ p.1) → stored.contains z = false → m z = m₀ z
theorem NamesAt.map {ys stored : List Str} {m₀ m : Str → Option Value} {vals : List Value} (h : NamesAt ys stored m₀ vals m) : m = kstB (fun z => if stored.contains z then m z else m₀ z) (ys.zip vals) := by
  funext z
  refine (kstB_eq h.1 fun hn => ?_).symm
  show (if stored.contains z = true then m z else m₀ z) = m z
  cases h3 : stored.contains z with
  | true => simp
  | false => simp only [Bool.false_eq_true, if_false]; exact (h.2 z hn h3).symm
noncomputable def CellEnd (h₀ : Heap) (L c I : Addr) (oI : Obj) (fixed : List (Addr × Obj)) (ys stored : List Str) (m₀ : Str → Option Value) (P : List Value → Prop) (s₁ : Shared) (f : Flow) (s₂ : Shared) : Prop :=
  (f = .next ∨ f = .cont) ∧ ∃ h' tk m' oc v vals, s₂ = { s₁ with heap := h', toks := tk } ∧ Fr h₀ L h' m' ∧ News h₀ L h' ((c, oc) :: (fixed ++ [(I, oI)])) ∧ oc.data = .cell v ∧ NamesAt ys stored m₀ vals m' ∧ P vals
theorem CellEnd.intro {h₀ : Heap} {L c I : Addr} {oI oc : Obj} {fixed news' : List (Addr × Obj)} {ys stored : List Str} {m₀ m' : Str → Option Value} {P : List Value → Prop} {s₁ : Shared} {f : Flow} {h' : Heap} {tk : Nat} {v : Option Value} {vals : List Value}
    (hf : f = .next ∨ f = .cont) (F : Fr h₀ L h' m') (N : News h₀ L h' news') (hc : (c, oc) ∈ news') (hx : ∀ p ∈ fixed ++ [(I, oI)], p ∈ news') (hv : oc.data = .cell v)
    (h1 : ∀ p ∈ ys.zip vals, m' p.1 = some p.2) (h2 : ∀ z, (∀ p ∈ ys.zip vals, z ≠ p.1) → stored.contains z = false → m' z = m₀ z) (hp : P vals) :
    CellEnd h₀ L c I oI fixed ys stored m₀ P s₁ f { s₁ with heap := h', toks := tk } :=
  ⟨hf, h', tk, m', oc, v, vals, rfl, F, fun p hp => by
    rcases List.mem_cons.mp hp with rfl | hp
    · exact N _ hc
    · exact N _ (hx p hp), hv, ⟨h1, h2⟩, hp⟩
section
variable {prog : Program} {w : World} {A : Around} {E : Value → Shared → Prop} {s : Shared} {env : Env} {h₀ : Heap} {x : Str} {px : Pos} {body : List Stmt} {Q : Flow → Shared → Prop}
noncomputable def CellInv (s : Shared) (h₀ : Heap) (L I : Addr) (a₀ c₀ : Int) (n : Nat) (c : Addr) (fixed : List (Addr × Obj)) (ys stored : List Str) (m₀ : Str → Option Value) (P : Nat → List Value → Prop) (k : Nat) (s' : Shared) : Prop :=
  ∃ h' tk m' i oc' v vals, s' = { s with heap := h', toks := tk } ∧ IsRangeIter h' I (a₀ + (i : Nat) * c₀) ((n : Int) - (i : Nat)) c₀ ∧ Fr h₀ L h' m' ∧ News h₀ L h' ((c, oc') :: fixed) ∧ oc'.data = .cell v ∧ NamesAt ys stored m₀ vals m' ∧ P i vals ∧ i ≤ n ∧ k = n + 1 - i
theorem cell_range {r : Addr} {a₀ b₀ c₀ : Int} {t₀ u₀ v₀ : Tok} {n : Nat} {c : Addr} {oc : Obj} {vc : Option Value} {fixed : List (Addr × Obj)} {m₀ : Str → Option Value} (ys stored : List Str) (vals₀ : List Value) (P : Nat → List Value → Prop)
    (hh : A.handled = none) (hk : env.scope.kind = .function) (hl : env.kindOf x = some .cell) (hc : env.cells.lookup x = some c)
    (hr : IsRange s.heap r a₀ b₀ c₀ t₀ u₀ v₀) (hsmall : Builtin.Range.small a₀ b₀ c₀ = true) (hn : Builtin.Range.rangeSize a₀ b₀ c₀ = (n : Int))
    (F : Fr h₀ env.locals s.heap m₀) (N : News h₀ env.locals s.heap ((c, oc) :: fixed)) (hoc : oc.data = .cell vc) (hcf : ∀ p ∈ fixed, p.1 ≠ c) (hkv : ∀ p ∈ ys.zip vals₀, m₀ p.1 = some p.2) (hp : P 0 vals₀)
    (turn : ∀ (i : Nat) t vals (u : Str → Option Value) h tk oc' (I : Addr) oI, i < n → oc'.data = .cell (some (.int (a₀ + i * c₀) t)) → P i vals → (∀ p ∈ (c, oc') :: fixed, p.1 < I) →
      Fr h₀ env.locals h (kstB (fun z => if stored.contains z then u z else m₀ z) (ys.zip vals)) → News h₀ env.locals h ((c, oc') :: (fixed ++ [(I, oI)])) →
      wpAny (model prog w) A (execs body env) (CellEnd h₀ env.locals c I oI fixed ys stored m₀ (P (i + 1)) { s with heap := h, toks := tk }) (fun _ _ => False) { s with heap := h, toks := tk })
    (done : ∀ vals (u : Str → Option Value) h tk oc' v, oc'.data = .cell v → P n vals → Fr h₀ env.locals h (kstB (fun z => if stored.contains z then u z else m₀ z) (ys.zip vals)) → News h₀ env.locals h ((c, oc') :: fixed) → Q .next { s with heap := h, toks := tk }) :
    wpAny (model prog w) A (pyIter (.ref r)) (fun it s₂ => codeAny (model prog w) A (.forLoop (.Name x px) it body [] env) (fun r s' => match r with | .ok f => Q f s' | .error e => cameBackBy (model prog w) A env E e s') s₂) E s := by
  refine wpAny_pyIter_range hr hsmall ?_
  have W := Walks.range (prog := prog) (w := w) hh s.heap.objs.size a₀ c₀ n
  have hI0 : h₀.get? s.heap.objs.size = none := next_is_new F
  have hIL : s.heap.objs.size ≠ env.locals := Nat.ne_of_gt F.ns.lt
  have hcI : c < s.heap.objs.size := Heap.lt_size (N _ (.head _)).1
  have hfI : ∀ p ∈ fixed, p.1 < s.heap.objs.size := fun p hp => Heap.lt_size (N _ (.tail _ hp)).1
  refine codeAny_forLoop
    (CellInv s h₀ env.locals s.heap.objs.size a₀ c₀ n c fixed ys stored m₀ P) ?_ (n + 1)
    ⟨_, s.toks, m₀, 0, oc, vc, vals₀, rfl, by show IsRangeIter _ _ _ _ _; rw [hn]; simpa using Heap.get?_push_size _ rfl, F.push _, fun p hp => ⟨Heap.get?_push_of_some _ (N p hp).1, (N p hp).2⟩, hoc, ⟨hkv, fun _ _ _ => rfl⟩, hp, Nat.zero_le _, rfl⟩
  rintro k s' ⟨h', tk, m', i, oc', v, vals, rfl, hst, F', N', hv, hnm, hP, hi, rfl⟩
  have next : ∀ h₁ : Heap, (∀ b o, b ∉ [s.heap.objs.size] → h'.get? b = some o → h₁.get? b = some o) → Fr h₀ env.locals h₁ m' ∧ News h₀ env.locals h₁ ((c, oc') :: fixed) := fun h₁ hk₁ => by
    have ne : ∀ b : Addr, b ≠ s.heap.objs.size → b ∉ [s.heap.objs.size] := fun b hb hm => hb (List.mem_singleton.mp hm)
    refine ⟨⟨F'.ns.at' fun o e => hk₁ _ o (ne _ (Ne.symm hIL)) e, fun b o e => hk₁ b o (ne b fun q => by rw [q, hI0] at e; cases e) (F'.keep b o e), F'.above⟩, fun p hp => ⟨hk₁ _ _ (ne _ ?_) (N' p hp).1, (N' p hp).2⟩⟩
    rcases List.mem_cons.mp hp with rfl | hp
    · exact Nat.ne_of_lt hcI
    · exact Nat.ne_of_lt (hfI p hp)
  by_cases hlt : i < n
  · refine W.item i _ _ _ hlt hst fun v' h₁ tk₁ hv' hst₁ hk₁ => ?_
    obtain ⟨t, rfl⟩ := hv'
    obtain ⟨F₁, N₁⟩ := next h₁ hk₁
    have hm := N₁ _ (.head _)
    refine wpAny_assign_Name (wpAny_storeName_cell hk hl hc ⟨oc', hm.1, hv⟩ fun h₂ hv₂ hs₂ => ?_)
    obtain ⟨o₂, ho₂, hd₂⟩ := hv₂
    have F₂ : Fr h₀ env.locals h₂ m' := F₁.change hs₂ hm.2.1 hm.2.2
    obtain ⟨oI, hI₂, hoI⟩ : ∃ o : Obj, h₂.get? s.heap.objs.size = some o ∧ ∀ h₃ : Heap, h₃.get? s.heap.objs.size = some o → IsRangeIter h₃ s.heap.objs.size (a₀ + ((i + 1 : Nat) : Int) * c₀) ((n : Int) - ((i + 1 : Nat) : Int)) c₀ := ⟨_, (hs₂.2 _ (Nat.ne_of_gt hcI)).trans hst₁, fun h₃ e => e⟩
    have N₂ : News h₀ env.locals h₂ ((c, o₂) :: (fixed ++ [(s.heap.objs.size, oI)])) := by
      intro p hp
      rcases List.mem_cons.mp hp with rfl | hp
      · exact ⟨ho₂, hm.2⟩
      · rcases List.mem_append.mp hp with hp | hp
        · exact ⟨(hs₂.2 _ (hcf p hp)).trans (N₁ p (.tail _ hp)).1, (N₁ p (.tail _ hp)).2⟩
        · rw [List.mem_singleton.mp hp]
          exact ⟨hI₂, hIL, hI0⟩
    rw [hnm.map] at F₂
    refine wpAny_noRaise (wpAny_mono (turn i t vals m' h₂ tk₁ o₂ _ _ hlt hd₂ hP (fun p hp => ?_) F₂ N₂) (fun f s₃ h₃ => ?_) fun _ _ e => e)
    · rcases List.mem_cons.mp hp with rfl | hp
      · exact hcI
      · exact hfI p hp
    · obtain ⟨hf, h₃', tk₃, m₃, oc₃, v₃, vals₃, rfl, F₃, N₃, hv₃, hn₃, hp₃⟩ := h₃
      have e : ∃ m, m < n + 1 - i ∧ CellInv s h₀ env.locals s.heap.objs.size a₀ c₀ n c fixed ys stored m₀ P m { s with heap := h₃', toks := tk₃ } :=
        ⟨n + 1 - (i + 1), by omega, h₃', tk₃, m₃, i + 1, oc₃, v₃, vals₃, rfl, hoI _ (N₃ (s.heap.objs.size, oI) (.tail _ (List.mem_append_right _ (.head _)))).1, F₃, fun p hp => by
          rcases List.mem_cons.mp hp with rfl | hp
          · exact N₃ _ (.head _)
          · exact N₃ _ (.tail _ (List.mem_append_left _ hp)), hv₃, hn₃, hp₃, hlt, rfl⟩
      rcases hf with rfl | rfl <;> exact e
  · have hin : i = n := by omega
    subst hin
    refine W.done _ _ _ hst fun h₁ tk₁ hk₁ => wpAny_execs_nil ?_
    obtain ⟨F₁, N₁⟩ := next h₁ hk₁
    rw [hnm.map] at F₁
    exact done vals m' h₁ tk₁ oc' v hv hP F₁ N₁
end
end
-- part P5
section
open PySem PySem.W PyProof.Rows
noncomputable def gl (k : Nat) (n f : Int) : List Int :=
  if k = 0 then (if f = 53 then l62 0 (n - 1) else if f = 52 then l63 0 (n - 1) else if f = 62 then l62 0 n else if f = 63 then l63 0 n else [f])
  else (if f = 49 then l62 1 (n - 1) else if f = 61 then l63 1 (n - 1) else if f = 62 then l62 1 n else if f = 63 then l63 1 n else [f])
theorem glown0 (w : World) (f n : Int) (t u v : Tok) (h0 : 1 ≤ n) (h6 : n ≤ 6) : Con w 158 [.int f t, .int n u, .int 0 v] [] 2 (fun _ => True) (ListR (gl 0 n f)) := grown0 w f n t u v h0 h6
theorem glown1 (w : World) (f n : Int) (t u v : Tok) (h0 : 1 ≤ n) (h6 : n ≤ 6) : Con w 158 [.int f t, .int n u, .int 1 v] [] 2 (fun _ => True) (ListR (gl 1 n f)) := grown1 w f n t u v h0 h6
noncomputable def gsize (k : Nat) (n : Int) (R : List Int) : Int := (R.map fun f => ((gl k n f).length : Int)).sum
noncomputable def nought (k : Nat) (R : List Int) : Nat → Int
  | 0 => 0
  | i + 1 => nought k R i + (-(gsize k ((i : Int) + 1) R + nought k R i)).fmod 4
noncomputable def growN (k : Nat) : Nat → List Int → List Int
  | 0, F => F
  | n + 1, F => (growN k n F).flatMap (gro k)
theorem growN_append (k : Nat) : ∀ (n : Nat) (a b : List Int), growN k n (a ++ b) = growN k n a ++ growN k n b
  | 0, _, _ => rfl
  | n + 1, a, b => by
    show (growN k n (a ++ b)).flatMap (gro k) = _
    rw [growN_append k n a b, List.flatMap_append]
    rfl
theorem growN_flat (k : Nat) (n : Nat) : ∀ R : List Int, growN k n R = R.flatMap fun f => growN k n [f]
  | [] => by
    induction n with
    | zero => rfl
    | succ n ih => show (growN k n []).flatMap (gro k) = _; rw [ih]; rfl
  | f :: r => by
    rw [show f :: r = [f] ++ r from rfl, growN_append, growN_flat k n r, List.flatMap_append]
    simp
theorem grow_zero {k : Nat} (hk : k = 0 ∨ k = 1) (n m : Nat) : growN k n (List.replicate m 0) = List.replicate m 0 := by
  have g0 : gro k 0 = [0] := by rcases hk with rfl | rfl <;> rfl
  have fl : ∀ m : Nat, (List.replicate m (0 : Int)).flatMap (gro k) = List.replicate m 0 := by
    intro m
    induction m with
    | zero => rfl
    | succ m ih => rw [List.replicate_succ, List.flatMap_cons, ih, g0]; rfl
  induction n with
  | zero => rfl
  | succ n ih => show (growN k n _).flatMap (gro k) = _; rw [ih, fl]
theorem growN_succ (k : Nat) : ∀ (n : Nat) (F : List Int), growN k (n + 1) F = growN k n (F.flatMap (gro k))
  | 0, _ => rfl
  | n + 1, F => by
    show (growN k (n + 1) F).flatMap (gro k) = _
    rw [growN_succ k n F]
    rfl
theorem tri_all : ∀ (k : Fin 2) (n : Fin 7), l62 k.val (n.val : Int) = growN k.val n.val [62] ∧ l63 k.val (n.val : Int) = growN k.val n.val [63] := by decide +kernel
theorem tri_grow {k : Nat} (hk : k = 0 ∨ k = 1) {n : Nat} (h6 : n ≤ 6) : l62 k (n : Int) = growN k n [62] ∧ l63 k (n : Int) = growN k n [63] :=
  tri_all ⟨k, by omega⟩ ⟨n, by omega⟩
theorem gl_grow {k : Nat} (hk : k = 0 ∨ k = 1) {f n : Int} (h1 : 1 ≤ n) (h6 : n ≤ 6) : gl k n f = growN k n.toNat [f] := by
  obtain ⟨m, rfl⟩ : ∃ m : Nat, n = (m : Int) + 1 := ⟨(n - 1).toNat, by omega⟩
  have e1 : ((m : Int) + 1).toNat = m + 1 := by omega
  have e2 : (m : Int) + 1 - 1 = (m : Int) := by omega
  have e3 : (m : Int) + 1 = ((m + 1 : Nat) : Int) := by omega
  obtain ⟨a1, a2⟩ := tri_grow hk (n := m) (by omega)
  obtain ⟨b1, b2⟩ := tri_grow hk (n := m + 1) (by omega)
  have other : ∀ g : Int, gro k g = [g] → growN k (m + 1) [g] = [g] := by
    intro g hg
    have : ∀ j : Nat, growN k j [g] = [g] := by
      intro j
      induction j with
      | zero => rfl
      | succ j ih => show (growN k j [g]).flatMap (gro k) = _; rw [ih]; simp [hg]
    exact this _
  rw [e1]
  rcases hk with rfl | rfl
  · unfold gl
    rw [if_pos rfl, e2]
    by_cases c1 : f = 53
    · subst c1; rw [if_pos rfl, a1, growN_succ]; rfl
    by_cases c2 : f = 52
    · subst c2; rw [if_neg (by decide), if_pos rfl, a2, growN_succ]; rfl
    by_cases c3 : f = 62
    · subst c3; rw [if_neg (by decide), if_neg (by decide), if_pos rfl, e3, b1]
    by_cases c4 : f = 63
    · subst c4; rw [if_neg (by decide), if_neg (by decide), if_neg (by decide), if_pos rfl, e3, b2]
    rw [if_neg c1, if_neg c2, if_neg c3, if_neg c4, other f (by unfold gro; rw [if_pos rfl, if_neg c3, if_neg c4, if_neg c1, if_neg c2])]
  · unfold gl
    rw [if_neg (by decide), e2]
    by_cases c1 : f = 49
    · subst c1; rw [if_pos rfl, a1, growN_succ]; rfl
    by_cases c2 : f = 61
    · subst c2; rw [if_neg (by decide), if_pos rfl, a2, growN_succ]; rfl
    by_cases c3 : f = 62
    · subst c3; rw [if_neg (by decide), if_neg (by decide), if_pos rfl, e3, b1]
    by_cases c4 : f = 63
    · subst c4; rw [if_neg (by decide), if_neg (by decide), if_neg (by decide), if_pos rfl, e3, b2]
    rw [if_neg c1, if_neg c2, if_neg c3, if_neg c4, other f (by unfold gro; rw [if_neg (by decide), if_neg c3, if_neg c4, if_neg c1, if_neg c2])]
theorem sum_len (g : Int → List Int) : ∀ R : List Int, (R.map fun f => ((g f).length : Int)).sum = ((R.flatMap g).length : Int)
  | [] => rfl
  | f :: r => by
    rw [List.map_cons, List.sum_cons, sum_len g r, List.flatMap_cons, List.length_append]
    omega
theorem flat_congr {R : List Int} {g h : Int → List Int} (e : ∀ f, g f = h f) : R.flatMap g = R.flatMap h := by rw [funext e]
theorem stepN_gl {k : Nat} (hk : k = 0 ∨ k = 1) (R : List Int) : ∀ n : Nat, n ≤ 6 → 0 ≤ nought k R n ∧ stepN k n R = growN k n R ++ List.replicate (nought k R n).toNat 0
  | 0, _ => ⟨Int.le_refl _, by show R = R ++ []; simp⟩
  | n + 1, h => by
    obtain ⟨h0, ih⟩ := stepN_gl hk R n (by omega)
    have hz : ∀ m : Nat, (List.replicate m (0 : Int)).flatMap (gro k) = List.replicate m 0 := fun m => grow_zero hk 1 m
    have hs : gsize k ((n : Int) + 1) R = ((growN k (n + 1) R).length : Int) := by
      unfold gsize
      rw [sum_len (fun f => gl k ((n : Int) + 1) f) R, growN_flat k (n + 1) R]
      congr 2
      exact flat_congr fun f => by
        rw [gl_grow hk (by omega) (by omega)]
        congr 1
    have hfl : (growN k n R ++ List.replicate (nought k R n).toNat 0).flatMap (gro k) = growN k (n + 1) R ++ List.replicate (nought k R n).toNat 0 := by
      rw [List.flatMap_append, hz]
      rfl
    have e4 : ∀ x : Int, x.fmod 4 = x % 4 := fun x => Int.fmod_eq_emod_of_nonneg x (by decide)
    have hnn : nought k R (n + 1) = nought k R n + (-(((growN k (n + 1) R).length : Int) + nought k R n)) % 4 := by
      show nought k R n + (-(gsize k ((n : Int) + 1) R + nought k R n)).fmod 4 = _
      rw [hs, e4]
    refine ⟨by rw [hnn]; omega, ?_⟩
    show stepF k (stepN k n R) = _
    rw [ih]
    unfold stepF
    rw [hfl, hnn, List.append_assoc, List.replicate_append_replicate]
    congr 2
    rw [List.length_append, List.length_replicate]
    obtain ⟨z, hz'⟩ := Int.eq_ofNat_of_zero_le h0
    rw [hz', ← Int.natCast_add, pad_neg, ← Int.natCast_add, Int.toNat_natCast, Int.toNat_natCast]
theorem due_eq {k : Nat} (hk : k = 0 ∨ k = 1) (R : List Int) {n : Int} (h1 : 1 ≤ n) (h6 : n ≤ 6) : R.flatMap (gl k n) ++ List.replicate (nought k R n.toNat).toNat 0 = stepN k n.toNat R := by
  rw [(stepN_gl hk R n.toNat (by omega)).2, growN_flat k n.toNat R]
  congr 1
  exact flat_congr fun f => gl_grow hk h1 h6
end
-- part C2
section
open PySem PySem.W PyProof.Rows PySem.Calls
noncomputable abbrev lc2 (elt : Expr) (t1 i1 t2 i2 : Expr) (scope : Scope) (pos : Pos) : Expr := .ListComp elt [⟨t1, i1, [], 0⟩, ⟨t2, i2, [], 0⟩] scope pos
theorem turn_two0 (elt t1 i1 t2 i2 : Expr) (scope : Scope) (pos : Pos) (it acc : Value) (env : Env) :
    compTurn (lc2 elt t1 i1 t2 i2 scope pos) 0 it acc env = (standAt i1.pos >>= fun _ => pyNext it >>= fun r => match r with
      | none => pure (.done .next)
      | some v => letOwnedTupleGo t1 it v >>= fun _ => assign t1 env v >>= fun _ => eval i2 env >>= fun x => standAt i2.pos >>= fun _ => foldedSetIterable i2 env x >>= fun x => holding [x] (pyIter x) >>= fun it2 => runOwn (.compStart (lc2 elt t1 i1 t2 i2 scope pos) 1 it2 acc env) env >>= fun _ =>
          again (.compLoop (lc2 elt t1 i1 t2 i2 scope pos) 0 it acc env)) := by rfl
theorem turn_two1 (elt t1 i1 t2 i2 : Expr) (scope : Scope) (pos : Pos) (it acc : Value) (env : Env) :
    compTurn (lc2 elt t1 i1 t2 i2 scope pos) 1 it acc env = (standAt i2.pos >>= fun _ => pyNext it >>= fun r => match r with
      | none => pure (.done .next)
      | some v => letOwnedTupleGo t2 it v >>= fun _ => assign t2 env v >>= fun _ => (eval elt env >>= fun x => call (.builtin "list.append") [acc, x] >>= fun _ => pure ()) >>= fun _ =>
          again (.compLoop (lc2 elt t1 i1 t2 i2 scope pos) 1 it acc env)) := by rfl
section
variable {prog : Program} {w : World} {A : Around} {s : Shared} {R : Result → Shared → Prop} {elt t1 i1 t2 i2 : Expr} {scope : Scope} {pos : Pos} {it acc : Value} {env : Env}
theorem loop_two1 (I : Nat → Shared → Prop)
    (turn : ∀ n s, I n s → wpAny (model prog w) A (pyNext it) (fun r s₁ => match r with
      | none => R (.ok .next) s₁
      | some v => wpAny (model prog w) A (assign t2 env v) (fun _ s₂ => wpAny (model prog w) A (eval elt env) (fun x s₃ =>
          wpAny (model prog w) A (call (.builtin "list.append") [acc, x]) (fun _ s₄ => ∃ m, m < n ∧ I m s₄) (fun _ _ => False) s₃) (fun _ _ => False) s₂) (fun _ _ => False) s₁) (fun _ _ => False) s)
    (n : Nat) (h : I n s) (ht : ∀ v, letOwnedTupleGo t2 it v = pure () := by intro _; rfl) :
    codeAny (model prog w) A (.compLoop (lc2 elt t1 i1 t2 i2 scope pos) 1 it acc env) R s := by
  refine codeAny_loop rfl I (fun n s hI => ?_) n h
  show wpAny _ _ ((compTurn (lc2 elt t1 i1 t2 i2 scope pos) 1 it acc env).onRaise (fun x => do noteFrame x env; theTreesLotGoes x)) _ _ s
  refine wpAny_noted (wpAny_noRaise ?_)
  rw [turn_two1]
  refine wpAny_bind (wpAny_standAt (wpAny_bind (wpAny_mono (turn n s hI) (fun r s₁ h₁ => ?_) fun _ _ h' => h')))
  cases r with
  | none => exact wpAny_pure h₁
  | some v =>
    refine wpAny_bind (wpAny_of_eq (ht v) ?_)
    exact wpAny_bind (wpAny_mono h₁ (fun _ s₂ h₂ => wpAny_bind (wpAny_bind (wpAny_mono h₂ (fun x s₃ h₃ => wpAny_bind (wpAny_mono h₃
      (fun _ s₄ h₄ => wpAny_pure (wpAny_pure ⟨rfl, h₄⟩)) fun _ _ h' => h')) fun _ _ h' => h'))) fun _ _ h' => h')
theorem start_two1
    (h0 : codeAny (model prog w) A (.compLoop (lc2 elt t1 i1 t2 i2 scope pos) 1 it acc env) R s)
    (h : wpAny (model prog w) A (pyIter it) (fun it' s' => codeAny (model prog w) A (.compLoop (lc2 elt t1 i1 t2 i2 scope pos) 1 it' acc env) R s') (fun _ _ => False) s) :
    codeAny (model prog w) A (.compStart (lc2 elt t1 i1 t2 i2 scope pos) 1 it acc env) R s := by
  refine codeAny_of_tree ?_
  show wpAny _ _ ((compStart (lc2 elt t1 i1 t2 i2 scope pos) 1 it acc env).onRaise (fun x => do noteFrame x env; standAt theWindowsPlace)) _ _ s
  refine wpAny_notedAt (wpAny_noRaise ?_)
  unfold compStart
  show wpAny _ _ (ask >>= _) _ _ s
  refine wpAny_bind (wpAny_askSetting (wpAny_ite ?_))
  split
  · first
      | exact wpAny_bind (wpAny_pure (wpAny_pure (And.intro rfl h0)))
      | exact wpAny_pure (And.intro rfl h0)
  · first
      | exact wpAny_bind (wpAny_rule (wpAny_bind (wpAny_standAt (wpAny_bind (wpAny_mono h (fun it' s' h' => wpAny_pure (And.intro rfl h')) fun _ _ x => x)))))
      | (refine wpAny_bind (wpAny_rule ?_); show wpAny _ _ (standAt i2.pos >>= _) _ _ s; exact wpAny_bind (wpAny_standAt (wpAny_bind (wpAny_mono h (fun it' s' h' => wpAny_pure (And.intro rfl h')) fun _ _ x => x))))
theorem loop_two0 (I : Nat → Shared → Prop)
    (turn : ∀ n s, I n s → wpAny (model prog w) A (pyNext it) (fun r s₁ => match r with
      | none => R (.ok .next) s₁
      | some v => wpAny (model prog w) A (assign t1 env v) (fun _ s₂ => wpAny (model prog w) A (eval i2 env) (fun x s₃ =>
          wpAny (model prog w) A (pyIter x) (fun it2 s₄ => codeAny (model prog w) A (.compStart (lc2 elt t1 i1 t2 i2 scope pos) 1 it2 acc env) (fun r s₅ => (∃ f, r = .ok f) ∧ ∃ m, m < n ∧ I m s₅) s₄) (fun _ _ => False) s₃) (fun _ _ => False) s₂) (fun _ _ => False) s₁) (fun _ _ => False) s)
    (n : Nat) (h : I n s) (ht : ∀ v, letOwnedTupleGo t1 it v = pure () := by intro _; rfl) (hs : ∀ x, foldedSetIterable i2 env x = pure x := by intro _; rfl) :
    codeAny (model prog w) A (.compLoop (lc2 elt t1 i1 t2 i2 scope pos) 0 it acc env) R s := by
  refine codeAny_loop rfl I (fun n s hI => ?_) n h
  show wpAny _ _ ((compTurn (lc2 elt t1 i1 t2 i2 scope pos) 0 it acc env).onRaise (fun x => do noteFrame x env; theTreesLotGoes x)) _ _ s
  refine wpAny_noted (wpAny_noRaise ?_)
  rw [turn_two0]
  refine wpAny_bind (wpAny_standAt (wpAny_bind (wpAny_mono (turn n s hI) (fun r s₁ h₁ => ?_) fun _ _ h' => h')))
  cases r with
  | none => exact wpAny_pure h₁
  | some v =>
    refine wpAny_bind (wpAny_of_eq (ht v) ?_)
    refine wpAny_bind (wpAny_mono h₁ (fun _ s₂ h₂ => wpAny_bind (wpAny_mono h₂ (fun x s₃ h₃ => wpAny_bind (wpAny_standAt (wpAny_bind (wpAny_of_eq (hs x) (wpAny_bind (wpAny_holding (wpAny_mono h₃ (fun it2 s₄ h₄ => ?_) fun _ _ h' => h'))))))) fun _ _ h' => h')) fun _ _ h' => h')
    refine wpAny_bind (wpAny_runOwn (codeAny_mono h₄ fun r s₅ h₅ => ?_))
    obtain ⟨⟨f, rfl⟩, h₅⟩ := h₅
    exact wpAny_pure ⟨rfl, h₅⟩
end
end
-- part C3
section
open PySem PySem.W PyProof.Rows PySem.Calls
section
variable {prog : Program} {w : World} {A : Around} {s : Shared} {t1 i1 i2 : Expr} {scope : Scope} {pos : Pos} {cenv : Env} {y : Str} {py pe : Pos}
theorem inner_list {C D J l9 : Addr} {vs ys : List Value} {m' : Str → Option Value} {P : Shared → Prop}
    (hh : A.handled = none) (hC : cenv.locals = C) (hk : cenv.scope.kind = .function) (hl : cenv.kindOf y = some .local) (hb : (y == ("__debug__" : Str)) = false)
    (hit : s.heap.IsListIter J l9 0) (hls : s.heap.IsList l9 vs.toArray) (hD : s.heap.get? D = some (LCg.lst ys)) (hn : s.heap.Ns C m')
    (hJD : D ≠ J) (hJC : C ≠ J) (hJl : l9 ≠ J) (hDC : D ≠ C) (hlC : l9 ≠ C) (hlD : l9 ≠ D) (hsz : ys.length + vs.length ≤ 16777216)
    (done : ∀ h' tk m'', h'.get? D = some (LCg.lst (ys ++ vs)) → h'.Ns C m'' → (∀ b o, b ≠ C → b ≠ D → b ≠ J → s.heap.get? b = some o → h'.get? b = some o) → P { s with heap := h', toks := tk }) :
    codeAny (model prog w) A (.compStart (lc2 (.Name y pe) t1 i1 (.Name y py) i2 scope pos) 1 (.ref J) (.ref D) cenv) (fun r s₅ => (∃ f, r = .ok f) ∧ P s₅) s := by
  have hp : (cenv.scope.kind == .class || (cenv.scope.kind == .module && cenv.locals != cenv.globals)) = false := by rw [hk]; rfl
  have loop : codeAny (model prog w) A (.compLoop (lc2 (.Name y pe) t1 i1 (.Name y py) i2 scope pos) 1 (.ref J) (.ref D) cenv) (fun r s₅ => (∃ f, r = .ok f) ∧ P s₅) s := by
    refine loop_two1 (fun k s' => ∃ h' tk j m'', s' = { s with heap := h', toks := tk } ∧ j ≤ vs.length ∧ k = vs.length + 1 - j ∧ h'.IsListIter J l9 j ∧ h'.IsList l9 vs.toArray ∧ h'.get? D = some (LCg.lst (ys ++ vs.take j)) ∧ h'.Ns C m'' ∧ ∀ b o, b ≠ C → b ≠ D → b ≠ J → s.heap.get? b = some o → h'.get? b = some o) ?_ (vs.length + 1)
      ⟨s.heap, s.toks, 0, m', rfl, Nat.zero_le _, rfl, hit, hls, by simpa using hD, hn, fun _ _ _ _ _ e => e⟩
    rintro k s' ⟨h', tk, j, m'', rfl, hj, rfl, hit', hls', hD', hn', keep⟩
    by_cases hlt : j < vs.length
    · have hv : vs[j]? = some vs[j] := List.getElem?_eq_getElem hlt
      refine wpAny_pyNext_list_item hit' hls' (x := vs[j]) (by simpa using hv) fun h₁ hit₁ hs₁ => ?_
      have hn₁ : h₁.Ns cenv.locals m'' := by rw [hC]; exact hn'.sameBut hs₁ hJC
      refine wpAny_assign_Name (wpAny_storeName_local hl hn₁ (fun h₂ hn₂ hs₂ => ?_) hp)
      rw [hC] at hs₂
      refine wpAny_Name (wpAny_loadName_local hk hl hn₂ (v := vs[j]) (by simp) ?_) hb
      have hD₁ : h₁.get? D = some (LCg.lst (ys ++ vs.take j)) := (hs₁.2 D hJD).trans hD'
      have hD₂ : h₂.get? D = some (LCg.lst (ys ++ vs.take j)) := (hs₂.2 D hDC).trans hD₁
      refine append_at (hsz := by show (ys ++ vs.take j).toArray.size ≤ sizeLine; rw [List.size_toArray, List.length_append, List.length_take, sizeLine_eq]; omega) hD₂ fun h₅ hs₅ hD₅ => ?_
      refine ⟨vs.length + 1 - (j + 1), by omega, h₅, _, j + 1, _, rfl, hlt, rfl, ?_, ?_, ?_, (show h₂.Ns C _ by rw [← hC]; exact hn₂).sameBut hs₅ (Ne.symm hDC), ?_⟩
      · exact (hit₁.extBut hs₂.extBut (Ne.symm hJC)).extBut hs₅.extBut (Ne.symm hJD)
      · exact ((hls'.extBut hs₁.extBut hJl).extBut hs₂.extBut hlC).extBut hs₅.extBut hlD
      · rw [List.take_add_one, hv, ← List.append_assoc]
        exact hD₅.trans (congrArg some (LCg.lst_snoc _ _))
      · intro b o b1 b2 b3 e
        exact (hs₅.2 b b2).trans ((hs₂.2 b b1).trans ((hs₁.2 b b3).trans (keep b o b1 b2 b3 e)))
    · obtain rfl : j = vs.length := Nat.le_antisymm hj (Nat.not_lt.mp hlt)
      rw [List.take_length] at hD'
      refine wpAny_pyNext_list_end hh hit' hls' (by simp) fun h₁ he₁ => ?_
      refine ⟨⟨_, rfl⟩, done h₁ tk m'' (he₁ D _ hJD hD') ?_ fun b o b1 b2 b3 e => he₁ b o b3 (keep b o b1 b2 b3 e)⟩
      exact hn'.at' fun o e => he₁ C o hJC e
  exact start_two1 loop (wpAny_pyIter_listiter hit loop)
end
end
-- part C4
section
open PySem PySem.W PyProof.Rows PySem.Calls
section
variable {prog : Program} {w : World} {A : Around} {E : Value → Shared → Prop} {s : Shared} {h₀ : Heap} {L : Addr} {m : Str → Option Value} {env : Env}
theorem flat_le (g : Int → List Int) : ∀ R : List Int, (∀ f ∈ R, (g f).length ≤ 64) → (R.flatMap g).length ≤ 64 * R.length
  | [], _ => by simp
  | f :: r, h => by
    rw [List.flatMap_cons, List.length_append, List.length_cons]
    have h1 := h f (by simp)
    have h2 := flat_le g r fun f hf => h f (by simp [hf])
    omega
noncomputable def ItemEnd (h₀ : Heap) (L : Addr) (m : Str → Option Value) (G : List Int) (led : List (Addr × Obj)) (s₁ : Shared) (v : Value) (s₂ : Shared) : Prop :=
  ∃ l vs nn h' tk, v = .ref l ∧ s₂ = { s₁ with heap := h', toks := tk } ∧ Fr h₀ L h' m ∧ News h₀ L h' ((l, W.listOf (List.toArray vs) nn) :: led) ∧ (∀ p ∈ led, p.1 ≠ l) ∧ IntsAre vs G
noncomputable def Src2 (prog : Program) (w : World) (A : Around) (h₀ : Heap) (L : Addr) (m : Str → Option Value) (env : Env) (x : Str) (i2 : Expr) (scope : Scope) (cl : List (Str × Addr)) (Q : Value → Shared → Prop) (xv : Value) (s₁ : Shared) : Prop :=
  ∃ (ax : Addr) (us : List Value) (nr : Nat) (news : List (Addr × Obj)) (R : List Int) (g : Int → List Int), xv = .ref ax ∧ A.handled = none ∧ Fr h₀ L s₁.heap m ∧ News h₀ L s₁.heap news ∧ (ax, W.listOf us.toArray nr) ∈ news ∧ IntsAre us R ∧ R.length ≤ 1000 ∧ (∀ f ∈ R, (g f).length ≤ 64) ∧
    (∀ f t (I : Addr) oI C oC D m₂ ys h tk, f ∈ R → LCg.NsObj oC m₂ → m₂ x = some (.int f t) → Fr h₀ L h m → News h₀ L h ((I, oI) :: (C, oC) :: (D, LCg.lst ys) :: news) → LCg.Off3 I C D news → ((@Ne Nat I C) ∧ (@Ne Nat I D) ∧ (@Ne Nat C D)) →
      wpAny (model prog w) A (eval i2 (compEnvC scope cl C env)) (ItemEnd h₀ L m (g f) ((I, oI) :: (C, oC) :: (D, LCg.lst ys) :: news) { s₁ with heap := h, toks := tk }) (fun _ _ => False) { s₁ with heap := h, toks := tk }) ∧
    (∀ D ys h tk, IntsAre ys (R.flatMap g) → Fr h₀ L h m → News h₀ L h ((D, LCg.lst ys) :: news) → LCg.Off1 D news → Q (.ref D) { s₁ with heap := h, toks := tk })
noncomputable def TwoInv (s₁ : Shared) (h₀ : Heap) (L Ia ax Ca Da : Addr) (m : Str → Option Value) (news : List (Addr × Obj)) (R : List Int) (g : Int → List Int) (k : Nat) (s' : Shared) : Prop :=
  ∃ h' tk j m' ys, s' = { s₁ with heap := h', toks := tk } ∧ j ≤ R.length ∧ k = R.length + 1 - j ∧ h'.IsListIter Ia ax j ∧ Fr h₀ L h' m ∧ h'.Ns Ca m' ∧ News h₀ L h' ((Da, LCg.lst ys) :: news) ∧ IntsAre ys ((R.take j).flatMap g)
theorem comp_two {i1 i2 : Expr} {x y : Str} {px py pe : Pos} {scope : Scope} {cl : List (Str × Addr)} {pos : Pos} {Q : Value → Shared → Prop} (F₀ : Fr h₀ L s.heap m)
    (hclos : closureFor scope env = pure cl) (hcell : ∀ y ∈ scope.names, y.2 ≠ .cell) (hkind : scope.kind = .function)
    (hnames : ∀ y ∈ scope.names, y.2 = .local → scope.names.lookup y.1 = some .local) (hx : scope.names.lookup x = some .local) (hy : scope.names.lookup y = some .local) (hb : (y == ("__debug__" : Str)) = false)
    (h : wpAny (model prog w) A (eval i1 env) (Src2 prog w A h₀ L m env x i2 scope cl Q) E s)
    (hs : ∀ x, foldedSetIterable i1 env x = pure x := by intro _; rfl) (hs2 : ∀ C x, foldedSetIterable i2 (compEnvC scope cl C env) x = pure x := by intro _ _; rfl) :
    wpAny (model prog w) A (eval (lc2 (.Name y pe) (.Name x px) i1 (.Name y py) i2 scope pos) env) Q E s := by
  have := F₀
  rw [eval_ListComp]
  refine wpAny_comprehension_free (use := none) rfl hs hclos hkind hnames (wpAny_mono h (fun xv s₁ h₁ => ?_) fun _ _ e => e)
  obtain ⟨ax, us, nr, news, R, g, rfl, hh, F, N, hax, hI, hR, hg, turn, fin⟩ := h₁
  have hl : s₁.heap.IsList ax us.toArray := ⟨_, (N _ hax).1, rfl, _, rfl⟩
  refine wpAny_pyIter_list hl ?_
  refine wpAny_newObj_type (wpAny_newFunctionEnv hcell (by intro y hy; simp at hy) (fun h₁ hns₁ hsb₁ => ?_) hkind)
  dsimp only at hns₁ hsb₁ ⊢
  generalize hH1 : s₁.heap.push { cls := .type "list_iterator", data := .fields #[.ref ax, .int 0 0] } = H1 at hns₁ hsb₁ ⊢
  generalize hH2 : H1.push { cls := .type "list", dict := none, data := .seq ([] : List Value).toArray } = H2 at hns₁ hsb₁ ⊢
  have hD : H1.objs.size = s₁.heap.objs.size + 1 := by rw [← hH1, Heap.size_push]
  have hC : H2.objs.size = s₁.heap.objs.size + 1 + 1 := by rw [← hH2, Heap.size_push, hD]
  have old1 : ∀ b o, s₁.heap.get? b = some o → H1.get? b = some o := fun b o e => hH1 ▸ Heap.get?_push_of_some _ e
  have old2 : ∀ b o, H1.get? b = some o → h₁.get? b = some o := fun b o e => hsb₁.extBut b o (by have := Heap.lt_size e; show b ≠ H2.objs.size; rw [hC]; rw [hD] at this; exact Nat.ne_of_lt (Nat.lt_succ_of_lt this)) (Heap.get?_push_of_some _ (hH2 ▸ Heap.get?_push_of_some _ e))
  have old : ∀ b o, s₁.heap.get? b = some o → h₁.get? b = some o := fun b o e => old2 b o (old1 b o e)
  have hit₁ : h₁.IsListIter s₁.heap.objs.size ax 0 := ⟨_, old2 _ _ (hH1 ▸ Heap.get?_push_size _ rfl), rfl, rfl⟩
  have hacc : h₁.get? H1.objs.size = some (LCg.lst []) := hsb₁.extBut _ _ (by show H1.objs.size ≠ H2.objs.size; rw [hC, hD]; exact Nat.ne_of_lt (Nat.lt_succ_self _)) (Heap.get?_push_of_some _ (hH2 ▸ Heap.get?_push_size _ rfl))
  have fresh₀ : ∀ a, s₁.heap.objs.size ≤ a → h₀.get? a = none := fun a ha => by
    cases e : h₀.get? a with
    | none => rfl
    | some o' => exact absurd (Heap.lt_size (F.keep a o' e)) (Nat.not_lt.mpr ha)
  have hLlt : L < s₁.heap.objs.size := F.ns.lt
  have below : ∀ p ∈ news, p.1 < s₁.heap.objs.size := fun p hp => Heap.lt_size (N p hp).1
  have haxlt : ax < s₁.heap.objs.size := below _ hax
  generalize hIa : s₁.heap.objs.size = Ia at *
  generalize H1.objs.size = Da at *
  generalize H2.objs.size = Ca at *
  have hID : Ia ≠ Da := by omega
  have hIC : Ia ≠ Ca := by omega
  have hCD : Ca ≠ Da := by omega
  have off : LCg.Off3 Ia Ca Da news := LCg.Off3.of fun p hp => ⟨Nat.ne_of_lt (below p hp), Nat.ne_of_lt (Nat.lt_trans (below p hp) (by omega)), Nat.ne_of_lt (Nat.lt_trans (below p hp) (by omega))⟩
  have hCL : Ca ≠ L := Nat.ne_of_gt (Nat.lt_trans hLlt (by omega))
  have hDL : Da ≠ L := Nat.ne_of_gt (Nat.lt_trans hLlt (by omega))
  have hIL : Ia ≠ L := Nat.ne_of_gt hLlt
  have hI₀ : h₀.get? Ia = none := fresh₀ _ (Nat.le_refl _)
  have hD₀ : h₀.get? Da = none := fresh₀ _ (by omega)
  have hC₀ : h₀.get? Ca = none := fresh₀ _ (by omega)
  have hvl : us.length = R.length := hI.length
  have loop : ∀ s₃ : Shared, s₃ = { s₁ with heap := h₁, toks := s₁.toks + ([] : List (Str × Value)).length } →
      codeAny (model prog w) A (.compLoop (lc2 (.Name y pe) (.Name x px) i1 (.Name y py) i2 scope pos) 0 (.ref Ia) (.ref Da) (compEnvC scope cl Ca env)) (compPost (model prog w) A E none Q (.ref Da) Ca) s₃ := by
    rintro s₃ rfl
    refine loop_two0 (TwoInv s₁ h₀ L Ia ax Ca Da m news R g) ?_ (R.length + 1)
      ⟨h₁, _, 0, _, [], rfl, Nat.zero_le _, rfl, hit₁, ⟨F.ns.at' fun o e => old _ o e, fun b o e => old b o (F.keep b o e), F.above⟩, hns₁, fun p hp => ?_, .nil⟩ (by intro _; rfl) (hs2 Ca)
    · rintro k s' ⟨h', tk, j, m', ys, rfl, hj, rfl, hit', F', hn', N', hys⟩
      have hls' : h'.IsList ax us.toArray := ⟨_, (N' _ (.tail _ hax)).1, rfl, _, rfl⟩
      by_cases hlt : j < R.length
      · have hRj : R[j]? = some R[j] := List.getElem?_eq_getElem hlt
        obtain ⟨t, ht⟩ := hI.get j _ hRj
        refine wpAny_pyNext_list_item hit' hls' (x := .int R[j] t) (by simpa using ht) fun h₂ hit₂ hs₂ => ?_
        have hn₂ : h₂.Ns Ca m' := hn'.sameBut hs₂ (Ne.symm hIC)
        refine wpAny_assign_Name (wpAny_storeName_local (lookup_relabel_local hx) hn₂ (fun h₃ hn₃ hs₃ => ?_) (by simp [compEnvC, relabel, hkind]))
        obtain ⟨oI, heI, hIc, hId⟩ := hit₂
        obtain ⟨oC, heC, hoC⟩ := LCg.ns_obj hn₃
        have heI₃ : h₃.get? Ia = some oI := (hs₃.2 Ia hIC).trans heI
        have F₃ : Fr h₀ L h₃ m := (F'.change hs₂ hIL hI₀).change hs₃ hCL hC₀
        have off3 := off.mem
        have N₃ : News h₀ L h₃ ((Ia, oI) :: (Ca, oC) :: (Da, LCg.lst ys) :: news) := fun p hp => by
          rcases List.mem_cons.mp hp with rfl | hp
          · exact ⟨heI₃, hIL, hI₀⟩
          · rcases List.mem_cons.mp hp with rfl | hp
            · exact ⟨heC, hCL, hC₀⟩
            · have z := N' p hp
              have z1 : p.1 ≠ Ia ∧ p.1 ≠ Ca := by
                rcases List.mem_cons.mp hp with rfl | hp
                · exact ⟨Ne.symm hID, Ne.symm hCD⟩
                · exact ⟨(off3 p hp).1, (off3 p hp).2.1⟩
              exact ⟨(hs₃.2 _ z1.2).trans ((hs₂.2 _ z1.1).trans z.1), z.2⟩
        refine wpAny_mono (turn R[j] t Ia oI Ca oC Da _ ys h₃ _ (List.getElem_mem hlt) hoC (by simp) F₃ N₃ off ⟨hIC, hID, hCD⟩) (fun v s₄ h₄ => ?_) fun _ _ e => e
        obtain ⟨l, vs, nn, h₄, tk₄, rfl, rfl, F₄, N₄, hne, hvs⟩ := h₄
        have zl := N₄ _ (.head _)
        have zI := (N₄ _ (.tail _ (.head _))).1
        have zC := (N₄ _ (.tail _ (.tail _ (.head _)))).1
        have zD := (N₄ _ (.tail _ (.tail _ (.tail _ (.head _))))).1
        have nI := hne _ (.head _)
        have nC := hne _ (.tail _ (.head _))
        have nD := hne _ (.tail _ (.tail _ (.head _)))
        refine wpAny_pyIter_list (items := vs.toArray) ⟨_, zl.1, rfl, _, rfl⟩ ?_
        have hyl : ys.length ≤ 64000 := by
          rw [hys.length]
          exact Nat.le_trans (flat_le g (R.take j) fun f hf => hg f (List.mem_of_mem_take hf)) (by rw [List.length_take]; omega)
        have hvl2 : vs.length ≤ 64 := by rw [hvs.length]; exact hg _ (List.getElem_mem hlt)
        refine inner_list (C := Ca) (D := Da) (J := h₄.objs.size) (l9 := l) (vs := vs) (ys := ys) (m' := _) hh rfl (by simp [compEnvC, relabel, hkind]) (lookup_relabel_local hy) hb ⟨_, Heap.get?_push_size _ rfl, rfl, rfl⟩ ⟨_, Heap.get?_push_of_some _ zl.1, rfl, _, rfl⟩ (Heap.get?_push_of_some _ zD) (hoC.ns (Heap.get?_push_of_some _ zC)) (Nat.ne_of_lt (Heap.lt_size zD)) (Nat.ne_of_lt (Heap.lt_size zC)) (Nat.ne_of_lt (Heap.lt_size zl.1)) (Ne.symm hCD) (Ne.symm nC) (Ne.symm nD) (by omega) ?_
        intro h₆ tk₆ m₆ hD₆ hn₆ keep
        have keep2 : ∀ b o, b ≠ Ca → b ≠ Da → h₄.get? b = some o → h₆.get? b = some o := fun b o b1 b2 e => keep b o b1 b2 (Nat.ne_of_lt (Heap.lt_size e)) (Heap.get?_push_of_some _ e)
        refine ⟨R.length + 1 - (j + 1), by omega, h₆, tk₆, j + 1, m₆, ys ++ vs, rfl, hlt, rfl, ⟨oI, keep2 _ _ hIC hID zI, hIc, hId⟩, ?_, hn₆, fun p hp => ?_, ?_⟩
        · refine ⟨F₄.ns.at' fun o e => keep2 _ o (Ne.symm hCL) (Ne.symm hDL) e, fun b o e => keep2 b o (fun q => by rw [q, hC₀] at e; cases e) (fun q => by rw [q, hD₀] at e; cases e) (F₄.keep b o e), F₄.above⟩
        · rcases List.mem_cons.mp hp with rfl | hp
          · exact ⟨hD₆, hDL, hD₀⟩
          · have z := N₄ p (.tail _ (.tail _ (.tail _ (.tail _ hp))))
            exact ⟨keep2 _ _ (off3 p hp).2.1 (off3 p hp).2.2 z.1, z.2⟩
        · rw [List.take_add_one, hRj, List.flatMap_append]
          simpa using hys.append hvs
      · obtain rfl : j = R.length := Nat.le_antisymm hj (Nat.not_lt.mp hlt)
        rw [List.take_length] at hys
        refine wpAny_pyNext_list_end hh hit' hls' (by simp [hvl]) fun h₂ he₂ => ?_
        refine ⟨m', hn'.at' fun o e => he₂ _ o (Ne.symm hIC) e, fun h'' hs'' => fin Da ys h'' tk hys ?_ ?_ ?_⟩
        · exact (⟨F'.ns.at' fun o e => he₂ _ o (Ne.symm hIL) e, fun b o e => he₂ b o (fun q => by rw [q, hI₀] at e; cases e) (F'.keep b o e), F'.above⟩ : Fr h₀ L h₂ m).change hs'' hCL hC₀
        · intro p hp
          have z1 : p.1 ≠ Ia ∧ p.1 ≠ Ca := by
            rcases List.mem_cons.mp hp with rfl | hp
            · exact ⟨Ne.symm hID, Ne.symm hCD⟩
            · exact ⟨(off.mem p hp).1, (off.mem p hp).2.1⟩
          exact ⟨(hs''.2 _ z1.2).trans (he₂ _ _ z1.1 (N' p hp).1), (N' p hp).2⟩
        · exact off.one
    · rcases List.mem_cons.mp hp with rfl | hp
      · exact ⟨hacc, hDL, hD₀⟩
      · exact ⟨old _ _ (N p hp).1, (N p hp).2⟩
  exact codeAny_compStart_list (loop _ rfl) (wpAny_pyIter_listiter hit₁ (loop _ rfl))
end
end
-- part B13
section
open PySem PySem.W PyProof.Rows







theorem size_one {n : Int} (h : 1 ≤ n) : Builtin.Range.rangeSize 1 (n + 1) 1 = ((n.toNat : Nat) : Int) := by
  simp only [Builtin.Range.rangeSize]
  split <;> (try split) <;> omega
theorem small_one {n : Int} (h : 1 ≤ n) (h6 : n ≤ 6) : Builtin.Range.small 1 (n + 1) 1 = true := by
  unfold Builtin.Range.small
  rw [size_one h, fits_small 1 (by omega) (by omega), fits_small _ (by omega) (by omega), fits_small _ (by omega) (by omega), if_pos (by decide), fits_small _ (by omega) (by omega)]
  simp
theorem gro_len (k : Nat) (f : Int) : (gro k f).length ≤ 2 := by
  unfold gro
  repeat' split
  all_goals simp
theorem flat_len (k : Nat) : ∀ F : List Int, (F.flatMap (gro k)).length ≤ 2 * F.length
  | [] => by simp
  | f :: r => by
    rw [List.flatMap_cons, List.length_append, List.length_cons]
    have := gro_len k f
    have := flat_len k r
    omega
theorem growN_len (k : Nat) (F : List Int) : ∀ n : Nat, (growN k n F).length ≤ 2 ^ n * F.length
  | 0 => by show F.length ≤ _; omega
  | n + 1 => by
    have h1 := growN_len k F n
    have h2 := flat_len k (growN k n F)
    show ((growN k n F).flatMap (gro k)).length ≤ _
    rw [Nat.pow_succ]
    have : 2 ^ n * 2 * F.length = 2 * (2 ^ n * F.length) := by rw [Nat.mul_comm (2 ^ n) 2, Nat.mul_assoc]
    omega
theorem gl_len {k : Nat} (hk : k = 0 ∨ k = 1) {f n : Int} (h1 : 1 ≤ n) (h6 : n ≤ 6) : (gl k n f).length ≤ 64 := by
  rw [gl_grow hk h1 h6]
  have h := growN_len k [f] n.toNat
  have : 2 ^ n.toNat ≤ 2 ^ 6 := Nat.pow_le_pow_right (by decide) (by omega)
  simp only [List.length_cons, List.length_nil, Nat.zero_add, Nat.mul_one] at h
  omega
theorem len_led {prog : Program} {w : World} {A : Around} {E : Value → Shared → Prop} {s : Shared} {h₀ : Heap} {L l : Addr} {news : List (Addr × Obj)} {vs : List Value} {G : List Int} {nn : Nat} {Q : Value → Shared → Prop} (N : News h₀ L s.heap news) (hm : (l, W.listOf vs.toArray nn) ∈ news) (hI : IntsAre vs G) (hz : G.length ≤ 1000)
    (h : ∀ t k, Q (.int (G.length : Int) t) { s with toks := k }) : wpAny (model prog w) A (call (.builtin "len") [.ref l]) Q E s := by
  have e : vs.toArray.size = G.length := by simp [hI.length]
  refine len_list (items := vs.toArray) ⟨_, (N _ hm).1, rfl, _, rfl⟩ (by rw [e]; omega) ?_
  rw [e]
  exact h _ _



theorem kw82 : True := by
  w_top off
  k_with_none
  (k_with "unf" => (
  (have kwhf : PySem.Challenge.rw_oy0089_01 = PySem.Challenge.rw_oy0089_01 ∧ _root_.Mine.hd.heap_39 = _root_.Mine.hd.heap_39 := by (k_fill; exact ⟨rfl, rfl⟩));
  clear kwhf;
  k_dflt (refine' enter ?kwk1 ?kwk2 ?kwk3 ?kwk5 ?kwkA ?kwkF ?kwkK ?kwk6 ?kwk7 ?kwk8 ?kwk9 ?kwkB ?_ ?kwc2 ?kwc3 ?kwc4 ?kwc5; (case kwkA => exact rfl); (case kwkF => exact rfl); (case kwkK => assumption); (case kwk1 => k_asm); (case kwk2 => k_asm); (case kwk3 => k_asm); (case kwk5 => k_asm); (case kwk6 => k_is); (case kwk7 => k_is); (case kwk8 => ktr_room); (case kwk9 => first | exact BindsTo.of_eq rfl | exact binds_K (by k_in) rfl (by k_is) rfl rfl rfl | fail "enter: no rule for these arguments"); (case kwc5 => decide); (case kwkB => exact locs rfl); (case kwc2 => exact rfl); (case kwc3 => exact rfl); (case kwc4 => exact rfl); k_whole; intro kwL' kwh' kwF' kwN' kwB' kwX' kwT'; (try dsimp only); (try k_fold))))
  (k_with "exec For Name Name cons nil" => (k_here; (rename Fr _ _ _ _ => kwlF'); (with_unfolding_all refine' For_invVF kwlF' ?kwk1 ?kwk2 ?_; (case kwk1 => exact rfl); (case kwk2 => exact rfl); k_whole)))
  (k_with "binaryOp Add ref ref" => (k_here; k_dflt (refine' add_led ?kwF ?kwN ?kwa ?kwb ?kwi ?kwj ?kwz ?_; (case kwF => k_asm); (case kwN => k_asm); (case kwa => k_mem); (case kwb => k_mem); (case kwi => first | assumption | exact IntsAre.cons _ _ IntsAre.nil); (case kwj => first | assumption | exact IntsAre.cons _ _ IntsAre.nil); (case kwz => (rw [sizeLine_eq]; (try simp only [List.length_append, List.length_cons, List.length_nil, List.length_map, List.length_range, List.length_replicate]); omega))); intro kwD' kwus' kwh' kwF' kwN' kwl1 kwhI'; (try k_lt kwl1)))
  (k_with "binaryOp Mult ref int" => (k_here; k_dflt (refine' mul_led ?kwF ?kwN ?kwa ?kwz1 ?kwz2 ?_; (case kwF => k_asm); (case kwN => k_asm); (case kwa => k_mem); (case kwz1 => omega); (case kwz2 => omega)); intro kwD' kwus' kwh' kwF' kwN' kwl1 kwhI'; (try k_lt kwl1)))
  (k_with "pyIter ref" => (k_here; (with_reducible show wpAny _ _ (pyIter (Value.ref _)) (fun it s₂ => LoopAtV _ _ _ _ _ _ _ _ _ it s₂) _ _); refine unstop ?_))
  (k_with "call builtin:len" => (k_here; k_dflt (refine' len_led ?kwN ?kwm ?kwi ?kwz ?_; (case kwN => k_asm); (case kwm => k_mem); (case kwi => assumption); (case kwz => (first | exact Nat.le_trans (gl_len (.inl rfl) (by omega) (by omega)) (by decide) | exact Nat.le_trans (gl_len (.inr rfl) (by omega) (by omega)) (by decide)))); intro _ _))
  (k_with "eval ListComp" => (k_here; k_dflt (refine LCg.ListComp_U (F₀ := by k_asm) (by with_unfolding_all rfl) (by decide) (by rfl) (by decide) (by rfl) ?_)))
  (k_with "CompSrc" => (refine unstop ?_))
  (k_with "call ref" => (k_here; k_dflt (first
  | refine' con_list (glown0 _ _ _ _ _ _ ?kwq1 ?kwq2) ?kwk1 ?kwk2 ?kwk3 ?kwk4 ?kwk5 ?kwkK ?kwkd ?kwku ?kwkp ?_
  | refine' con_list (glown1 _ _ _ _ _ _ ?kwq1 ?kwq2) ?kwk1 ?kwk2 ?kwk3 ?kwk4 ?kwk5 ?kwkK ?kwkd ?kwku ?kwkp ?_); (case kwk1 => k_asm); (case kwk2 => k_asm); (case kwk3 => k_asm); (case kwk4 => k_asm); (case kwk5 => k_asm); (case kwkK => first | exact rfl | assumption); (case kwkd => ktr_room); (case kwku => ktr_units); (case kwkp => trivial); (case kwq1 => omega); (case kwq2 => omega); intro kwl9 kwvs9 kwnn9 kwh9 kwtk9 kwF9 kwN9 kwl1 kwhI9; (try dsimp only)))
  trivial
theorem by_same {K : Frag} {a : Addr} {o o' : Obj} {g : Prop} (h : K.lookup a = some o) (h' : K.lookup a = some o') (k : o = o' → g) : g := k (Option.some.inj (h.symm.trans h'))
set_option maxHeartbeats 4000000 in
theorem inner0 (w : World) {oc dV kV doc pm cdv ct : Value} {od an : Option Addr} {osl : Array (Option Value)} {name qual : Str} {params : Arguments} {scope : Scope} {b0 b1 b2 b3 i0 i1 turnFor dueAs lastIf fin : Stmt} {tgt itr : Expr} {fpos : Pos}
    (ho : (hd.heap_39 w.params).lookup 163 = some ⟨oc, od, .func (fnOf name qual params [b0, b1, b2, b3, .For tgt itr [i0, i1, turnFor, dueAs, lastIf] [] fpos, fin] scope dV kV doc pm an cdv ct), osl⟩)
    {p : Program} {loose : List Str} {mean : ExcName → Option Value} {mg mb : Str → Option Value} {dp un : Nat} {gd : Option (List Code)} {fa : Addr} {ccd : Value} {outer : List Env} {A₀ : Around} {base h₀ : Heap} {L : Addr} {mm : Str → Option Value} {s : Shared} {Q : Flow → Shared → Prop} {E : Value → Shared → Prop}
    {R : List Int} {us : List Value} {rowA D1 i1a : Addr} {nr : Nat} {n : Int} {ot oi otup okd os : Obj} {vt : Option Value} {tn t1 t2 : Tok}
    (B : Below A₀ base outer h₀) (X : (hd.heap_39 w.params).In h₀) (T : Top p loose mean mg mb h₀) (hdp : dp + 10 < recursionLimit) (hu : un + 80 < cLine)
    (hI : IntsAre us R) (hR : Row4 R) (hR8 : R.length ≤ 8) (hn1 : 1 ≤ n) (hn6 : n ≤ 6)
    (F : Fr h₀ L s.heap (fun y => if y = Str.ofString "noughts" then some (.int 0 tn) else if y = Str.ofString "row" then some (.ref rowA) else mm y))
    (N : News h₀ L s.heap [(L + 1 + 1 + 1, ot), (i1a, oi), (D1, otup), (rowA, W.listOf us.toArray nr), (L + 1 + 1, okd), (L + 1, os)])
    (hot : ot.data = .cell vt) (hok : okd.data = .cell (some (.int 0 t1))) (hos : os.data = .cell (some (.int n t2))) (h1 : @LT.lt Nat _ (L + 1 + 1 + 1) rowA) (h2 : @LT.lt Nat _ rowA D1) (h3 : @LT.lt Nat _ D1 i1a)
    (hQ : ∀ (u : Str → Option Value) t h tk ot' v', ot'.data = .cell v' → Fr h₀ L h (fun y => if y = Str.ofString "noughts" then some (.int (nought 0 R n.toNat) t) else if [Str.ofString "size"].contains y then u y else if y = Str.ofString "noughts" then some (.int 0 tn) else if y = Str.ofString "row" then some (.ref rowA) else mm y) →
      News h₀ L h [(L + 1 + 1 + 1, ot'), (i1a, oi), (D1, otup), (rowA, W.listOf us.toArray nr), (L + 1 + 1, okd), (L + 1, os)] → Q .next { s with heap := h, toks := tk }) :
    wpAny (model Challenge.pw_oy0089_01 w) (ktrTop dp un gd qual scope L fa ccd (cellsFrom (L + 1) scope.names []) outer) (exec turnFor (envX qual scope L fa ccd (cellsFrom (L + 1) scope.names []))) Q E s := by
  have hf : PySem.Challenge.rw_oy0089_01 = PySem.Challenge.rw_oy0089_01 ∧ hd.heap_39 = hd.heap_39 := by (k_fill; exact ⟨rfl, rfl⟩)
  clear hf
  refine' by_same ho ?h2 ?_
  (case h2 => k_is)
  intro e
  cases e
  clear ho
  refine wpAny_For ?_
  k_steps
  rename IsRange _ _ _ _ _ _ _ _ => hr
  rename News _ _ _ _ => N5
  rename Fr _ _ _ _ => F5
  refine cell_range (n := n.toNat) [Str.ofString "noughts"] [Str.ofString "size"] [.int 0 _] (fun i vals => ∃ t, vals = [.int (nought 0 R i) t]) rfl rfl rfl rfl hr (small_one hn1 hn6) (size_one hn1) F5 N5 hot (by k_all) (List.forall_mem_cons.mpr ⟨rfl, List.forall_mem_nil _⟩) ⟨_, rfl⟩ ?_ ?_
  · rintro i tk0 vals u h tk oc' I oI hi hoc ⟨tv, rfl⟩ hlt F6 N7
    clear F5 N5 hr hQ
    simp only [List.cons_append, List.nil_append] at N7
    dsimp only [kstB, List.zip, List.zipWith] at F6
    have hnn : nought 0 R (i + 1) = nought 0 R i + (-(gsize 0 ((i : Int) + 1) R + nought 0 R i)).fmod 4 := rfl
    rw [hnn]
    generalize hkE : (1 : Int) + (i : Int) * 1 = kk at hoc
    rw [show (i : Int) + 1 = kk by omega]
    have hk1 : 1 ≤ kk := by omega
    have hk6 : kk ≤ 6 := by omega
    generalize nought 0 R i = nq at *
    k_steps
    rename News _ _ _ _ => N8
    rename Fr _ _ _ _ => F8
    unfold Stop
    refine LCg.CompSrc.ledger rfl F8 N8 (by k_mem) (by have := hI.length; rw [sizeLine_eq, List.size_toArray]; omega) fun g => kcf_list (fun f => ((gl 0 kk f).length : Int)) hI ?_ ?_
    · intro k tk0 I oI C oC D m₂ ys h tk E' hk hC hx F2 N2 off ne mk
      clear F8 N8
      k_steps
    · unfold KPfDone
      intro ys hys D h tk F2 N2 off1
      clear F8 N8
      simp only [LCg.Off1, and_true] at off1
      k_steps
      refine CellEnd.intro (vals := [.int _ _]) (.inl rfl) (by k_asm) (by k_asm) (by k_mem) (by (simp only [List.cons_append, List.nil_append]; k_allIn)) hoc (List.forall_mem_cons.mpr ⟨rfl, List.forall_mem_nil _⟩) ?_ ⟨_, rfl⟩
      intro z z1 z2
      have z3 := z1 _ (.head _)
      have z4 : z ≠ Str.ofString "size" := by intro e; subst e; exact absurd z2 (by decide)
      simp only [if_neg z3, if_neg z4, z2, Bool.false_eq_true, if_false]
  · rintro vals u h tk oc' v hoc ⟨tv, rfl⟩ F6 N7
    dsimp only [kstB, List.zip, List.zipWith] at F6
    exact hQ u tv h tk oc' v hoc F6 N7
set_option maxHeartbeats 4000000 in
theorem inner1 (w : World) {oc dV kV doc pm cdv ct : Value} {od an : Option Addr} {osl : Array (Option Value)} {name qual : Str} {params : Arguments} {scope : Scope} {b0 b1 b2 b3 i0 i1 turnFor dueAs lastIf fin : Stmt} {tgt itr : Expr} {fpos : Pos}
    (ho : (hd.heap_39 w.params).lookup 163 = some ⟨oc, od, .func (fnOf name qual params [b0, b1, b2, b3, .For tgt itr [i0, i1, turnFor, dueAs, lastIf] [] fpos, fin] scope dV kV doc pm an cdv ct), osl⟩)
    {p : Program} {loose : List Str} {mean : ExcName → Option Value} {mg mb : Str → Option Value} {dp un : Nat} {gd : Option (List Code)} {fa : Addr} {ccd : Value} {outer : List Env} {A₀ : Around} {base h₀ : Heap} {L : Addr} {mm : Str → Option Value} {s : Shared} {Q : Flow → Shared → Prop} {E : Value → Shared → Prop}
    {R : List Int} {us : List Value} {rowA D1 i1a : Addr} {nr : Nat} {n : Int} {ot oi otup okd os : Obj} {vt : Option Value} {tn t1 t2 : Tok}
    (B : Below A₀ base outer h₀) (X : (hd.heap_39 w.params).In h₀) (T : Top p loose mean mg mb h₀) (hdp : dp + 10 < recursionLimit) (hu : un + 80 < cLine)
    (hI : IntsAre us R) (hR : Row4 R) (hR8 : R.length ≤ 8) (hn1 : 1 ≤ n) (hn6 : n ≤ 6)
    (F : Fr h₀ L s.heap (fun y => if y = Str.ofString "noughts" then some (.int 0 tn) else if y = Str.ofString "row" then some (.ref rowA) else mm y))
    (N : News h₀ L s.heap [(L + 1 + 1 + 1, ot), (i1a, oi), (D1, otup), (rowA, W.listOf us.toArray nr), (L + 1 + 1, okd), (L + 1, os)])
    (hot : ot.data = .cell vt) (hok : okd.data = .cell (some (.int 1 t1))) (hos : os.data = .cell (some (.int n t2))) (h1 : @LT.lt Nat _ (L + 1 + 1 + 1) rowA) (h2 : @LT.lt Nat _ rowA D1) (h3 : @LT.lt Nat _ D1 i1a)
    (hQ : ∀ (u : Str → Option Value) t h tk ot' v', ot'.data = .cell v' → Fr h₀ L h (fun y => if y = Str.ofString "noughts" then some (.int (nought 1 R n.toNat) t) else if [Str.ofString "size"].contains y then u y else if y = Str.ofString "noughts" then some (.int 0 tn) else if y = Str.ofString "row" then some (.ref rowA) else mm y) →
      News h₀ L h [(L + 1 + 1 + 1, ot'), (i1a, oi), (D1, otup), (rowA, W.listOf us.toArray nr), (L + 1 + 1, okd), (L + 1, os)] → Q .next { s with heap := h, toks := tk }) :
    wpAny (model Challenge.pw_oy0089_01 w) (ktrTop dp un gd qual scope L fa ccd (cellsFrom (L + 1) scope.names []) outer) (exec turnFor (envX qual scope L fa ccd (cellsFrom (L + 1) scope.names []))) Q E s := by
  have hf : PySem.Challenge.rw_oy0089_01 = PySem.Challenge.rw_oy0089_01 ∧ hd.heap_39 = hd.heap_39 := by (k_fill; exact ⟨rfl, rfl⟩)
  clear hf
  refine' by_same ho ?h2 ?_
  (case h2 => k_is)
  intro e
  cases e
  clear ho
  refine wpAny_For ?_
  k_steps
  rename IsRange _ _ _ _ _ _ _ _ => hr
  rename News _ _ _ _ => N5
  rename Fr _ _ _ _ => F5
  refine cell_range (n := n.toNat) [Str.ofString "noughts"] [Str.ofString "size"] [.int 0 _] (fun i vals => ∃ t, vals = [.int (nought 1 R i) t]) rfl rfl rfl rfl hr (small_one hn1 hn6) (size_one hn1) F5 N5 hot (by k_all) (List.forall_mem_cons.mpr ⟨rfl, List.forall_mem_nil _⟩) ⟨_, rfl⟩ ?_ ?_
  · rintro i tk0 vals u h tk oc' I oI hi hoc ⟨tv, rfl⟩ hlt F6 N7
    clear F5 N5 hr hQ
    simp only [List.cons_append, List.nil_append] at N7
    dsimp only [kstB, List.zip, List.zipWith] at F6
    have hnn : nought 1 R (i + 1) = nought 1 R i + (-(gsize 1 ((i : Int) + 1) R + nought 1 R i)).fmod 4 := rfl
    rw [hnn]
    generalize hkE : (1 : Int) + (i : Int) * 1 = kk at hoc
    rw [show (i : Int) + 1 = kk by omega]
    have hk1 : 1 ≤ kk := by omega
    have hk6 : kk ≤ 6 := by omega
    generalize nought 1 R i = nq at *
    k_steps
    rename News _ _ _ _ => N8
    rename Fr _ _ _ _ => F8
    unfold Stop
    refine LCg.CompSrc.ledger rfl F8 N8 (by k_mem) (by have := hI.length; rw [sizeLine_eq, List.size_toArray]; omega) fun g => kcf_list (fun f => ((gl 1 kk f).length : Int)) hI ?_ ?_
    · intro k tk0 I oI C oC D m₂ ys h tk E' hk hC hx F2 N2 off ne mk
      clear F8 N8
      k_steps
    · unfold KPfDone
      intro ys hys D h tk F2 N2 off1
      clear F8 N8
      simp only [LCg.Off1, and_true] at off1
      k_steps
      refine CellEnd.intro (vals := [.int _ _]) (.inl rfl) (by k_asm) (by k_asm) (by k_mem) (by (simp only [List.cons_append, List.nil_append]; k_allIn)) hoc (List.forall_mem_cons.mpr ⟨rfl, List.forall_mem_nil _⟩) ?_ ⟨_, rfl⟩
      intro z z1 z2
      have z3 := z1 _ (.head _)
      have z4 : z ≠ Str.ofString "size" := by intro e; subst e; exact absurd z2 (by decide)
      simp only [if_neg z3, if_neg z4, z2, Bool.false_eq_true, if_false]
  · rintro vals u h tk oc' v hoc ⟨tv, rfl⟩ F6 N7
    dsimp only [kstB, List.zip, List.zipWith] at F6
    exact hQ u tv h tk oc' v hoc F6 N7
end
-- part B14
section
open PySem PySem.W PyProof.Rows








theorem kw90 : True := by
  w_top off
  k_with_none
  (k_with "unf" => (
  (have kwhf : PySem.Challenge.rw_oy0089_01 = PySem.Challenge.rw_oy0089_01 ∧ _root_.Mine.hd.heap_39 = _root_.Mine.hd.heap_39 := by (k_fill; exact ⟨rfl, rfl⟩));
  clear kwhf;
  k_dflt (refine' enter ?kwk1 ?kwk2 ?kwk3 ?kwk5 ?kwkA ?kwkF ?kwkK ?kwk6 ?kwk7 ?kwk8 ?kwk9 ?kwkB ?_ ?kwc2 ?kwc3 ?kwc4 ?kwc5; (case kwkA => exact rfl); (case kwkF => exact rfl); (case kwkK => assumption); (case kwk1 => k_asm); (case kwk2 => k_asm); (case kwk3 => k_asm); (case kwk5 => k_asm); (case kwk6 => k_is); (case kwk7 => k_is); (case kwk8 => ktr_room); (case kwk9 => first | exact BindsTo.of_eq rfl | exact binds_K (by k_in) rfl (by k_is) rfl rfl rfl | fail "enter: no rule for these arguments"); (case kwc5 => decide); (case kwkB => exact locs rfl); (case kwc2 => exact rfl); (case kwc3 => exact rfl); (case kwc4 => exact rfl); k_whole; intro kwL' kwh' kwF' kwN' kwB' kwX' kwT'; (try dsimp only); (try k_fold))))
  (k_with "exec For Name Name cons nil" => (k_here; (rename Fr _ _ _ _ => kwlF'); (with_unfolding_all refine' For_invVF kwlF' ?kwk1 ?kwk2 ?_; (case kwk1 => exact rfl); (case kwk2 => exact rfl); k_whole)))
  (k_with "binaryOp Add ref ref" => (k_here; k_dflt (refine' add_led ?kwF ?kwN ?kwa ?kwb ?kwi ?kwj ?kwz ?_; (case kwF => k_asm); (case kwN => k_asm); (case kwa => k_mem); (case kwb => k_mem); (case kwi => first | assumption | exact IntsAre.cons _ _ IntsAre.nil); (case kwj => first | assumption | exact IntsAre.cons _ _ IntsAre.nil); (case kwz => (rw [sizeLine_eq]; (try simp only [List.length_append, List.length_cons, List.length_nil, List.length_map, List.length_range, List.length_replicate]); omega))); intro kwD' kwus' kwh' kwF' kwN' kwl1 kwhI'; (try k_lt kwl1)))
  (k_with "binaryOp Mult ref int" => (k_here; k_dflt (refine' mul_led ?kwF ?kwN ?kwa ?kwz1 ?kwz2 ?_; (case kwF => k_asm); (case kwN => k_asm); (case kwa => k_mem); (case kwz1 => omega); (case kwz2 => omega)); intro kwD' kwus' kwh' kwF' kwN' kwl1 kwhI'; (try k_lt kwl1)))
  (k_with "pyIter ref" => (k_here; (with_reducible show wpAny _ _ (pyIter (Value.ref _)) (fun it s₂ => LoopAtV _ _ _ _ _ _ _ _ _ it s₂) _ _); refine unstop ?_))
  (k_with "eval ListComp" => (k_here; k_dflt (refine comp_two (F₀ := by k_asm) (by with_unfolding_all rfl) (by decide) (by rfl) (by decide) (by rfl) (by rfl) (by decide) ?_)))
  (k_with "call ref" => (k_here; k_dflt (first
  | refine' con_list (glown0 _ _ _ _ _ _ ?kwq1 ?kwq2) ?kwk1 ?kwk2 ?kwk3 ?kwk4 ?kwk5 ?kwkK ?kwkd ?kwku ?kwkp ?_
  | refine' con_list (glown1 _ _ _ _ _ _ ?kwq1 ?kwq2) ?kwk1 ?kwk2 ?kwk3 ?kwk4 ?kwk5 ?kwkK ?kwkd ?kwku ?kwkp ?_); (case kwk1 => k_asm); (case kwk2 => k_asm); (case kwk3 => k_asm); (case kwk4 => k_asm); (case kwk5 => k_asm); (case kwkK => first | exact rfl | assumption); (case kwkd => ktr_room); (case kwku => ktr_units); (case kwkp => trivial); (case kwq1 => omega); (case kwq2 => omega); intro kwl9 kwvs9 kwnn9 kwh9 kwtk9 kwF9 kwN9 kwl1 kwhI9; (try dsimp only)))
  trivial

set_option maxHeartbeats 4000000 in
theorem due0 (w : World) {oc dV kV doc pm cdv ct : Value} {od an : Option Addr} {osl : Array (Option Value)} {name qual : Str} {params : Arguments} {scope : Scope} {b0 b1 b2 b3 i0 i1 turnFor dueAs lastIf fin : Stmt} {tgt itr : Expr} {fpos : Pos}
    (ho : (hd.heap_39 w.params).lookup 163 = some ⟨oc, od, .func (fnOf name qual params [b0, b1, b2, b3, .For tgt itr [i0, i1, turnFor, dueAs, lastIf] [] fpos, fin] scope dV kV doc pm an cdv ct), osl⟩)
    {p : Program} {loose : List Str} {mean : ExcName → Option Value} {mg mb : Str → Option Value} {dp un : Nat} {gd : Option (List Code)} {fa : Addr} {ccd : Value} {outer : List Env} {A₀ : Around} {base h₀ : Heap} {L : Addr} {mm : Str → Option Value} {s : Shared} {Q : Flow → Shared → Prop} {E : Value → Shared → Prop}
    {R : List Int} {us : List Value} {rowA D1 i1a : Addr} {nr : Nat} {n q : Int} {ot oi otup okd os : Obj} {tn t1 t2 : Tok}
    (B : Below A₀ base outer h₀) (X : (hd.heap_39 w.params).In h₀) (T : Top p loose mean mg mb h₀) (hdp : dp + 10 < recursionLimit) (hu : un + 80 < cLine)
    (hI : IntsAre us R) (hR8 : R.length ≤ 8) (hn1 : 1 ≤ n) (hn6 : n ≤ 6) (hq0 : 0 ≤ q) (hq1 : q ≤ 200)
    (F : Fr h₀ L s.heap (fun y => if y = Str.ofString "noughts" then some (.int q tn) else if y = Str.ofString "row" then some (.ref rowA) else mm y))
    (N : News h₀ L s.heap [(L + 1 + 1 + 1, ot), (i1a, oi), (D1, otup), (rowA, W.listOf us.toArray nr), (L + 1 + 1, okd), (L + 1, os)])
    (hok : okd.data = .cell (some (.int 0 t1))) (hos : os.data = .cell (some (.int n t2))) (h1 : @LT.lt Nat _ (L + 1 + 1 + 1) rowA) (h2 : @LT.lt Nat _ rowA D1) (h3 : @LT.lt Nat _ D1 i1a)
    (hQ : ∀ D us2 h tk, IntsAre us2 (R.flatMap (gl 0 n) ++ List.replicate q.toNat 0) → Fr h₀ L h (fun y => if y = Str.ofString "due" then some (.ref D) else if y = Str.ofString "noughts" then some (.int q tn) else if y = Str.ofString "row" then some (.ref rowA) else mm y) →
      News h₀ L h [(D, W.listOf (List.toArray us2) 0), (L + 1 + 1 + 1, ot), (i1a, oi), (D1, otup), (rowA, W.listOf us.toArray nr), (L + 1 + 1, okd), (L + 1, os)] → @LT.lt Nat _ i1a D → Q .next { s with heap := h, toks := tk }) :
    wpAny (model Challenge.pw_oy0089_01 w) (ktrTop dp un gd qual scope L fa ccd (cellsFrom (L + 1) scope.names []) outer) (exec dueAs (envX qual scope L fa ccd (cellsFrom (L + 1) scope.names []))) Q E s := by
  have hf : PySem.Challenge.rw_oy0089_01 = PySem.Challenge.rw_oy0089_01 ∧ hd.heap_39 = hd.heap_39 := by (k_fill; exact ⟨rfl, rfl⟩)
  clear hf
  refine' by_same ho ?h2 ?_
  (case h2 => k_is)
  intro e
  cases e
  clear ho
  k_steps
  rename News _ _ _ _ => N5
  rename Fr _ _ _ _ => F5
  refine ⟨_, _, _, _, R, gl 0 n, rfl, rfl, F5, N5, by k_mem, hI, by omega, fun f _ => gl_len (.inl rfl) hn1 hn6, ?_, ?_⟩
  · intro f t I oI C oC D m₂ ys h tk hf hC hx F1 N1 off ne
    clear F5 N5 hQ
    k_steps
    exact ⟨_, _, _, _, _, rfl, rfl, by k_asm, by k_asm, by assumption, by assumption⟩
  · intro D ys h tk hys F1 N1 off1
    clear F5 N5
    simp only [LCg.Off1, and_true] at off1
    have hfl := flat_le (gl 0 n) R fun f _ => gl_len (.inl rfl) hn1 hn6
    k_steps
    rename News _ _ _ _ => N6
    refine hQ _ _ _ _ (by assumption) (by k_asm) (cb_drop N6 (by kcf_all)) (by omega)

set_option maxHeartbeats 4000000 in
theorem due1 (w : World) {oc dV kV doc pm cdv ct : Value} {od an : Option Addr} {osl : Array (Option Value)} {name qual : Str} {params : Arguments} {scope : Scope} {b0 b1 b2 b3 i0 i1 turnFor dueAs lastIf fin : Stmt} {tgt itr : Expr} {fpos : Pos}
    (ho : (hd.heap_39 w.params).lookup 163 = some ⟨oc, od, .func (fnOf name qual params [b0, b1, b2, b3, .For tgt itr [i0, i1, turnFor, dueAs, lastIf] [] fpos, fin] scope dV kV doc pm an cdv ct), osl⟩)
    {p : Program} {loose : List Str} {mean : ExcName → Option Value} {mg mb : Str → Option Value} {dp un : Nat} {gd : Option (List Code)} {fa : Addr} {ccd : Value} {outer : List Env} {A₀ : Around} {base h₀ : Heap} {L : Addr} {mm : Str → Option Value} {s : Shared} {Q : Flow → Shared → Prop} {E : Value → Shared → Prop}
    {R : List Int} {us : List Value} {rowA D1 i1a : Addr} {nr : Nat} {n q : Int} {ot oi otup okd os : Obj} {tn t1 t2 : Tok}
    (B : Below A₀ base outer h₀) (X : (hd.heap_39 w.params).In h₀) (T : Top p loose mean mg mb h₀) (hdp : dp + 10 < recursionLimit) (hu : un + 80 < cLine)
    (hI : IntsAre us R) (hR8 : R.length ≤ 8) (hn1 : 1 ≤ n) (hn6 : n ≤ 6) (hq0 : 0 ≤ q) (hq1 : q ≤ 200)
    (F : Fr h₀ L s.heap (fun y => if y = Str.ofString "noughts" then some (.int q tn) else if y = Str.ofString "row" then some (.ref rowA) else mm y))
    (N : News h₀ L s.heap [(L + 1 + 1 + 1, ot), (i1a, oi), (D1, otup), (rowA, W.listOf us.toArray nr), (L + 1 + 1, okd), (L + 1, os)])
    (hok : okd.data = .cell (some (.int 1 t1))) (hos : os.data = .cell (some (.int n t2))) (h1 : @LT.lt Nat _ (L + 1 + 1 + 1) rowA) (h2 : @LT.lt Nat _ rowA D1) (h3 : @LT.lt Nat _ D1 i1a)
    (hQ : ∀ D us2 h tk, IntsAre us2 (R.flatMap (gl 1 n) ++ List.replicate q.toNat 0) → Fr h₀ L h (fun y => if y = Str.ofString "due" then some (.ref D) else if y = Str.ofString "noughts" then some (.int q tn) else if y = Str.ofString "row" then some (.ref rowA) else mm y) →
      News h₀ L h [(D, W.listOf (List.toArray us2) 0), (L + 1 + 1 + 1, ot), (i1a, oi), (D1, otup), (rowA, W.listOf us.toArray nr), (L + 1 + 1, okd), (L + 1, os)] → @LT.lt Nat _ i1a D → Q .next { s with heap := h, toks := tk }) :
    wpAny (model Challenge.pw_oy0089_01 w) (ktrTop dp un gd qual scope L fa ccd (cellsFrom (L + 1) scope.names []) outer) (exec dueAs (envX qual scope L fa ccd (cellsFrom (L + 1) scope.names []))) Q E s := by
  have hf : PySem.Challenge.rw_oy0089_01 = PySem.Challenge.rw_oy0089_01 ∧ hd.heap_39 = hd.heap_39 := by (k_fill; exact ⟨rfl, rfl⟩)
  clear hf
  refine' by_same ho ?h2 ?_
  (case h2 => k_is)
  intro e
  cases e
  clear ho
  k_steps
  rename News _ _ _ _ => N5
  rename Fr _ _ _ _ => F5
  refine ⟨_, _, _, _, R, gl 1 n, rfl, rfl, F5, N5, by k_mem, hI, by omega, fun f _ => gl_len (.inr rfl) hn1 hn6, ?_, ?_⟩
  · intro f t I oI C oC D m₂ ys h tk hf hC hx F1 N1 off ne
    clear F5 N5 hQ
    k_steps
    exact ⟨_, _, _, _, _, rfl, rfl, by k_asm, by k_asm, by assumption, by assumption⟩
  · intro D ys h tk hys F1 N1 off1
    clear F5 N5
    simp only [LCg.Off1, and_true] at off1
    have hfl := flat_le (gl 1 n) R fun f _ => gl_len (.inr rfl) hn1 hn6
    k_steps
    rename News _ _ _ _ => N6
    refine hQ _ _ _ _ (by assumption) (by k_asm) (cb_drop N6 (by kcf_all)) (by omega)
end
-- part B15
section
open PySem PySem.W PyProof.Rows






theorem mul_led4 {prog : Program} {w : World} {A : Around} {E : Value → Shared → Prop} {s : Shared} {h₀ : Heap} {L a : Addr} {m : Str → Option Value} {news : List (Addr × Obj)} {Q : Value → Shared → Prop} {x : Int} {y : Int} {t u : Tok} {n1 : Nat} (F : Fr h₀ L s.heap m) (N : News h₀ L s.heap news) (ha : (a, W.listOf [Value.int x t].toArray n1) ∈ news)
    (h : ∀ D us h', Fr h₀ L h' m → News h₀ L h' ((D, W.listOf (List.toArray us) 0) :: news) → (∀ p ∈ news, p.1 < D) → IntsAre us (List.replicate (y % 4).toNat x) → Q (.ref D) { s with heap := h' }) :
    wpAny (model prog w) A (binaryOp .Mult (.ref a) (.int (y.fmod 4) u)) Q E s := by
  have e : y.fmod 4 = y % 4 := Int.fmod_eq_emod_of_nonneg y (by decide)
  have h0 := Int.emod_nonneg y (by decide : (4 : Int) ≠ 0)
  have h1 := Int.emod_lt_of_pos y (by decide : (0 : Int) < 4)
  rw [e]
  exact mul_led F N ha h0 (by omega) h



theorem led_pre {h₀ h : Heap} {L l : Addr} {news : List (Addr × Obj)} {vs : List Value} {n : Nat} {F : List Int} (N : News h₀ L h news) (hm : (l, W.listOf vs.toArray n) ∈ news) (hI : IntsAre vs F) : ∃ vs : List Value, h.IsList l vs.toArray ∧ IntsAre vs F := ⟨vs, ⟨_, (N _ hm).1, rfl, _, rfl⟩, hI⟩
theorem led_pre1 {h₀ h : Heap} {L l : Addr} {news : List (Addr × Obj)} {vs : List Value} {n : Nat} {F : List Int} {b : Array UInt8} {t : Tok} (N : News h₀ L h news) (hm : (l, W.listOf (Value.bytes b t :: vs).toArray n) ∈ news) (hI : IntsAre vs F) : ∃ (vs : List Value) (t : Tok), h.IsList l (Value.bytes b t :: vs).toArray ∧ IntsAre vs F := ⟨vs, t, ⟨_, (N _ hm).1, rfl, _, rfl⟩, hI⟩




theorem fr_row {h₀ h : Heap} {L : Addr} {m' : Str → Option Value} {a b : Value} (F : Fr h₀ L h m') (h1 : m' (Str.ofString "noughts") = some a) (h2 : m' (Str.ofString "row") = some b) : Fr h₀ L h (fun y => if y = Str.ofString "noughts" then some a else if y = Str.ofString "row" then some b else m' y) := by
  have e : (fun y => if y = Str.ofString "noughts" then some a else if y = Str.ofString "row" then some b else m' y) = m' := by
    funext y
    by_cases e1 : y = Str.ofString "noughts"
    · rw [if_pos e1, e1, h1]
    · rw [if_neg e1]
      by_cases e2 : y = Str.ofString "row"
      · rw [if_pos e2, e2, h2]
      · rw [if_neg e2]
  rw [e]
  exact F
theorem ne_same {prog : Program} {w : World} {A : Around} {E : Value → Shared → Prop} {s : Shared} {b : Array UInt8} {t u : Tok} {Q : Value → Shared → Prop} (h : Q (.bool false) s) : wpAny (model prog w) A (compareOp .NotEq (.bytes b t) (.bytes b u)) Q E s := by
  refine ne_bytes ?_
  have : (b.toList != b.toList) = false := by simp
  rw [this]
  exact h

theorem kw103 : True := by
  w_top off
  k_with_none
  (k_with "unf" => (
  (have kwhf : PySem.Challenge.rw_oy0089_01 = PySem.Challenge.rw_oy0089_01 ∧ _root_.Mine.hd.heap_39 = _root_.Mine.hd.heap_39 := by (k_fill; exact ⟨rfl, rfl⟩));
  clear kwhf;
  k_dflt (refine' enter ?kwk1 ?kwk2 ?kwk3 ?kwk5 ?kwkA ?kwkF ?kwkK ?kwk6 ?kwk7 ?kwk8 ?kwk9 ?kwkB ?_ ?kwc2 ?kwc3 ?kwc4 ?kwc5; (case kwkA => exact rfl); (case kwkF => exact rfl); (case kwkK => assumption); (case kwk1 => k_asm); (case kwk2 => k_asm); (case kwk3 => k_asm); (case kwk5 => k_asm); (case kwk6 => k_is); (case kwk7 => k_is); (case kwk8 => ktr_room); (case kwk9 => first | exact BindsTo.of_eq rfl | exact binds_K (by k_in) rfl (by k_is) rfl rfl rfl | fail "enter: no rule for these arguments"); (case kwc5 => decide); (case kwkB => exact locs rfl); (case kwc2 => exact rfl); (case kwc3 => exact rfl); (case kwc4 => exact rfl); k_whole; intro kwL' kwh' kwF' kwN' kwB' kwX' kwT'; (try dsimp only); (try k_fold))))
  (k_with "exec For Name Name cons nil" => (k_here; (rename Fr _ _ _ _ => kwlF'); (with_unfolding_all refine' For_invVF kwlF' ?kwk1 ?kwk2 ?_; (case kwk1 => exact rfl); (case kwk2 => exact rfl); k_whole)))
  (k_with "binaryOp Add ref ref" => (k_here; k_dflt (refine' add_led ?kwF ?kwN ?kwa ?kwb ?kwi ?kwj ?kwz ?_; (case kwF => k_asm); (case kwN => k_asm); (case kwa => k_mem); (case kwb => k_mem); (case kwi => first | assumption | exact IntsAre.cons _ _ IntsAre.nil); (case kwj => first | assumption | exact IntsAre.cons _ _ IntsAre.nil); (case kwz => (rw [sizeLine_eq]; (try simp only [List.length_append, List.length_cons, List.length_nil, List.length_map, List.length_range, List.length_replicate]); omega))); intro kwD' kwus' kwh' kwF' kwN' kwl1 kwhI'; (try k_lt kwl1)))
  (k_with "binaryOp Mult ref int" => (k_here; k_dflt (refine' mul_led ?kwF ?kwN ?kwa ?kwz1 ?kwz2 ?_; (case kwF => k_asm); (case kwN => k_asm); (case kwa => k_mem); (case kwz1 => omega); (case kwz2 => omega)); intro kwD' kwus' kwh' kwF' kwN' kwl1 kwhI'; (try k_lt kwl1)))
  (k_with "pyIter ref" => (k_here; (with_reducible show wpAny _ _ (pyIter (Value.ref _)) (fun it s₂ => LoopAtV _ _ _ _ _ _ _ _ _ it s₂) _ _); refine unstop ?_))
  (k_with "binaryOp Add ref ref" => (k_here; k_dflt (refine' add_led ?kwF ?kwN ?kwa ?kwb ?kwi ?kwj ?kwz ?_; (case kwF => k_asm); (case kwN => k_asm); (case kwa => k_mem); (case kwb => k_mem); (case kwi => first | assumption | exact IntsAre.cons _ _ (IntsAre.cons _ _ IntsAre.nil) | exact IntsAre.cons _ _ IntsAre.nil); (case kwj => first | assumption | exact IntsAre.cons _ _ IntsAre.nil); (case kwz => (rw [sizeLine_eq]; (try simp only [List.length_append, List.length_cons, List.length_nil, List.length_map, List.length_range, List.length_replicate, List.length_take]); omega))); intro kwD' kwus' kwh' kwF' kwN' kwl1 kwhI'; (try k_lt kwl1)))
  (k_with "binaryOp Mult ref int" => (k_here; k_dflt (refine' mul_led4 ?kwF ?kwN ?kwa ?_; (case kwF => k_asm); (case kwN => k_asm); (case kwa => k_mem)); intro kwD' kwus' kwh' kwF' kwN' kwl1 kwhI'; (try k_lt kwl1)))
  (k_with "binaryOp Mult ref int" => (k_here; k_dflt (refine' mul_led ?kwF ?kwN ?kwa ?kwz1 ?kwz2 ?_; (case kwF => k_asm); (case kwN => k_asm); (case kwa => k_mem); (case kwz1 => omega); (case kwz2 => omega)); intro kwD' kwus' kwh' kwF' kwN' kwl1 kwhI'; (have kwhL' := IntsAre.length kwhI'); (rw [List.length_replicate] at kwhL'); (try k_lt kwl1)))
  (k_with "call ref" => (k_here; k_dflt (first
  | (refine' con_val (law_figure _ _ _) ?kwk1 ?kwk2 ?kwk3 ?kwk4 ?kwk5 ?kwkK ?kwkd ?kwku ?kwkp ?_; (case kwkp => trivial))
  | (refine' con_val (octets _ _ _ ?kwq1 ?kwq2 ?kwq3) ?kwk1 ?kwk2 ?kwk3 ?kwk4 ?kwk5 ?kwkK ?kwkd ?kwku ?kwkp ?_; (case kwkp => (refine' led_pre ?kwn ?kwm ?kwi; (case kwn => k_asm); (case kwm => k_mem); (case kwi => assumption))); (case kwq1 => assumption); (case kwq2 => assumption); (case kwq3 => assumption))
  | (refine' con_val (reduce0 _ _ _ _ _ ?kwq1 ?kwq2 ?kwq3) ?kwk1 ?kwk2 ?kwk3 ?kwk4 ?kwk5 ?kwkK ?kwkd ?kwku ?kwkp ?_; (case kwkp => (refine' led_pre ?kwn ?kwm ?kwi; (case kwn => k_asm); (case kwm => k_mem); (case kwi => assumption))); (case kwq1 => assumption); (case kwq2 => assumption); (case kwq3 => omega))
  | (refine' con_val (reduce1 _ _ _ _ ?kwq1 ?kwq2 ?kwq3) ?kwk1 ?kwk2 ?kwk3 ?kwk4 ?kwk5 ?kwkK ?kwkd ?kwku ?kwkp ?_; (case kwkp => (refine' led_pre1 ?kwn ?kwm ?kwi; (case kwn => k_asm); (case kwm => k_mem); (case kwi => assumption))); (case kwq1 => assumption); (case kwq2 => assumption); (case kwq3 => omega))); (case kwk1 => k_asm); (case kwk2 => k_asm); (case kwk3 => k_asm); (case kwk4 => k_asm); (case kwk5 => k_asm); (case kwkK => first | exact rfl | assumption); (case kwkd => ktr_room); (case kwku => ktr_units); intro kwt9 kwh9 kwtk9 kwF9 kwN9; (try dsimp only); (try k_sweep)))
  (k_with "compareOp NotEq bytes bytes" => (k_here; (with_reducible refine ne_same ?_)))
  (k_with "exec For Name Call cons nil" => (k_here; (rename Row4 _ => kwhzz); refine unstop ?_))
  trivial
theorem nought_le (k : Nat) (R : List Int) : ∀ i : Nat, nought k R i ≤ 3 * (i : Int)
  | 0 => Int.le_refl _
  | i + 1 => by
    have h := nought_le k R i
    have e : (-(gsize k ((i : Int) + 1) R + nought k R i)).fmod 4 = (-(gsize k ((i : Int) + 1) R + nought k R i)) % 4 := Int.fmod_eq_emod_of_nonneg _ (by decide)
    have h1 := Int.emod_lt_of_pos (-(gsize k ((i : Int) + 1) R + nought k R i)) (by decide : (0 : Int) < 4)
    show nought k R i + (-(gsize k ((i : Int) + 1) R + nought k R i)).fmod 4 ≤ _
    rw [e]
    omega
theorem led_a {h₀ h : Heap} {L : Addr} {x y i t r o k z : Addr × Obj} (N : News h₀ L h [x, y, i, t, r, o, k, z]) : News h₀ L h [o, i, t, r, k, z] := by
  refine cb_drop N ?_
  intro p hp
  simp only [List.mem_cons, List.not_mem_nil, or_false] at hp ⊢
  rcases hp with rfl | rfl | rfl | rfl | rfl | rfl <;> simp
theorem led_b {h₀ h : Heap} {L : Addr} {x y x' y' i d o t r k z : Addr × Obj} (N : News h₀ L h [x, y, x', y', i, d, o, t, r, k, z]) : News h₀ L h [o, i, t, r, k, z] := by
  refine cb_drop N ?_
  intro p hp
  simp only [List.mem_cons, List.not_mem_nil, or_false] at hp ⊢
  rcases hp with rfl | rfl | rfl | rfl | rfl | rfl <;> simp
set_option maxHeartbeats 4000000 in
theorem kinds (w : World) {oc dV kV doc pm cdv ct : Value} {od an : Option Addr} {osl : Array (Option Value)} {name qual : Str} {params : Arguments} {scope : Scope} {b0 b1 b2 b3 forK fin : Stmt}
    (ho : (hd.heap_39 w.params).lookup 163 = some ⟨oc, od, .func (fnOf name qual params [b0, b1, b2, b3, forK, fin] scope dV kV doc pm an cdv ct), osl⟩)
    {p : Program} {loose : List Str} {mean : ExcName → Option Value} {mg mb : Str → Option Value} {dp un : Nat} {gd : Option (List Code)} {fa : Addr} {ccd : Value} {outer : List Env} {A₀ : Around} {base h₀ : Heap} {L : Addr} {mm : Str → Option Value} {s : Shared} {Q : Flow → Shared → Prop}
    {R : List Int} {us : List Value} {rowA : Addr} {nr : Nat} {n : Int} {ot okd os : Obj} {vt vk : Option Value} {ts t2 : Tok}
    (B : Below A₀ base outer h₀) (X : (hd.heap_39 w.params).In h₀) (T : Top p loose mean mg mb h₀) (hdp : dp + 20 < recursionLimit) (hu : un + 160 < cLine)
    (hI : IntsAre us R) (hR : Row4 R) (hR8 : R.length ≤ 8) (hn1 : 1 ≤ n) (hn6 : n ≤ 6)
    (F : Fr h₀ L s.heap (fun y => if y = Str.ofString "start" then some (.bytes (byteArr (octs R)) ts) else if y = Str.ofString "row" then some (.ref rowA) else mm y))
    (N : News h₀ L s.heap [(rowA, W.listOf us.toArray nr), (L + 1 + 1 + 1, ot), (L + 1 + 1, okd), (L + 1, os)])
    (hot : ot.data = .cell vt) (hok : okd.data = .cell vk) (hos : os.data = .cell (some (.int n t2))) (h1 : @LT.lt Nat _ (L + 1 + 1 + 1) rowA)
    (hQ : ∀ m' h tk, Fr h₀ L h m' → Q .next { s with heap := h, toks := tk }) :
    wpAny (model Challenge.pw_oy0089_01 w) (ktrTop dp un gd qual scope L fa ccd (cellsFrom (L + 1) scope.names []) outer) (exec forK (envX qual scope L fa ccd (cellsFrom (L + 1) scope.names []))) Q (fun _ _ => False) s := by
  have hf : PySem.Challenge.rw_oy0089_01 = PySem.Challenge.rw_oy0089_01 ∧ hd.heap_39 = hd.heap_39 := by (k_fill; exact ⟨rfl, rfl⟩)
  clear hf
  have hRf := hR.fig
  have hR4 := hR.four
  have hRs := hR.small
  refine' by_same ho ?h2 ?_
  (case h2 => k_is)
  intro e
  cases e
  k_steps
  unfold Stop
  rename Row4 _ => hR
  rename News _ _ _ _ => N5
  rename Fr _ _ _ _ => F5
  refine inner0 w ho B X T (by omega) (by omega) hI hR hR8 hn1 hn6 (fr_row F5 rfl rfl) (led_a N5) hot (by assumption) hos h1 (by omega) (by omega) ?_
  intro u tq h tk ot' v' hot' F6 N6
  clear F5 N5
  dsimp only
  refine wpAny_execs_cons ?_
  refine due0 w ho B X T (by omega) (by omega) hI hR8 hn1 hn6 (stepN_gl (.inl rfl) R n.toNat (by omega)).1 (by have := nought_le 0 R n.toNat; omega) (fr_row F6 rfl rfl) N6 (by assumption) hos h1 (by omega) (by omega) ?_
  intro D us2 h tk hI2 F7 N7 hD
  clear F6 N6
  rw [due_eq (.inl rfl) R hn1 hn6] at hI2
  have hS := stepN_row4 (.inl rfl) hR hR8 (n := n.toNat) (by omega)
  have hSf := hS.fig
  have hS4 := hS.four
  have hSs := hS.small
  clear hS
  dsimp only
  k_steps
  unfold Stop
  rename Row4 _ => hR
  rename News _ _ _ _ => N5
  rename Fr _ _ _ _ => F5
  refine inner1 w ho B X T (by omega) (by omega) hI hR hR8 hn1 hn6 (fr_row F5 rfl rfl) (led_b N5) hot' (by assumption) hos h1 (by omega) (by omega) ?_
  clear hot' hI2 hSf hS4 hSs
  intro u tq h tk ot' v' hot' F6 N6
  clear F5 N5
  dsimp only
  refine wpAny_execs_cons ?_
  refine due1 w ho B X T (by omega) (by omega) hI hR8 hn1 hn6 (stepN_gl (.inr rfl) R n.toNat (by omega)).1 (by have := nought_le 1 R n.toNat; omega) (fr_row F6 rfl rfl) N6 (by assumption) hos h1 (by omega) (by omega) ?_
  intro D us2 h tk hI2 F7 N7 hD
  clear F6 N6
  rw [due_eq (.inr rfl) R hn1 hn6] at hI2
  have hS := stepN_row4 (.inr rfl) hR hR8 (n := n.toNat) (by omega)
  have hSf := hS.fig
  have hS4 := hS.four
  have hSs := hS.small
  clear hS
  dsimp only
  k_steps
  exact hQ _ _ _ (by k_asm)
end
-- part B16
section
open PySem PySem.W PyProof.Rows


















theorem kw118 : True := by
  w_top off
  k_with_none
  (k_with "unf" => (
  (have kwhf : PySem.Challenge.rw_oy0089_01 = PySem.Challenge.rw_oy0089_01 ∧ _root_.Mine.hd.heap_39 = _root_.Mine.hd.heap_39 := by (k_fill; exact ⟨rfl, rfl⟩));
  clear kwhf;
  k_dflt (refine' enter ?kwk1 ?kwk2 ?kwk3 ?kwk5 ?kwkA ?kwkF ?kwkK ?kwk6 ?kwk7 ?kwk8 ?kwk9 ?kwkB ?_ ?kwc2 ?kwc3 ?kwc4 ?kwc5; (case kwkA => exact rfl); (case kwkF => exact rfl); (case kwkK => assumption); (case kwk1 => k_asm); (case kwk2 => k_asm); (case kwk3 => k_asm); (case kwk5 => k_asm); (case kwk6 => k_is); (case kwk7 => k_is); (case kwk8 => ktr_room); (case kwk9 => first | exact BindsTo.of_eq rfl | exact binds_K (by k_in) rfl (by k_is) rfl rfl rfl | fail "enter: no rule for these arguments"); (case kwc5 => decide); (case kwkB => exact locs rfl); (case kwc2 => exact rfl); (case kwc3 => exact rfl); (case kwc4 => exact rfl); k_whole; intro kwL' kwh' kwF' kwN' kwB' kwX' kwT'; (try dsimp only); (try k_fold))))
  (k_with "exec For Name Name cons nil" => (k_here; (rename Fr _ _ _ _ => kwlF'); (with_unfolding_all refine' For_invVF kwlF' ?kwk1 ?kwk2 ?_; (case kwk1 => exact rfl); (case kwk2 => exact rfl); k_whole)))
  (k_with "binaryOp Add ref ref" => (k_here; k_dflt (refine' add_led ?kwF ?kwN ?kwa ?kwb ?kwi ?kwj ?kwz ?_; (case kwF => k_asm); (case kwN => k_asm); (case kwa => k_mem); (case kwb => k_mem); (case kwi => first | assumption | exact IntsAre.cons _ _ IntsAre.nil); (case kwj => first | assumption | exact IntsAre.cons _ _ IntsAre.nil); (case kwz => (rw [sizeLine_eq]; (try simp only [List.length_append, List.length_cons, List.length_nil, List.length_map, List.length_range, List.length_replicate]); omega))); intro kwD' kwus' kwh' kwF' kwN' kwl1 kwhI'; (try k_lt kwl1)))
  (k_with "binaryOp Mult ref int" => (k_here; k_dflt (refine' mul_led ?kwF ?kwN ?kwa ?kwz1 ?kwz2 ?_; (case kwF => k_asm); (case kwN => k_asm); (case kwa => k_mem); (case kwz1 => omega); (case kwz2 => omega)); intro kwD' kwus' kwh' kwF' kwN' kwl1 kwhI'; (try k_lt kwl1)))
  (k_with "pyIter ref" => (k_here; (with_reducible show wpAny _ _ (pyIter (Value.ref _)) (fun it s₂ => LoopAtV _ _ _ _ _ _ _ _ _ it s₂) _ _); refine unstop ?_))
  (k_with "binaryOp Add ref ref" => (k_here; k_dflt (refine' add_led ?kwF ?kwN ?kwa ?kwb ?kwi ?kwj ?kwz ?_; (case kwF => k_asm); (case kwN => k_asm); (case kwa => k_mem); (case kwb => k_mem); (case kwi => first | assumption | exact IntsAre.cons _ _ (IntsAre.cons _ _ IntsAre.nil) | exact IntsAre.cons _ _ IntsAre.nil); (case kwj => first | assumption | exact IntsAre.cons _ _ IntsAre.nil); (case kwz => (rw [sizeLine_eq]; (try simp only [List.length_append, List.length_cons, List.length_nil, List.length_map, List.length_range, List.length_replicate, List.length_take]); omega))); intro kwD' kwus' kwh' kwF' kwN' kwl1 kwhI'; (try k_lt kwl1)))
  (k_with "binaryOp Mult ref int" => (k_here; k_dflt (refine' mul_led ?kwF ?kwN ?kwa ?kwz1 ?kwz2 ?_; (case kwF => k_asm); (case kwN => k_asm); (case kwa => k_mem); (case kwz1 => omega); (case kwz2 => omega)); intro kwD' kwus' kwh' kwF' kwN' kwl1 kwhI'; (have kwhL' := IntsAre.length kwhI'); (rw [List.length_replicate] at kwhL'); (try k_lt kwl1)))
  (k_with "binaryOp Mult ref int" => (k_here; k_dflt (refine' mul_led4 ?kwF ?kwN ?kwa ?_; (case kwF => k_asm); (case kwN => k_asm); (case kwa => k_mem)); intro kwD' kwus' kwh' kwF' kwN' kwl1 kwhI'; (try k_lt kwl1)))
  (k_with "call ref" => (k_here; k_dflt (first
  | (refine' con_val (law_figure _ _ _) ?kwk1 ?kwk2 ?kwk3 ?kwk4 ?kwk5 ?kwkK ?kwkd ?kwku ?kwkp ?_; (case kwkp => trivial))
  | (refine' con_val (octets _ _ _ ?kwq1 ?kwq2 ?kwq3) ?kwk1 ?kwk2 ?kwk3 ?kwk4 ?kwk5 ?kwkK ?kwkd ?kwku ?kwkp ?_; (case kwkp => (refine' led_pre ?kwn ?kwm ?kwi; (case kwn => k_asm); (case kwm => k_mem); (case kwi => assumption))); (case kwq1 => assumption); (case kwq2 => assumption); (case kwq3 => assumption))
  | (refine' con_val (reduce0 _ _ _ _ _ ?kwq1 ?kwq2 ?kwq3) ?kwk1 ?kwk2 ?kwk3 ?kwk4 ?kwk5 ?kwkK ?kwkd ?kwku ?kwkp ?_; (case kwkp => (refine' led_pre ?kwn ?kwm ?kwi; (case kwn => k_asm); (case kwm => k_mem); (case kwi => assumption))); (case kwq1 => assumption); (case kwq2 => assumption); (case kwq3 => omega))
  | (refine' con_val (reduce1 _ _ _ _ ?kwq1 ?kwq2 ?kwq3) ?kwk1 ?kwk2 ?kwk3 ?kwk4 ?kwk5 ?kwkK ?kwkd ?kwku ?kwkp ?_; (case kwkp => (refine' led_pre1 ?kwn ?kwm ?kwi; (case kwn => k_asm); (case kwm => k_mem); (case kwi => assumption))); (case kwq1 => assumption); (case kwq2 => assumption); (case kwq3 => omega))); (case kwk1 => k_asm); (case kwk2 => k_asm); (case kwk3 => k_asm); (case kwk4 => k_asm); (case kwk5 => k_asm); (case kwkK => first | exact rfl | assumption); (case kwkd => ktr_room); (case kwku => ktr_units); intro kwt9 kwh9 kwtk9 kwF9 kwN9; (try dsimp only); (try k_sweep)))
  (k_with "call ref" => (k_here; k_dflt (first
  | refine' con_list (glown0 _ _ _ _ _ _ ?kwq1 ?kwq2) ?kwk1 ?kwk2 ?kwk3 ?kwk4 ?kwk5 ?kwkK ?kwkd ?kwku ?kwkp ?_
  | refine' con_list (glown1 _ _ _ _ _ _ ?kwq1 ?kwq2) ?kwk1 ?kwk2 ?kwk3 ?kwk4 ?kwk5 ?kwkK ?kwkd ?kwku ?kwkp ?_); (case kwk1 => k_asm); (case kwk2 => k_asm); (case kwk3 => k_asm); (case kwk4 => k_asm); (case kwk5 => k_asm); (case kwkK => first | exact rfl | assumption); (case kwkd => ktr_room); (case kwku => ktr_units); (case kwkp => trivial); (case kwq1 => omega); (case kwq2 => omega); intro kwl9 kwvs9 kwnn9 kwh9 kwtk9 kwF9 kwN9 kwl1 kwhI9; (try dsimp only)))
  (k_with "eval ListComp" => (k_here; k_dflt (refine LCg.ListComp_U (F₀ := by k_asm) (by with_unfolding_all rfl) (by decide) (by rfl) (by decide) (by rfl) ?_)))
  (k_with "exec For Name Tuple cons nil" => (k_here; (rename Row4 _ => kwhzz); refine unstop ?_))
  (k_with "CompSrc" => (refine unstop ?_))
  trivial
theorem fig_in (c : Int) : 0 ≤ fig c ∧ fig c < 64 := by
  have h0 := Int.emod_nonneg (c.fdiv 8) (by decide : (64 : Int) ≠ 0)
  have h1 := Int.emod_lt_of_pos (c.fdiv 8) (by decide : (0 : Int) < 64)
  have e : (c.fdiv 8).fmod 64 = (c.fdiv 8) % 64 := Int.fmod_eq_emod_of_nonneg _ (by decide)
  unfold fig
  rw [e]
  repeat' split
  all_goals omega
theorem pad_8 : ∀ m, m ≤ 8 → m + padN m ≤ 8 := by decide
theorem row_ok (ns : List Int) : Row4 ([62, 63] ++ List.map fig (List.take 6 ns) ++ List.replicate (-((1 + 1 + (List.map fig (List.take 6 ns)).length : Nat) : Int) % 4).toNat 0) ∧ ([62, 63] ++ List.map fig (List.take 6 ns) ++ List.replicate (-((1 + 1 + (List.map fig (List.take 6 ns)).length : Nat) : Int) % 4).toNat 0).length ≤ 8 := by
  have hf0 : ∀ f ∈ List.map fig (List.take 6 ns), 0 ≤ f ∧ f < 64 := by
    intro f hf
    obtain ⟨c, _, rfl⟩ := List.mem_map.mp hf
    exact fig_in c
  have hl : (List.map fig (List.take 6 ns)).length ≤ 6 := by rw [List.length_map, List.length_take]; exact Nat.min_le_left _ _
  generalize List.map fig (List.take 6 ns) = L at *
  rw [pad_neg, Int.toNat_natCast]
  have hlen : ([62, 63] ++ L ++ List.replicate (padN (1 + 1 + L.length)) (0 : Int)).length = (1 + 1 + L.length) + padN (1 + 1 + L.length) := by
    simp only [List.length_append, List.length_cons, List.length_nil, List.length_replicate, Nat.zero_add]
  have h8 : (1 + 1 + L.length) + padN (1 + 1 + L.length) ≤ 8 := pad_8 _ (Nat.add_le_add_left hl 2)
  refine ⟨⟨?_, ?_, ?_, ?_⟩, ?_⟩
  · rw [hlen]; exact pad_four _
  · intro f hf
    rcases List.mem_append.mp hf with hf | hf
    · rcases List.mem_append.mp hf with hf | hf
      · simp only [List.mem_cons, List.not_mem_nil, or_false] at hf
        rcases hf with rfl | rfl <;> decide
      · exact hf0 f hf
    · rw [(List.mem_replicate.mp hf).2]; decide
  · rw [hlen]; exact Nat.lt_of_lt_of_le (by decide : 0 < 1 + 1) (Nat.le_trans (Nat.le_add_right _ _) (Nat.le_add_right _ _))
  · rw [hlen]; exact Nat.le_trans h8 (by decide)
  · rw [hlen]; exact h8
theorem row_gen {us : List Value} {ns : List Int} (h : IntsAre us ([62, 63] ++ List.map fig (List.take 6 ns) ++ List.replicate (-((1 + 1 + (List.map fig (List.take 6 ns)).length : Nat) : Int) % 4).toNat 0)) : ∃ R, IntsAre us R ∧ Row4 R ∧ R.length ≤ 8 := ⟨_, h, (row_ok ns).1, (row_ok ns).2⟩
theorem gen_steps {M : Model} {A : Around} {env : Env} {y : Str} {x : Int} {t : Tok} {Q : Unit → Shared → Prop} {E : Value → Shared → Prop} {s : Shared} (h : ∀ n : Int, 1 ≤ n → n ≤ 6 → wpAny M A (storeName env y (.int n t)) Q E s) : wpAny M A (storeName env y (.int (1 + x.fmod 6) t)) Q E s := by
  have e : x.fmod 6 = x % 6 := Int.fmod_eq_emod_of_nonneg _ (by decide)
  have h0 := Int.emod_nonneg x (by decide : (6 : Int) ≠ 0)
  have h1 := Int.emod_lt_of_pos x (by decide : (0 : Int) < 6)
  exact h _ (by rw [e]; omega) (by rw [e]; omega)
set_option maxHeartbeats 4000000 in
theorem x : PySem.Challenge.rw_oy0089_01.Holds := hd (by
  k_go0
  all_goals try k_fold
  k_steps
  rename News _ _ _ _ => N1
  rename Fr _ _ _ _ => F1
  rename IntsAre _ (List.take 6 _) => hI1
  unfold Stop
  refine LCg.CompSrc.ledger rfl F1 N1 (List.Mem.head _) (by have := hI1.length; rw [List.length_take] at this; rw [sizeLine_eq, List.size_toArray]; omega) fun g => kcf_list fig hI1 ?_ ?_
  · intro k tk0 I oI C oC D m₂ ys h tk E' hk hC hx F2 N2 off ne mk
    clear F1 N1
    k_steps
  · unfold KPfDone
    intro ys hys D h tk F2 N2 off1
    clear F1 N1
    k_steps
    simp only [LCg.Off1, and_true] at off1
    rename News _ _ _ _ => N3
    rename Fr _ _ _ _ => F3
    rename IntsAre _ ([62, 63] ++ _ ++ _) => hI3
    obtain ⟨R, hI3, hR, hR8⟩ := row_gen hI3
    have hRf := hR.fig
    have hR4 := hR.four
    have hRs := hR.small
    refine gen_steps fun n hn1 hn6 => ?_
    have N4 := cb_drop (news := [_, _, _, _]) N3 (List.forall_mem_cons.mpr ⟨.head _, List.forall_mem_cons.mpr ⟨.tail _ (.tail _ (.tail _ (.tail _ (.tail _ (.tail _ (.tail _ (.head _))))))), List.forall_mem_cons.mpr ⟨.tail _ (.tail _ (.tail _ (.tail _ (.tail _ (.tail _ (.tail _ (.tail _ (.head _)))))))), List.forall_mem_cons.mpr ⟨.tail _ (.tail _ (.tail _ (.tail _ (.tail _ (.tail _ (.tail _ (.tail _ (.tail _ (.head _))))))))), List.forall_mem_nil _⟩⟩⟩⟩)
    clear N3
    k_steps
    unfold Stop
    rename Row4 _ => hR
    rename News _ _ _ _ => N5
    rename Fr _ _ _ _ => F5
    refine wpAny_noRaise ?_
    k_dflt (refine' kinds _ ?k6 ?k1 ?k3 ?k5 ?kd ?ku hI3 hR hR8 hn1 hn6 F5 N5 ?ht ?hk ?hs ?hl ?_)
    case k6 => k_is
    case k1 => k_asm
    case k3 => k_asm
    case k5 => k_asm
    case kd => ktr_room
    case ku => ktr_units
    case ht => assumption
    case hk => assumption
    case hs => assumption
    case hl => omega
    intro m' h tk F6
    clear F5 N5
    dsimp only
    k_steps)
end
end Mine
theorem PySem.Challenge.cw_oy0089_01_holds : PySem.Challenge.rw_oy0089_01.Holds :=
  Mine.x
