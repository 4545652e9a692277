import PyProof.Rows.All
import Wide.All
import OpenK.AllK
import Wide.FinOn
import PySem.Challenge.RW_xo0002_01
section
open PySem PySem.W PyProof.Rows
set_option Elab.async false
set_option maxRecDepth 100000
namespace Mine
set_option maxHeartbeats 8000000 in
open_top hd for PySem.Challenge.rw_xo0002_01
end Mine
end

section
open PySem
set_option Elab.async false
namespace Mine
theorem or_eq_xor_and : ∀ a b : Nat, a ||| b = (a ^^^ b) + (a &&& b) := by
  intro a
  induction a using Nat.strongRecOn with
  | ind a ih =>
    intro b
    by_cases h : a = 0
    · subst h; simp
    · have h1 := ih (a / 2) (by omega) (b / 2)
      have o1 : (a ||| b) / 2 = a / 2 ||| b / 2 := Nat.or_div_two
      have o2 : (a ^^^ b) / 2 = a / 2 ^^^ b / 2 := Nat.xor_div_two
      have o3 : (a &&& b) / 2 = a / 2 &&& b / 2 := Nat.and_div_two
      have m1 := @Nat.or_mod_two_pow a b 1
      have m2 := @Nat.xor_mod_two_pow a b 1
      have m3 := @Nat.and_mod_two_pow a b 1
      simp only [Nat.pow_one] at m1 m2 m3
      have ha : a % 2 = 0 ∨ a % 2 = 1 := by omega
      have hb : b % 2 = 0 ∨ b % 2 = 1 := by omega
      have key : (a % 2 ||| b % 2) = (a % 2 ^^^ b % 2) + (a % 2 &&& b % 2) := by
        rcases ha with ha | ha <;> rcases hb with hb | hb <;> rw [ha, hb] <;> decide
      omega
theorem notNeg (a : Nat) : ¬ (0 : Int) ≤ -(a : Int) - 1 := by omega
theorem bitOrN (a b : Nat) : Builtin.bitOr (a : Int) (b : Int) = ((a ||| b : Nat) : Int) := by
  have h1 : decide ((0 : Int) ≤ Builtin.bitNot (a : Int)) = false := by unfold Builtin.bitNot; exact decide_eq_false (notNeg a)
  have h2 : decide ((0 : Int) ≤ Builtin.bitNot (b : Int)) = false := by unfold Builtin.bitNot; exact decide_eq_false (notNeg b)
  have n1 : ∀ n : Nat, Builtin.bitNot (Builtin.bitNot (n : Int)) = n := fun n => by unfold Builtin.bitNot; omega
  unfold Builtin.bitOr Builtin.bitAnd
  rw [h1, h2]
  simp only [n1, Int.toNat_natCast]
theorem bitAndN (a b : Nat) : Builtin.bitAnd (a : Int) (b : Int) = ((a &&& b : Nat) : Int) := by
  unfold Builtin.bitAnd
  have h1 : decide ((0 : Int) ≤ (a : Int)) = true := decide_eq_true (Int.natCast_nonneg a)
  have h2 : decide ((0 : Int) ≤ (b : Int)) = true := decide_eq_true (Int.natCast_nonneg b)
  rw [h1, h2]
  simp only [Int.toNat_natCast]
theorem bitXorN (a b : Nat) : Builtin.bitXor (a : Int) (b : Int) = ((a ^^^ b : Nat) : Int) := by
  unfold Builtin.bitXor
  rw [bitOrN, bitAndN, or_eq_xor_and]
  omega
def U16 (x : Int) : Prop := 0 ≤ x ∧ x < 65536
theorem U16.nat {x : Int} (h : U16 x) : ∃ n : Nat, x = n ∧ n < 65536 := ⟨x.toNat, by obtain ⟨a, b⟩ := h; omega, by obtain ⟨a, b⟩ := h; omega⟩
theorem u16_of {n : Nat} (h : n < 65536) : U16 (n : Int) := ⟨by omega, by omega⟩
theorem u16_zero : U16 0 := ⟨by decide, by decide⟩
theorem u16_xor {a b : Int} (ha : U16 a) (hb : U16 b) : U16 (Builtin.bitXor a b) := by
  obtain ⟨x, rfl, hx⟩ := ha.nat
  obtain ⟨y, rfl, hy⟩ := hb.nat
  rw [bitXorN]
  exact u16_of (Nat.xor_lt_two_pow (n := 16) hx hy)
end Mine
end

section
open PySem PySem.W PyProof.Rows PySem.Spec PySem.Calls
set_option Elab.async false
set_option maxRecDepth 100000
set_option linter.unusedVariables false
namespace Mine
section
variable {prog : Program} {w : World} {A A₀ : Around} {E : Value → Shared → Prop} {s : Shared} {K : Frag} {C L : Addr} {h₀ base : Heap} {m mg mb : Str → Option Value} {news : List (Addr × Obj)} {p : Program} {loose : List Str} {mean : ExcName → Option Value} {Q : Value → Shared → Prop}
/-- a def of the top that stores into nothing older than its call: entered over the whole heap as its base -/
theorem code_ro {env : Env} {outer : List Env} {R : Result → Shared → Prop} {name qual : Str} {params : Arguments} {body : List Stmt} {scope : Scope} {dV kV doc pm cdv ct oc : Value} {an od : Option Addr} {osl : Array (Option Value)} {f : Addr} {args : Args} {binds : List (Str × Value)}
    (B : Below A₀ base outer h₀) (F : Fr h₀ L s.heap m) (X₀ : K.In h₀) (T : Top p loose mean mg mb h₀) (hA : A.frames = some (env :: outer)) (hf : env.frame = some L) (hke : env.scope.kind = .function)
    (ho : K.lookup f = some ⟨oc, od, .func (fnOf name qual params body scope dV kV doc pm an cdv ct), osl⟩) (hcd : codeIn K cdv qual = true) (hroom : A.depth < recursionLimit)
    (hbind : BindsTo s (fnOf name qual params body scope dV kV doc pm an cdv ct) args binds) (hloc : ∀ y ∈ binds, scope.names.lookup y.1 = some .local)
    (h : ∀ g L' h₁, g = s.heap → Fr g L' h₁ (fun y => binds.reverse.lookup y) → News g L' h₁ [] → Below A base (env :: outer) g → K.In g → Top p loose mean mg mb g →
      wpAny (model prog w) (A.deeper (envOf qual scope L' f cdv)) (execs body (envOf qual scope L' f cdv))
        (fun fl s' => LeaveK h₀ L m g R (match fl with | .ret v => v | _ => .none) s')
        (fun e s' => wpAny (model prog w) (A.deeper (envOf qual scope L' f cdv)) (leaving (envOf qual scope L' f cdv) e) (fun _ s'' => R (.error e) s'') (fun e' s'' => R (.error e') s'') s')
        { s with heap := h₁, toks := s.toks + binds.length })
    (hco : scope.isCoroutine = false) (hgen : scope.isGenerator = false) (hk : scope.kind = .function)
    (hcell : ∀ x ∈ scope.names, x.2 ≠ .cell) : codeAny (model prog w) A (.call (.ref f) args) R s := by
  obtain ⟨FG, BG, st, lv⟩ := groundX (R := R) B F (News.nil (h₀ := h₀) (h := s.heap) (L := L)) hA hf hke
  have hlim := T.nolimit
  refine codeAny_call_def (fd := fnX name qual params body scope [] dV kV doc pm an cdv ct) (body := body) (binds := binds) hroom ((X₀.keeps F.keep) _ _ ho) rfl (hlim.keeps F.keep) (codeRec_of (X₀.keeps F.keep) hcd) rfl hbind hcell hloc (fun h₁ hns hk₁ => ?_) hco hgen hk
  exact wpAny_mono (h s.heap s.heap.objs.size h₁ rfl ⟨hns, fun b o e => hk₁ b o e, Nat.le_refl _⟩ News.nil BG (X₀.keeps F.keep) (T.keeps F.keep)) (fun fl s' hl => lv _ _ hl) fun _ _ y => y
/-- the same with some of the caller's objects written out in the callee's ledger -/
theorem code_led {env : Env} {outer : List Env} {R : Result → Shared → Prop} {name qual : Str} {params : Arguments} {body : List Stmt} {scope : Scope} {dV kV doc pm cdv ct oc : Value} {an od : Option Addr} {osl : Array (Option Value)} {f : Addr} {args : Args} {binds : List (Str × Value)} (led : List (Addr × Obj))
    (B : Below A₀ base outer h₀) (F : Fr h₀ L s.heap m) (N : News h₀ L s.heap led) (X₀ : K.In h₀) (T : Top p loose mean mg mb h₀) (hA : A.frames = some (env :: outer)) (hf : env.frame = some L) (hke : env.scope.kind = .function)
    (ho : K.lookup f = some ⟨oc, od, .func (fnOf name qual params body scope dV kV doc pm an cdv ct), osl⟩) (hcd : codeIn K cdv qual = true) (hroom : A.depth < recursionLimit)
    (hbind : BindsTo s (fnOf name qual params body scope dV kV doc pm an cdv ct) args binds) (hloc : ∀ y ∈ binds, scope.names.lookup y.1 = some .local)
    (h : ∀ g L' h₁, g = hideAll s.heap (led.map (·.1)) → s.heap.objs.size ≤ L' → Fr g L' h₁ (fun y => binds.reverse.lookup y) → News g L' h₁ led → Below A base (env :: outer) g → K.In g → Top p loose mean mg mb g → (∀ q ∈ led, q.1 < L') →
      wpAny (model prog w) (A.deeper (envOf qual scope L' f cdv)) (execs body (envOf qual scope L' f cdv))
        (fun fl s' => LeaveK h₀ L m g R (match fl with | .ret v => v | _ => .none) s')
        (fun e s' => wpAny (model prog w) (A.deeper (envOf qual scope L' f cdv)) (leaving (envOf qual scope L' f cdv) e) (fun _ s'' => R (.error e) s'') (fun e' s'' => R (.error e') s'') s')
        { s with heap := h₁, toks := s.toks + binds.length })
    (hco : scope.isCoroutine = false) (hgen : scope.isGenerator = false) (hk : scope.kind = .function)
    (hcell : ∀ x ∈ scope.names, x.2 ≠ .cell) : codeAny (model prog w) A (.call (.ref f) args) R s := by
  obtain ⟨FG, BG, st, lv⟩ := groundX (R := R) B F N hA hf hke
  have hlim := T.nolimit
  refine codeAny_call_def (fd := fnX name qual params body scope [] dV kV doc pm an cdv ct) (body := body) (binds := binds) hroom ((X₀.keeps F.keep) _ _ ho) rfl (hlim.keeps F.keep) (codeRec_of (X₀.keeps F.keep) hcd) rfl hbind hcell hloc (fun h₁ hns hk₁ => ?_) hco hgen hk
  exact wpAny_mono (h _ s.heap.objs.size h₁ rfl (Nat.le_refl _) ⟨hns, fun b o e => hk₁ b o (of_hideAll _ e), Nat.le_of_eq (hideAll_size _ _)⟩
    (fun p hp => ⟨hk₁ _ _ (N p hp).1, Nat.ne_of_lt (Heap.lt_size (N p hp).1), hideAll_none _ (List.mem_map_of_mem hp)⟩) BG (X₀.keeps st) (T.keeps st) (fun q hq => Heap.lt_size (N q hq).1)) (fun fl s' hl => lv _ _ hl) fun _ _ y => y
/-- the same for a def with captured names -/
theorem code_ledC {env : Env} {outer : List Env} {R : Result → Shared → Prop} {name qual : Str} {params : Arguments} {body : List Stmt} {scope : Scope} {dV kV doc pm cdv ct oc : Value} {an od : Option Addr} {osl : Array (Option Value)} {f : Addr} {args : Args} {binds : List (Str × Value)} (led : List (Addr × Obj))
    (B : Below A₀ base outer h₀) (F : Fr h₀ L s.heap m) (N : News h₀ L s.heap led) (X₀ : K.In h₀) (T : Top p loose mean mg mb h₀) (hA : A.frames = some (env :: outer)) (hf : env.frame = some L) (hke : env.scope.kind = .function)
    (ho : K.lookup f = some ⟨oc, od, .func (fnOf name qual params body scope dV kV doc pm an cdv ct), osl⟩) (hcd : codeIn K cdv qual = true) (hroom : A.depth < recursionLimit)
    (hbind : BindsTo s (fnOf name qual params body scope dV kV doc pm an cdv ct) args binds) (hkind : (binds.all fun y => scope.names.lookup y.1 == some .local || scope.names.lookup y.1 == some .cell) = true)
    (hnd : ((cellsFrom 0 scope.names []).map (·.1)).Nodup)
    (h : ∀ g L' h₁ tk cells, g = hideAll s.heap (led.map (·.1)) → s.heap.objs.size ≤ L' → Fr g L' h₁ (bindL (envOfC qual scope L' f cdv).kindOf binds fun _ => none) → News g L' h₁ (cells ++ led) →
      CellsAre (bindC (envOfC qual scope L' f cdv).kindOf binds fun _ => none) (cellsFrom (L' + 1) scope.names []) cells → Below A base (env :: outer) g → K.In g → Top p loose mean mg mb g → (∀ p ∈ led, p.1 < L') →
      wpAny (model prog w) (A.deeper (envOfC qual scope L' f cdv)) (execs body (envOfC qual scope L' f cdv))
        (fun fl s' => LeaveK h₀ L m g R (match fl with | .ret v => v | _ => .none) s')
        (fun e s' => wpAny (model prog w) (A.deeper (envOfC qual scope L' f cdv)) (leaving (envOfC qual scope L' f cdv) e) (fun _ s'' => R (.error e) s'') (fun e' s'' => R (.error e') s'') s')
        { s with heap := h₁, toks := tk })
    (hco : scope.isCoroutine = false) (hgen : scope.isGenerator = false) (hk : scope.kind = .function) : codeAny (model prog w) A (.call (.ref f) args) R s := by
  obtain ⟨FG, BG, st, lv⟩ := groundX (R := R) B F N hA hf hke
  have hlim := T.nolimit
  refine codeAny_call_function hroom ((X₀.keeps F.keep) _ _ ho) rfl hco hgen rfl (codeRec_of (X₀.keeps F.keep) hcd) (hbind _ _ _ _ ?_)
  refine wpAny_newFunctionEnv_cells hk (kindsX hkind _) fun env' he s' x => ?_
  subst he
  refine ⟨(hlim.keeps F.keep).keeps x.toInCall.keep, codeAny_func ?_⟩
  obtain ⟨h₁, tk, rfl, _⟩ := x.done
  have hk₁ := x.toInCall.keep
  obtain ⟨cells, NC, Y⟩ := Cl.news (h₀ := s.heap) (Nat.le_refl _) fun n c hm => ⟨x.cell n c (lookup_of_mem_nodup (cellsFrom_names scope.names 0 (s.heap.objs.size + 1) [] [] rfl ▸ hnd) hm), x.above n c hm⟩
  refine wpAny_mono (h _ s.heap.objs.size h₁ tk cells rfl (Nat.le_refl _) ⟨x.toInCall.ns, fun b o e => hk₁ b o (of_hideAll _ e), Nat.le_of_eq (hideAll_size _ _)⟩ (fun p hp => ?_) Y BG (X₀.keeps st) (T.keeps st) (fun p hp => Heap.lt_size (N p hp).1)) (fun fl s' hl => lv _ _ hl) fun _ _ y => y
  rcases List.mem_append.mp hp with hp | hp
  · refine ⟨(NC p hp).1, (NC p hp).2.1, ?_⟩
    cases q : (hideAll s.heap (led.map (·.1))).get? p.1 with
    | none => rfl
    | some o => have := of_hideAll _ q; rw [(NC p hp).2.2] at this; cases this
  · exact ⟨hk₁ _ _ (N p hp).1, Nat.ne_of_lt (Heap.lt_size (N p hp).1), hideAll_none _ (List.mem_map_of_mem hp)⟩
theorem led_news {h₀ g h h' : Heap} {L L' : Addr} {m'' : Str → Option Value} {news led : List (Addr × Obj)} (hsub : ∀ q ∈ led, q ∈ news) (gE : g = hideAll h (led.map (·.1))) (N : News h₀ L h news) (FF : Fr g L' h' m'') (kept : ∀ q ∈ led, h'.get? q.1 = some q.2) : News h₀ L h' news := fun p hp => by
  refine ⟨?_, (N p hp).2⟩
  by_cases hm : p.1 ∈ led.map (·.1)
  · obtain ⟨q, hq, e⟩ := List.mem_map.mp hm
    have e1 := (N q (hsub q hq)).1
    have e2 := (N p hp).1
    have e3 := kept q hq
    rw [e] at e1 e3
    rw [e1] at e2
    rw [e3, e2]
  · subst gE
    exact FF.keep _ _ (hideAll_get _ (N p hp).1 hm)
theorem led_lt {h₀ h : Heap} {L L' D : Addr} {news : List (Addr × Obj)} (N : News h₀ L h news) (hs : h.objs.size ≤ L') (hD : @LT.lt Nat _ L' D) : ∀ p ∈ news, p.1 < D := fun q hq =>
  Nat.lt_trans (Nat.lt_of_lt_of_le (Heap.lt_size (N q hq).1) hs) hD
/-- the same, for a def whose own try may catch what its callees raise, called from a frame that stands alone -/
theorem code_roS {env : Env} {R : Result → Shared → Prop} {name qual : Str} {params : Arguments} {body : List Stmt} {scope : Scope} {dV kV doc pm cdv ct oc : Value} {an od : Option Addr} {osl : Array (Option Value)} {f : Addr} {args : Args} {binds : List (Str × Value)}
    (B : Below A₀ base [] h₀) (F : Fr h₀ L s.heap m) (X₀ : K.In h₀) (T : Top p loose mean mg mb h₀) (hA : A.frames = some [env]) (hf : env.frame = some L) (hke : env.scope.kind = .function)
    (ho : K.lookup f = some ⟨oc, od, .func (fnOf name qual params body scope dV kV doc pm an cdv ct), osl⟩) (hcd : codeIn K cdv qual = true) (hroom : A.depth < recursionLimit)
    (hbind : BindsTo s (fnOf name qual params body scope dV kV doc pm an cdv ct) args binds) (hloc : ∀ y ∈ binds, scope.names.lookup y.1 = some .local)
    (h : ∀ g L' h₁, g = s.heap → Fr g L' h₁ (fun y => binds.reverse.lookup y) → News g L' h₁ [] → Below A base [env] g → K.In g → Top p loose mean mg mb g → KtsDicts ([env].filterMap (·.frame)) g →
      wpAny (model prog w) (A.deeper (envOf qual scope L' f cdv)) (execs body (envOf qual scope L' f cdv))
        (fun fl s' => LeaveS0 ([env].filterMap (·.frame)) h₀ L m g R (match fl with | .ret v => v | _ => .none) s')
        (fun e s' => wpAny (model prog w) (A.deeper (envOf qual scope L' f cdv)) (leaving (envOf qual scope L' f cdv) e) (fun _ s'' => R (.error e) s'') (fun e' s'' => R (.error e') s'') s')
        { s with heap := h₁, toks := s.toks + binds.length })
    (hco : scope.isCoroutine = false) (hgen : scope.isGenerator = false) (hk : scope.kind = .function)
    (hcell : ∀ x ∈ scope.names, x.2 ≠ .cell) : codeAny (model prog w) A (.call (.ref f) args) R s := by
  obtain ⟨FG, BG, st, lv⟩ := groundX (R := R) B F (News.nil (h₀ := h₀) (h := s.heap) (L := L)) hA hf hke
  have hlim := T.nolimit
  have hfs : [env].filterMap (·.frame) = [L] := by simp [hf]
  obtain ⟨oL, es, ep, hL, hLd, hLk, hLf⟩ := F.ns
  have D : KtsDicts ([env].filterMap (·.frame)) s.heap := fun b hb => by
    rw [hfs] at hb
    obtain rfl := List.mem_singleton.mp hb
    exact ⟨oL, es, ep, hL, hLd⟩
  refine codeAny_call_def (fd := fnX name qual params body scope [] dV kV doc pm an cdv ct) (body := body) (binds := binds) hroom ((X₀.keeps F.keep) _ _ ho) rfl (hlim.keeps F.keep) (codeRec_of (X₀.keeps F.keep) hcd) rfl hbind hcell hloc (fun h₁ hns hk₁ => ?_) hco hgen hk
  refine wpAny_mono (h s.heap s.heap.objs.size h₁ rfl ⟨hns, fun b o e => hk₁ b o e, Nat.le_refl _⟩ News.nil BG (X₀.keeps F.keep) (T.keeps F.keep) D) (fun fl s' hl => ?_) fun _ _ y => y
  obtain ⟨g', L', m', news', T', F', N', k⟩ := hl
  rw [hfs] at T'
  have nL₀ : h₀.get? L = none := kts_self F
  obtain ⟨sl, hs⟩ := T'.up hL
  refine k ⟨⟨_, es, ep, F'.keep _ _ hs, hLd, hLk, hLf⟩, fun b o e => F'.keep b o (T'.other b o (F.keep b o e) fun q => ?_), F.above⟩ fun q hq => ⟨(N' q hq).1, fun z => ?_, ?_⟩
  · rw [List.mem_singleton.mp q, nL₀] at e; cases e
  · have := (N' q hq).2.2; rw [z, hs] at this; cases this
  · cases hq0 : h₀.get? q.1 with
    | none => rfl
    | some o =>
      obtain ⟨sl', hs'⟩ := T'.up (F.keep _ _ hq0)
      have := (N' q hq).2.2
      rw [hs'] at this; cases this
theorem roS_news {h₀ g h g' h' : Heap} {L L' : Addr} {env : Env} {m'' : Str → Option Value} {news : List (Addr × Obj)} (hf : env.frame = some L) (gE : g = h) (N : News h₀ L h news) (T : KtsTurn ([env].filterMap (·.frame)) g g') (FF : Fr g' L' h' m'') : News h₀ L h' news := fun q hq => by
  subst gE
  refine ⟨FF.keep _ _ (T.other _ _ (N q hq).1 fun z => ?_), (N q hq).2⟩
  have hfs : [env].filterMap (·.frame) = [L] := by simp [hf]
  rw [hfs] at z
  exact (N q hq).2.1 (List.mem_singleton.mp z)
theorem news_cons {h₀ h : Heap} {L : Addr} {news : List (Addr × Obj)} {p : Addr × Obj} (N : News h₀ L h news) (hp : p ∈ news) : News h₀ L h (p :: news) := fun q hq => by
  rcases List.mem_cons.mp hq with rfl | hq
  · exact N _ hp
  · exact N _ hq
/-- what an older heap's ledger says holds on where that heap is kept -/
theorem news_kept {h₀ g h : Heap} {L : Addr} {news : List (Addr × Obj)} (N : News h₀ L g news) (k : ∀ b o, g.get? b = some o → h.get? b = some o) : News h₀ L h news := fun q hq => ⟨k _ _ (N q hq).1, (N q hq).2⟩
theorem news_app {h₀ h : Heap} {L : Addr} {n₁ n₂ : List (Addr × Obj)} (N₁ : News h₀ L h n₁) (N₂ : News h₀ L h n₂) : News h₀ L h (n₁ ++ n₂) := fun q hq => (List.mem_append.mp hq).elim (N₁ q) (N₂ q)
theorem news_pre7 {h₀ h : Heap} {L : Addr} {led news : List (Addr × Obj)} {p0 p1 p2 p3 p4 p5 p6 : Addr × Obj} (m0 : p0 ∈ led) (m1 : p1 ∈ led) (m2 : p2 ∈ led) (m3 : p3 ∈ led) (m4 : p4 ∈ led) (m5 : p5 ∈ led) (m6 : p6 ∈ led) (kN : News h₀ L h led) (N : News h₀ L h news) : News h₀ L h (p0 :: p1 :: p2 :: p3 :: p4 :: p5 :: p6 :: news) := fun q hq => by
  rcases List.mem_cons.mp hq with rfl | hq
  · exact kN _ m0
  rcases List.mem_cons.mp hq with rfl | hq
  · exact kN _ m1
  rcases List.mem_cons.mp hq with rfl | hq
  · exact kN _ m2
  rcases List.mem_cons.mp hq with rfl | hq
  · exact kN _ m3
  rcases List.mem_cons.mp hq with rfl | hq
  · exact kN _ m4
  rcases List.mem_cons.mp hq with rfl | hq
  · exact kN _ m5
  rcases List.mem_cons.mp hq with rfl | hq
  · exact kN _ m6
  exact N _ hq
theorem ro_end {h₀ g h h' : Heap} {L L' D : Addr} {m'' : Str → Option Value} {news led : List (Addr × Obj)} {o : Obj} (gE : g = h) (N : News h₀ L h news) (FF : Fr g L' h' m'') (kN : News h₀ L h' led) (hm : (D, o) ∈ led) : News h₀ L h' ((D, o) :: news) := fun q hq => by
  subst gE
  rcases List.mem_cons.mp hq with rfl | hq
  · exact kN _ hm
  · exact ⟨FF.keep _ _ (N q hq).1, (N q hq).2⟩
theorem ro_news {h₀ g h h' : Heap} {L L' : Addr} {m'' : Str → Option Value} {news : List (Addr × Obj)} (gE : g = h) (N : News h₀ L h news) (FF : Fr g L' h' m'') : News h₀ L h' news := fun q hq => by
  subst gE
  exact ⟨FF.keep _ _ (N q hq).1, (N q hq).2⟩
theorem ro_lt {h₀ g h h' : Heap} {L L' D : Addr} {m'' : Str → Option Value} {news : List (Addr × Obj)} (gE : g = h) (N : News h₀ L h news) (FF : Fr g L' h' m'') (hD : @LT.lt Nat _ L' D) : ∀ p ∈ news, p.1 < D := fun q hq => by
  subst gE
  exact Nat.lt_trans (Nat.lt_of_lt_of_le (Heap.lt_size (N q hq).1) FF.above) hD
section
variable {M : Model}
theorem newList_K2 {vs : List Value} {Q : Value → Shared → Prop} (F : Fr h₀ L s.heap m) (N : News h₀ L s.heap news)
    (h : ∀ l h', Fr h₀ L h' m → News h₀ L h' ((l, listOf vs.toArray 0) :: news) → (∀ p ∈ news, p.1 < l) → L < l → Q (.ref l) { s with heap := h' }) (hsz : vs.length ≤ sizeLine := by size_fits) : wpAny M A (newList vs) Q E s :=
  newList_N F N (fun h' F' N' => h _ h' F' N' (fun p hp => Heap.lt_size (N p hp).1) F.ns.lt) hsz
theorem newTuple_K2 {vs : List Value} {Q : Value → Shared → Prop} (F : Fr h₀ L s.heap m) (N : News h₀ L s.heap news)
    (h : ∀ l h', Fr h₀ L h' m → News h₀ L h' ((l, { cls := .type "tuple", data := .seq vs.toArray }) :: news) → (∀ p ∈ news, p.1 < l) → L < l → Q (.ref l) { s with heap := h' }) (hsz : vs.length ≤ sizeLine := by size_fits) : wpAny M A (newTuple vs) Q E s :=
  newTuple_N F N (fun h' F' N' => h _ h' F' N' (fun p hp => Heap.lt_size (N p hp).1) F.ns.lt) hsz
end
section
theorem item_base {A : Around} {E : Value → Shared → Prop} {s : Shared} {g : Heap} {L' l : Addr} {m' : Str → Option Value} {value slice : PySem.Expr} {vs : List Value} {k : Int} {u : Tok} {v : Value} {Q : Value → Shared → Prop}
    (F : Fr g L' s.heap m') (hl : g.IsList l vs.toArray) (h0 : 0 ≤ k) (hhi : k < 2 ^ 63) (hx : vs[k.toNat]? = some v) (h : Q v s)
    (hs : subscripted slice false (.ref l) (.int k u) = operate [.ref l, .int k u] (getItem (.ref l) (.int k u)) := by with_unfolding_all rfl) :
    wpAny (model prog w) A (subscriptTail value slice (.ref l) (.int k u)) Q E s :=
  have hl' : s.heap.IsList l vs.toArray := stays_list F.keep hl
  tail_any hl'.typeIs slot_list_getitem.lookup (wpAny_getItem_list hl' h0 hhi (by simpa using hx) h) hs
end
end
section
open PySem
variable {prog : Program} {w : World} {A : Around} {E : Value → Shared → Prop} {s : Shared} {h₀ : Heap} {L : Addr} {m : PySem.Str → Option Value} {news : List (Addr × Obj)} {value slice : PySem.Expr} {x y : PySem.Str} {t u v : Tok} {Q : Value → Shared → Prop}
theorem sl_ns {j : Int} {uj : Tok} (e : Txt.slice x none (some j) = y) (hF : Fr h₀ L s.heap m) (hN : News h₀ L s.heap news) (hsz : x.length ≤ sizeLine) (h : ∀ h' t' k, Fr h₀ L h' m → News h₀ L h' news → Q (.str y t') { s with heap := h', toks := k })
    (hs : subscripted slice false (.str x t) (.ref s.heap.objs.size) = operate [.ref s.heap.objs.size, .str x t] (getItem (.str x t) (.ref s.heap.objs.size)) := by with_unfolding_all rfl)
    (ht : ∀ r, letTemporaryGo value (.str x t) r = pure () := by intro _; with_unfolding_all rfl) :
    wpAny (model prog w) A (subscriptTail value slice (.str x t) (.ref s.heap.objs.size)) Q E { s with heap := s.heap.push { cls := .type "slice", data := .fields #[.none, .int j uj, .none] } } :=
  slice_strN_ns hF hN (fun h' t' k a b => by rw [e]; exact h h' t' k a b) hs ht hsz
theorem sl_ss {i j : Int} {ui uj : Tok} (e : Txt.slice x (some i) (some j) = y) (hF : Fr h₀ L s.heap m) (hN : News h₀ L s.heap news) (hsz : x.length ≤ sizeLine) (h : ∀ h' t' k, Fr h₀ L h' m → News h₀ L h' news → Q (.str y t') { s with heap := h', toks := k })
    (hs : subscripted slice false (.str x t) (.ref s.heap.objs.size) = operate [.ref s.heap.objs.size, .str x t] (getItem (.str x t) (.ref s.heap.objs.size)) := by with_unfolding_all rfl)
    (ht : ∀ r, letTemporaryGo value (.str x t) r = pure () := by intro _; with_unfolding_all rfl) :
    wpAny (model prog w) A (subscriptTail value slice (.str x t) (.ref s.heap.objs.size)) Q E { s with heap := s.heap.push { cls := .type "slice", data := .fields #[.int i ui, .int j uj, .none] } } :=
  slice_strN_ss hF hN (fun h' t' k a b => by rw [e]; exact h h' t' k a b) hs ht hsz
theorem fd2 {k : Int} (e : Txt.find x y = k) (h : Q (.int k s.toks) { s with toks := s.toks + 1 }) : wpAny (model prog w) A (call (.builtin "str.find") [.str x t, .str y u]) Q E s := by
  subst e
  exact SC.find h
theorem fd3 {k i : Int} (e : Txt.find3 x y i = k) (h : Q (.int k s.toks) { s with toks := s.toks + 1 }) : wpAny (model prog w) A (call (.builtin "str.find") [.str x t, .str y u, .int i v]) Q E s := by
  subst e
  exact SC.find3 h
theorem ne_self (h : Q (.bool false) s) : wpAny (model prog w) A (compareOp .NotEq (.str x t) (.str x u)) Q E s := PySem.P.ne_str (by
  have e : (x.cps.toList != x.cps.toList) = false := by simp
  rw [e]; exact h)
theorem it_str {i : Int} {u : Tok} (e : Txt.item x i = y) (h1 : 0 ≤ i) (h2 : i < x.length) (h3 : i < 1000) (h : Q (.str y s.toks) { s with toks := s.toks + 1 })
    (hs : subscripted slice false (.str x t) (.int i u) = operate [.str x t, .int i u] (getItem (.str x t) (.int i u)) := by with_unfolding_all rfl)
    (ht : ∀ r, letTemporaryGo value (.str x t) r = pure () := by intro _; with_unfolding_all rfl) :
    wpAny (model prog w) A (subscriptTail value slice (.str x t) (.int i u)) Q E s :=
  item_str (fitsSsize_of (N := 9223372036854775808) (by omega) (by omega) (Int.le_refl _)) (by omega) h2 (fun _ => by rw [e]; exact h) hs ht
theorem sp5 {a b c d e₅ : PySem.Str} (e : Txt.split x y = [a, b, c, d, e₅]) (hF : Fr h₀ L s.heap m) (hN : News h₀ L s.heap news) (hy : (y.length == 0) = false) (hsz : x.length + 2 ≤ sizeLine)
    (h : ∀ D t1 t2 t3 t4 t5 h' k, Fr h₀ L h' m → News h₀ L h' ((D, listOf #[.str a t1, .str b t2, .str c t3, .str d t4, .str e₅ t5] 0) :: news) → (∀ p ∈ news, p.1 < D) → Q (.ref D) { s with heap := h', toks := k }) :
    wpAny (model prog w) A (call (.builtin "str.split") [.str x t, .str y u]) Q E s := KSpl.split1 hF hN hy (fun D l h' k el _ F N hl => by
  rw [e] at el
  obtain ⟨t1, l1, rfl, e1⟩ := KSpl.cons_of el
  obtain ⟨t2, l2, rfl, e2⟩ := KSpl.cons_of e1
  obtain ⟨t3, l3, rfl, e3⟩ := KSpl.cons_of e2
  obtain ⟨t4, l4, rfl, e4⟩ := KSpl.cons_of e3
  obtain ⟨t5, l5, rfl, e5⟩ := KSpl.cons_of e4
  have e6 := KSpl.nil_of e5
  subst e6
  exact h D t1 t2 t3 t4 t5 h' k F N hl) hsz
end
section
open LCg LCt
variable {prog : Program} {w : World} {A : Around} {E : Value → Shared → Prop} {s : Shared} {h₀ : Heap} {L : Addr} {m : PySem.Str → Option Value} {env : Env}
theorem compEnd_mono {s₁ : Shared} {I : Addr} {oI : Obj} {C : Addr} {oC : Obj} {D : Addr} {oD : Obj} {S : List (Addr × Obj) → Prop} {rest rest' : Value → List (Addr × Obj) → Prop} (hr : ∀ y n, rest y n → rest' y n) {y : Value} {s₂ : Shared}
    (h : CompEnd h₀ L m s₁ I oI C oC D oD S rest y s₂) : CompEnd h₀ L m s₁ I oI C oC D oD S rest' y s₂ := by
  obtain ⟨h', tk, n, e, F, N, O, hS, r⟩ := h
  exact ⟨h', tk, n, e, F, N, O, hS, hr _ _ r⟩
/-- a comprehension by what holds between its turns -/
theorem comp_ind {elt : PySem.Expr} {x : PySem.Str} {scope : Scope} {cl : List (PySem.Str × Addr)} {S : List (Addr × Obj) → Prop} {P : Nat → Value → Prop} {Fin : List Value → List (Addr × Obj) → Prop} {n : Nat} (Inv : Nat → List Value → List (Addr × Obj) → Prop)
    (step : ∀ i ys news v I oI C oC D m₂ h tk (E' : Value → Shared → Prop), i < n → Inv i ys news → P i v → NsObj oC m₂ → m₂ x = some v → Fr h₀ L h m → News h₀ L h ((I, oI) :: (C, oC) :: (D, lst ys) :: news) → Off3 I C D news → ((@Ne Nat I C) ∧ (@Ne Nat I D) ∧ (@Ne Nat C D)) →
      wpAny (model prog w) A (eval elt (compEnvC scope cl C env)) (CompEnd h₀ L m { s with heap := h, toks := tk } I oI C oC D (lst ys) S (fun y news' => Inv (i + 1) (ys ++ [y]) news')) E' { s with heap := h, toks := tk })
    (fin : ∀ ys news, Inv n ys news → Fin ys news) : ∀ k i ys news, i + k = n → Inv i ys news → CompRest prog w A h₀ L m env elt x scope cl s S P Fin k i ys news
  | 0, i, ys, news, e, hI => fin ys news (by rw [Nat.add_zero] at e; rw [← e]; exact hI)
  | k + 1, i, ys, news, e, hI => fun v I oI C oC D m₂ h tk E' hP ho hx F N O ne =>
    wpAny_mono (step i ys news v I oI C oC D m₂ h tk E' (by omega) hI hP ho hx F N O ne) (fun y s₂ q => compEnd_mono (fun y' n' hn' => comp_ind Inv step fin k (i + 1) (ys ++ [y']) n' (by omega) hn') q) fun _ _ q => q
theorem compT_ind {ct elt : PySem.Expr} {x : PySem.Str} {scope : Scope} {cl : List (PySem.Str × Addr)} {S : List (Addr × Obj) → Prop} {P : Nat → Value → Prop} {Fin : List Value → List (Addr × Obj) → Prop} {n : Nat} (Inv : Nat → List Value → List (Addr × Obj) → Prop)
    (step : ∀ i ys news v I oI C oC D m₂ h tk (E' : Value → Shared → Prop), i < n → Inv i ys news → P i v → NsObj oC m₂ → m₂ x = some v → Fr h₀ L h m → News h₀ L h ((I, oI) :: (C, oC) :: (D, lst ys) :: news) → Off3 I C D news → ((@Ne Nat I C) ∧ (@Ne Nat I D) ∧ (@Ne Nat C D)) →
      wpAny (model prog w) A (isTrue ct (compEnvC scope cl C env) (eval ct (compEnvC scope cl C env))) (fun ok s' => if ok = true then
        wpAny (model prog w) A (eval elt (compEnvC scope cl C env)) (CompEnd h₀ L m { s with heap := h, toks := tk } I oI C oC D (lst ys) S (fun y news' => Inv (i + 1) (ys ++ [y]) news')) E' s'
        else CompEnd h₀ L m { s with heap := h, toks := tk } I oI C oC D (lst ys) S (fun _ news' => Inv (i + 1) ys news') Value.none s') E' { s with heap := h, toks := tk })
    (fin : ∀ ys news, Inv n ys news → Fin ys news) : ∀ k i ys news, i + k = n → Inv i ys news → CompRestT prog w A h₀ L m env ct elt x scope cl s S P Fin k i ys news
  | 0, i, ys, news, e, hI => fin ys news (by rw [Nat.add_zero] at e; rw [← e]; exact hI)
  | k + 1, i, ys, news, e, hI => fun v I oI C oC D m₂ h tk E' hP ho hx F N O ne =>
    wpAny_mono (step i ys news v I oI C oC D m₂ h tk E' (by omega) hI hP ho hx F N O ne) (fun ok s₂ q => by
      cases ok with
      | true => exact wpAny_mono q (fun y s₃ q' => compEnd_mono (fun y' n' hn' => compT_ind Inv step fin k (i + 1) (ys ++ [y']) n' (by omega) hn') q') fun _ _ q => q
      | false => exact compEnd_mono (y := Value.none) (fun y' n' hn' => compT_ind Inv step fin k (i + 1) ys n' (by omega) hn') q) fun _ _ q => q
def CutEnd (Mid : Shared → Prop) (f : Flow) (s' : Shared) : Prop := f = .next ∧ Mid s'
theorem CutEnd.intro {Mid : Shared → Prop} {s' : Shared} (h : Mid s') : CutEnd Mid .next s' := ⟨rfl, h⟩
/-- a statement, then the rest, with what holds between -/
theorem seq_cut {M : Model} {st : Stmt} {rest : List Stmt} {Q : Flow → Shared → Prop} (Mid : Shared → Prop) (h1 : wpAny M A (exec st env) (CutEnd Mid) E s) (h2 : ∀ s', Mid s' → wpAny M A (execs rest env) Q E s') : wpAny M A (execs (st :: rest) env) Q E s := by
  refine wpAny_execs_cons (wpAny_mono h1 (fun f s' q => ?_) fun _ _ q => q)
  obtain ⟨rfl, q⟩ := q
  exact h2 s' q
theorem fr_same {g h : Heap} {L : Addr} {m m' : PySem.Str → Option Value} (F : Fr g L h m) (e : ∀ y, m' y = m y) : Fr g L h m' := by
  have : m' = m := funext e
  rw [this]; exact F
/-- an int of a list, at a place in bounds -/
theorem ints_at {vs : List Value} {zs : List Int} (h : IntsAre vs zs) {k : Nat} (hk : k < zs.length) : ∃ t, vs[k]? = some (.int (zs.getD k 0) t) := by
  induction h generalizing k with
  | nil => simp at hk
  | cons _ _ _ ih =>
    cases k with
    | zero => exact ⟨_, rfl⟩
    | succ k =>
      simp only [List.length_cons] at hk
      exact ih (by omega)
end
structure Rep (R : PySem.Str) (lf rt : Int) (mk bd : PySem.Str) (port : Int) : Prop where
  len : R.length ≤ 1000
  e1 : Txt.slice R none (some 3) = Str.ofString "229"
  e2 : Txt.find R (Str.ofString "(") = lf
  l0 : 0 ≤ lf
  l1 : lf < 100
  e3 : Txt.find3 R (Str.ofString ")") (lf + 1) = rt
  r0 : 1 ≤ rt
  r1 : rt < 100
  e4 : Txt.item R (lf + 1) = mk
  e4b : lf + 1 < R.length
  e5 : Txt.item R (rt - 1) = mk
  e5b : rt - 1 < R.length
  e6 : Txt.slice R (some (lf + 1)) (some rt) = bd
  bl : bd.length ≤ 1000
  ml : (mk.length == 0) = false
  e7 : Txt.split bd mk = [Str.ofString "", Str.ofString "", Str.ofString "", Str.ofString (toString port), Str.ofString ""]
  p0 : 0 ≤ port
  p1 : port < 65536
theorem item_led {prog : Program} {w : World} {A : Around} {E : Value → Shared → Prop} {s : Shared} {g : Heap} {L' l : Addr} {value slice : PySem.Expr} {vs : Array Value} {n : Nat} {k : Int} {u : Tok} {v : Value} {led : List (Addr × Obj)} {Q : Value → Shared → Prop}
    (N : News g L' s.heap led) (hm : (l, listOf vs n) ∈ led) (h0 : 0 ≤ k) (hhi : k < 2 ^ 63) (hx : vs[k.toNat]? = some v) (h : Q v s)
    (hs : subscripted slice false (.ref l) (.int k u) = operate [.ref l, .int k u] (getItem (.ref l) (.int k u)) := by with_unfolding_all rfl) :
    wpAny (model prog w) A (subscriptTail value slice (.ref l) (.int k u)) Q E s :=
  have hl' : s.heap.IsList l vs := ⟨_, (N _ hm).1, rfl, n, rfl⟩
  tail_any hl'.typeIs slot_list_getitem.lookup (wpAny_getItem_list hl' h0 hhi hx h) hs
section
variable {prog : Program} {w : World} {A : Around} {E : Value → Shared → Prop} {s : Shared} {h₀ : Heap} {env : Env} {x : PySem.Str} {body : List Stmt} {Q : Flow → Shared → Prop}
/-- a loop over a range by what holds between its turns -/
theorem range_ind {I : Addr} {a : Int} {n : Nat} (Inv : Nat → (PySem.Str → Option Value) → List (Addr × Obj) → Prop)
    (step : ∀ i m news t h tk, i < n → Inv i m news → Fr h₀ env.locals h (fun y => if y = x then some (.int (a + (i : Int)) t) else m y) →
      News h₀ env.locals h ((I, itR (a + ((i + 1 : Nat) : Int)) ((n : Int) - ((i + 1 : Nat) : Int))) :: news) →
      wpAny (model prog w) A (execs body env) (fun f s₂ => f = .next ∧ UnrEnd h₀ env.locals { s with heap := h, toks := tk } I (itR (a + ((i + 1 : Nat) : Int)) ((n : Int) - ((i + 1 : Nat) : Int))) (fun m' news' => Inv (i + 1) m' news') s₂) E { s with heap := h, toks := tk })
    (fin : ∀ m news, Inv n m news → ∀ h tk, Fr h₀ env.locals h m → News h₀ env.locals h news → Q .next { s with heap := h, toks := tk }) :
    ∀ k i m news, i + k = n → Inv i m news → RangeRest prog w A E h₀ env x body Q s I a n k i m news
  | 0, i, m, news, e, hI => fin m news (by rw [Nat.add_zero] at e; rw [← e]; exact hI)
  | k + 1, i, m, news, e, hI => fun t h tk F N =>
    wpAny_mono (step i m news t h tk (by omega) hI F N) (fun f s₂ q => by
      obtain ⟨rfl, h', tk', m', n', e', F', N', off, r⟩ := q
      exact ⟨h', tk', m', n', e', F', N', off, range_ind Inv step fin k (i + 1) m' n' (by omega) r⟩) fun _ _ q => q
end
/-- a turn's end: the frame and the ledger, behind a name of its own -/
def FrEnd (h₀ : Heap) (L : Addr) (s : Shared) (M : Tok → Tok → PySem.Str → Option Value) (news : List (Addr × Obj)) (fl : Flow) (s₂ : Shared) : Prop :=
  fl = .next ∧ ∃ h' tk' t' tx', s₂ = { s with heap := h', toks := tk' } ∧ Fr h₀ L h' (M t' tx') ∧ News h₀ L h' news
theorem FrEnd.intro {h₀ h' : Heap} {L : Addr} {s : Shared} {M : Tok → Tok → PySem.Str → Option Value} {news : List (Addr × Obj)} {tk' : Nat} {t' tx' : Tok} (F : Fr h₀ L h' (M t' tx')) (N : News h₀ L h' news) : FrEnd h₀ L s M news .next { s with heap := h', toks := tk' } := ⟨rfl, h', tk', t', tx', rfl, F, N⟩
def LsEnd (h₀ : Heap) (L : Addr) (s : Shared) (M : Tok → PySem.Str → Option Value) (D : Addr) (zs : List Int) (pre news : List (Addr × Obj)) (fl : Flow) (s₂ : Shared) : Prop :=
  fl = .next ∧ ∃ h' tk' tx' ys' c', s₂ = { s with heap := h', toks := tk' } ∧ IntsAre (Array.toList ys') zs ∧ Fr h₀ L h' (M tx') ∧ News h₀ L h' (pre ++ (D, listOf ys' c') :: news)
theorem LsEnd.intro {h₀ h' : Heap} {L : Addr} {s : Shared} {M : Tok → PySem.Str → Option Value} {D : Addr} {zs : List Int} {pre news : List (Addr × Obj)} {tk' c' : Nat} {tx' : Tok} {ys' : Array Value} (hy : IntsAre ys'.toList zs) (F : Fr h₀ L h' (M tx')) (N : News h₀ L h' (pre ++ (D, listOf ys' c') :: news)) :
    LsEnd h₀ L s M D zs pre news .next { s with heap := h', toks := tk' } := ⟨rfl, h', tk', tx', ys', c', rfl, hy, F, N⟩
section
variable {prog : Program} {w : World} {A : Around} {E : Value → Shared → Prop} {s : Shared} {h₀ : Heap} {env : Env} {x y : PySem.Str} {body : List Stmt} {Q : Flow → Shared → Prop}
/-- a loop over a range that turns one int name, the k-th value of which is f k -/
theorem int_loop {r : Addr} {a₀ b₀ : Int} {t₀ u₀ v₀ : Tok} {n : Nat} {m₀ : PySem.Str → Option Value} {news : List (Addr × Obj)} (f : Nat → Int) {ty : Tok}
    (hh : A.handled = none) (hr : IsRange s.heap r a₀ b₀ 1 t₀ u₀ v₀) (hsmall : Builtin.Range.small a₀ b₀ 1 = true) (hn : Builtin.Range.rangeSize a₀ b₀ 1 = (n : Int)) (F : Fr h₀ env.locals s.heap m₀) (N : News h₀ env.locals s.heap news)
    (hy : m₀ y = some (.int (f 0) ty)) (hxy : x ≠ y)
    (step : ∀ I (i : Nat) t tx h tk, (∀ p ∈ news, p.1 < I) → i < n → Fr h₀ env.locals h (fun z => if z = x then some (.int (a₀ + (i : Int)) tx) else if z = y then some (.int (f i) t) else m₀ z) →
      News h₀ env.locals h ((I, itR (a₀ + ((i + 1 : Nat) : Int)) ((n : Int) - ((i + 1 : Nat) : Int))) :: news) →
      wpAny (model prog w) A (execs body env) (FrEnd h₀ env.locals s (fun t' tx' z => if z = y then some (.int (f (i + 1)) t') else if z = x then some (.int (a₀ + (i : Int)) tx') else if z = y then some (.int (f i) t) else m₀ z) ((I, itR (a₀ + ((i + 1 : Nat) : Int)) ((n : Int) - ((i + 1 : Nat) : Int))) :: news)) E { s with heap := h, toks := tk })
    (fin : ∀ h tk t su, Fr h₀ env.locals h (fun z => if z = y then some (.int (f n) t) else if z = x then su else m₀ z) → News h₀ env.locals h news → Q .next { s with heap := h, toks := tk }) :
    wpAny (model prog w) A (pyIter (.ref r)) (fun it s₂ => LoopAtV prog w A h₀ env x body Q E it s₂) E s := by
  refine iter_rangeUnr hh hr hsmall hn F N fun I hI => ?_
  refine range_ind (fun k m nw => nw = news ∧ ∃ t su, ∀ z, m z = if z = y then some (.int (f k) t) else if z = x then su else m₀ z) ?_ ?_ n 0 m₀ news (Nat.zero_add n) ⟨rfl, ty, m₀ x, fun z => ?_⟩
  · rintro i m nw t h tk hi ⟨rfl, t', su, hm⟩ F₁ N₁
    refine wpAny_mono (step I i t' t h tk hI hi (fr_same F₁ fun z => ?_) N₁) (fun fl s₂ q => ?_) fun _ _ q => q
    · skip
      by_cases h1 : z = x
      · rw [if_pos h1, if_pos h1]
      · rw [if_neg h1, if_neg h1, hm z, if_neg h1]
    · obtain ⟨rfl, h', tk', t'', tx', rfl, F₂, N₂⟩ := q
      refine ⟨rfl, h', tk', _, nw, rfl, F₂, N₂, fun p hp => Nat.ne_of_lt (hI p hp), rfl, t'', some (.int (a₀ + (i : Int)) tx'), fun z => ?_⟩
      dsimp only
      by_cases h1 : z = y
      · rw [if_pos h1, if_pos h1]
      · rw [if_neg h1, if_neg h1, if_neg h1]
  · rintro m nw ⟨rfl, t, su, hm⟩ h tk F₁ N₁
    exact fin h tk t su (fr_same F₁ fun z => (hm z).symm) N₁
  · by_cases h1 : z = y
    · rw [if_pos h1, h1, hy]
    · rw [if_neg h1]
      by_cases h2 : z = x
      · rw [if_pos h2, h2]
      · rw [if_neg h2]
/-- a loop over a range that turns one list of ints and no name -/
theorem list_loop {r D : Addr} {a₀ b₀ : Int} {t₀ u₀ v₀ : Tok} {n c₀ : Nat} {ys₀ : Array Value} {m₀ : PySem.Str → Option Value} {news : List (Addr × Obj)} (f : Nat → List Int)
    (hh : A.handled = none) (hr : IsRange s.heap r a₀ b₀ 1 t₀ u₀ v₀) (hsmall : Builtin.Range.small a₀ b₀ 1 = true) (hn : Builtin.Range.rangeSize a₀ b₀ 1 = (n : Int)) (F : Fr h₀ env.locals s.heap m₀) (N : News h₀ env.locals s.heap ((D, listOf ys₀ c₀) :: news))
    (hy : IntsAre ys₀.toList (f 0))
    (step : ∀ I (i : Nat) (ys : Array Value) c tx h tk, (∀ p ∈ (D, listOf ys₀ c₀) :: news, p.1 < I) → i < n → IntsAre ys.toList (f i) → Fr h₀ env.locals h (fun z => if z = x then some (.int (a₀ + (i : Int)) tx) else m₀ z) →
      News h₀ env.locals h ((I, itR (a₀ + ((i + 1 : Nat) : Int)) ((n : Int) - ((i + 1 : Nat) : Int))) :: (D, listOf ys c) :: news) →
      wpAny (model prog w) A (execs body env) (LsEnd h₀ env.locals s (fun tx' z => if z = x then some (.int (a₀ + (i : Int)) tx') else m₀ z) D (f (i + 1)) [(I, itR (a₀ + ((i + 1 : Nat) : Int)) ((n : Int) - ((i + 1 : Nat) : Int)))] news) E { s with heap := h, toks := tk })
    (fin : ∀ h tk su ys c, IntsAre (Array.toList ys) (f n) → Fr h₀ env.locals h (fun z => if z = x then su else m₀ z) → News h₀ env.locals h ((D, listOf ys c) :: news) → Q .next { s with heap := h, toks := tk }) :
    wpAny (model prog w) A (pyIter (.ref r)) (fun it s₂ => LoopAtV prog w A h₀ env x body Q E it s₂) E s := by
  refine iter_rangeUnr hh hr hsmall hn F N fun I hI => ?_
  refine range_ind (fun k m nw => ∃ ys c su, nw = (D, listOf ys c) :: news ∧ IntsAre ys.toList (f k) ∧ ∀ z, m z = if z = x then su else m₀ z) ?_ ?_ n 0 m₀ _ (Nat.zero_add n) ⟨ys₀, c₀, m₀ x, rfl, hy, fun z => ?_⟩
  · rintro i m nw t h tk hi ⟨ys, c, su, rfl, hys, hm⟩ F₁ N₁
    refine wpAny_mono (step I i ys c t h tk hI hi hys (fr_same F₁ fun z => ?_) N₁) (fun fl s₂ q => ?_) fun _ _ q => q
    · skip
      by_cases h1 : z = x
      · rw [if_pos h1, if_pos h1]
      · rw [if_neg h1, if_neg h1, hm z, if_neg h1]
    · obtain ⟨rfl, h', tk', tx', ys', c', rfl, hys', F₂, N₂⟩ := q
      refine ⟨rfl, h', tk', _, (D, listOf ys' c') :: news, rfl, F₂, N₂, fun p hp => ?_, ys', c', some (.int (a₀ + (i : Int)) tx'), rfl, hys', fun z => rfl⟩
      rcases List.mem_cons.mp hp with rfl | hp
      · exact Nat.ne_of_lt (hI (D, listOf ys₀ c₀) (.head _))
      · exact Nat.ne_of_lt (hI p (.tail _ hp))
  · rintro m nw ⟨ys, c, su, rfl, hys, hm⟩ h tk F₁ N₁
    exact fin h tk su ys c hys (fr_same F₁ fun z => (hm z).symm) N₁
  · by_cases h2 : z = x
    · rw [if_pos h2, h2]
    · rw [if_neg h2]
end
theorem news_isList {g h : Heap} {L' l : Addr} {vs : Array Value} {n : Nat} {led : List (Addr × Obj)} (N : News g L' h led) (hm : (l, listOf vs n) ∈ led) : h.IsList l vs := ⟨_, (N _ hm).1, rfl, n, rfl⟩
theorem news_one {h₀ h : Heap} {L : Addr} {led news : List (Addr × Obj)} {p : Addr × Obj} (m0 : p ∈ led) (kN : News h₀ L h led) (N : News h₀ L h news) : News h₀ L h (p :: news) := fun q hq => by
  rcases List.mem_cons.mp hq with rfl | hq
  · exact kN _ m0
  · exact N _ hq
theorem len_ints {prog : Program} {w : World} {A : Around} {E : Value → Shared → Prop} {s : Shared} {a : Addr} {vs : List Value} {ns : List Int} {Q : Value → Shared → Prop} (hl : s.heap.IsList a vs.toArray) (hi : IntsAre vs ns) (hfit : (ns.length : Int) < 2 ^ 63) (h : Q (.int ns.length (s.toks + 1)) { s with toks := s.toks + 1 + 1 }) : wpAny (model prog w) A (call (.builtin "len") [.ref a]) Q E s := by
  have e : (List.toArray vs).size = ns.length := by rw [List.size_toArray]; exact hi.length
  exact call_len_list hl (by rw [e]; exact hfit) (by rw [e]; exact h)
theorem news_drop1 {g h : Heap} {L : Addr} {p a : Addr × Obj} {r : List (Addr × Obj)} (N : News g L h (p :: a :: r)) : News g L h (p :: r) := fun q hq => by
  rcases List.mem_cons.mp hq with rfl | hq
  · exact N _ (.head _)
  · exact N _ (.tail _ (.tail _ hq))
theorem news_drop2 {g h : Heap} {L : Addr} {p a b : Addr × Obj} {r : List (Addr × Obj)} (N : News g L h (p :: a :: b :: r)) : News g L h (p :: r) := news_drop1 (news_drop1 N)
theorem news_tl {g h : Heap} {L : Addr} {p : Addr × Obj} {r : List (Addr × Obj)} (N : News g L h (p :: r)) : News g L h r := fun q hq => N q (.tail _ hq)
theorem set_led {prog : Program} {w : World} {A : Around} {E : Value → Shared → Prop} {s : Shared} {g : Heap} {L' D : Addr} {m : PySem.Str → Option Value} {its : Array Value} {n : Nat} {k : Int} {t : Tok} {v : Value} {news news' : List (Addr × Obj)} {Q : Unit → Shared → Prop}
    (F : Fr g L' s.heap m) (N : News g L' s.heap news) (U : Upd D (listOf its n) (listOf (its.setIfInBounds k.toNat v) n) news news') (h0 : 0 ≤ k) (hfit : k < 2 ^ 63) (hn : k < its.size)
    (h : ∀ h', Fr g L' h' m → News g L' h' news' → Q () { s with heap := h' }) : wpAny (model prog w) A (setItem (.ref D) (.int k t) v) Q E s := by
  obtain ⟨pre, post, rfl, rfl, a, b⟩ := U.split
  have z := N (D, listOf its n) (List.mem_append.mpr (.inr (.head _)))
  exact ki_setAt z.1 h0 hfit hn (h _ (F.change (Heap.SameBut.update ..) z.2.1 z.2.2) (ki_turn _ N a b rfl (by rw [if_pos (by simp)])))
theorem item_neg_led {prog : Program} {w : World} {A : Around} {E : Value → Shared → Prop} {s : Shared} {g : Heap} {L' l : Addr} {value slice : PySem.Expr} {vs : Array Value} {n : Nat} {k : Int} {u : Tok} {v : Value} {led : List (Addr × Obj)} {Q : Value → Shared → Prop}
    (N : News g L' s.heap led) (hm : (l, listOf vs n) ∈ led) (h0 : k < 0) (h1 : -(vs.size : Int) ≤ k) (hlo : -(2 ^ 63) ≤ k) (hx : vs[(k + vs.size).toNat]? = some v) (h : Q v s)
    (hs : subscripted slice false (.ref l) (.int k u) = operate [.ref l, .int k u] (getItem (.ref l) (.int k u)) := by with_unfolding_all rfl) :
    wpAny (model prog w) A (subscriptTail value slice (.ref l) (.int k u)) Q E s :=
  have hl' : s.heap.IsList l vs := ⟨_, (N _ hm).1, rfl, n, rfl⟩
  tail_any hl'.typeIs slot_list_getitem.lookup (wpAny_getItem_list_neg hl' h0 h1 hlo hx h) hs
theorem item_ints_led {prog : Program} {w : World} {A : Around} {E : Value → Shared → Prop} {s : Shared} {g : Heap} {L' l : Addr} {value slice : PySem.Expr} {vs : Array Value} {n : Nat} {k : Int} {u : Tok} {zs : List Int} {led : List (Addr × Obj)} {Q : Value → Shared → Prop}
    (N : News g L' s.heap led) (hm : (l, listOf vs n) ∈ led) (hi : IntsAre vs.toList zs) (h0 : 0 ≤ k) (hhi : k < 2 ^ 63) (h1 : k < zs.length) (h : ∀ t, Q (.int (zs.getD k.toNat 0) t) s)
    (hs : subscripted slice false (.ref l) (.int k u) = operate [.ref l, .int k u] (getItem (.ref l) (.int k u)) := by with_unfolding_all rfl) :
    wpAny (model prog w) A (subscriptTail value slice (.ref l) (.int k u)) Q E s := by
  obtain ⟨t, ht⟩ := ints_at hi (k := k.toNat) (by omega)
  exact item_led N hm h0 hhi (by rw [← Array.getElem?_toList]; exact ht) (h t) hs
theorem news_sub3 {g h : Heap} {L' : Addr} {led : List (Addr × Obj)} {p1 p2 p3 : Addr × Obj} (m1 : p1 ∈ led) (m2 : p2 ∈ led) (m3 : p3 ∈ led) (N : News g L' h led) : News g L' h [p1, p2, p3] := fun q hq => by
  rcases List.mem_cons.mp hq with rfl | hq
  · exact N _ m1
  rcases List.mem_cons.mp hq with rfl | hq
  · exact N _ m2
  rcases List.mem_cons.mp hq with rfl | hq
  · exact N _ m3
  cases hq
end Mine
end

section
open PySem PySem.W PyProof.Rows PySem.Spec PySem.Calls
set_option Elab.async false
set_option maxRecDepth 100000
set_option linter.unusedVariables false
namespace Mine
/-- the end of a turn over the items of a tuple: the frame is of the family's next form -/
def ItEnd {α : Type} (h₀ : Heap) (L : Addr) (s : Shared) (M : Nat → α → PySem.Str → Option Value) (i : Nat) (led : List (Addr × Obj)) (fl : Flow) (s₂ : Shared) : Prop :=
  fl = .next ∧ ∃ h' tk' a, s₂ = { s with heap := h', toks := tk' } ∧ Fr h₀ L h' (M i a) ∧ News h₀ L h' led
theorem ItEnd.intro {α : Type} {h₀ h' : Heap} {L : Addr} {s : Shared} {M : Nat → α → PySem.Str → Option Value} {i : Nat} {led : List (Addr × Obj)} {fm : PySem.Str → Option Value} {tk' : Nat} (a : α) (F : Fr h₀ L h' fm) (e : ∀ z, M i a z = fm z) (N : News h₀ L h' led) :
    ItEnd h₀ L s M i led .next { s with heap := h', toks := tk' } := ⟨rfl, h', tk', a, rfl, fr_same F e, N⟩
theorem drop_at {vs : List Value} {i : Nat} {v : Value} (h : vs[i]? = some v) : vs.drop i = v :: vs.drop (i + 1) := by
  obtain ⟨hi, e⟩ := List.getElem?_eq_some_iff.mp h
  rw [← e]
  exact List.drop_eq_getElem_cons hi
theorem subL_nil : ∀ {keep news : List (Addr × Obj)}, SubL keep news → ∀ {p : Addr × Obj}, p ∈ keep → p ∈ news
  | [], _, _, _, h => nomatch h
  | _ :: _, _, x, p, h => by
    rcases List.mem_cons.mp h with rfl | h
    · exact x.1
    · exact subL_nil x.2 h
section
variable {prog : Program} {w : World} {A : Around} {E : Value → Shared → Prop} {s : Shared} {h₀ : Heap} {env : Env} {target : PySem.Expr} {body : List Stmt} {Q : Flow → Shared → Prop}
theorem items_ind {α : Type} {I : Addr} {cl : String} {keep : List (Addr × Obj)} {news : List (Addr × Obj)} {vs : List Value} {n : Nat} (M : Nat → α → PySem.Str → Option Value) (kz : Nat → Int)
    (hv : ∀ i, i < n → ∃ t, vs[i]? = some (.int (kz i) t)) (hn : vs.length = n) (hk : SubL keep news) (hI : ∀ p ∈ news, p.1 < I)
    (step : ∀ o i t a h tk, i < n → o.cls = .type cl → Fr h₀ env.locals h (M i a) → News h₀ env.locals h ((I, o) :: news) →
      wpAny (model prog w) A (assign target env (.int (kz i) t)) (fun _ s₂ => wpAny (model prog w) A (execs body env) (ItEnd h₀ env.locals s M (i + 1) ((I, o) :: news)) E s₂) E { s with heap := h, toks := tk })
    (fin : ∀ h tk a, Fr h₀ env.locals h (M n a) → News h₀ env.locals h news → Q .next { s with heap := h, toks := tk }) :
    ∀ k i m, i + k = n → (∃ a, ∀ z, M i a z = m z) → ItemsRest prog w A E h₀ env target body Q s [(I, cl)] keep ((vs.drop i).map .val) m news
  | 0, i, m, e, ⟨a, hm⟩ => by
    rw [List.drop_eq_nil_of_le (by omega)]
    rw [Nat.add_zero] at e
    subst e
    exact fun h tk F N => fin h tk a (fr_same F hm) N
  | k + 1, i, m, e, ⟨a, hm⟩ => by
    obtain ⟨t, ht⟩ := hv i (by omega)
    rw [drop_at ht]
    refine ItemsRest.val fun h tk F => AllObj.cons fun o hc => AllObj.nil fun N => ?_
    refine wpAny_mono (step o i t a h tk (by omega) hc (fr_same F hm) N) (fun _ s₂ q => wpAny_mono q (fun fl s₃ r => ?_) fun _ _ q => q) fun _ _ q => q
    obtain ⟨rfl, h', tk', a', rfl, F', N'⟩ := r
    exact ⟨h', tk', _, news, rfl, F', N', fun p hp q hq => by rw [List.mem_singleton.mp hq]; exact Nat.ne_of_lt (hI p hp), hk, items_ind M kz hv hn hk hI step fin k (i + 1) _ (by omega) ⟨a', fun _ => rfl⟩⟩
theorem items_loop {α : Type} {I : Addr} {cl : String} {keep : List (Addr × Obj)} {news : List (Addr × Obj)} {vs : List Value} {n : Nat} {m : PySem.Str → Option Value} (M : Nat → α → PySem.Str → Option Value) (kz : Nat → Int)
    (hv : ∀ i, i < n → ∃ t, vs[i]? = some (.int (kz i) t)) (hn : vs.length = n) (hk : SubL keep news) (hI : ∀ p ∈ news, p.1 < I) (h0 : ∃ a, ∀ z, M 0 a z = m z)
    (step : ∀ o i t a h tk, i < n → o.cls = .type cl → Fr h₀ env.locals h (M i a) → News h₀ env.locals h ((I, o) :: news) →
      wpAny (model prog w) A (assign target env (.int (kz i) t)) (fun _ s₂ => wpAny (model prog w) A (execs body env) (ItEnd h₀ env.locals s M (i + 1) ((I, o) :: news)) E s₂) E { s with heap := h, toks := tk })
    (fin : ∀ h tk a, Fr h₀ env.locals h (M n a) → News h₀ env.locals h news → Q .next { s with heap := h, toks := tk }) :
    ItemsRest prog w A E h₀ env target body Q s [(I, cl)] keep (vs.map .val) m news := items_ind M kz hv hn hk hI step fin n 0 m (Nat.zero_add n) h0
end
/-- the frame of a loop that turns two ints and leaves two dead names behind -/
def M4 (f g : Nat → Int) (y1 y2 y3 y4 : PySem.Str) (m : PySem.Str → Option Value) (i : Nat) (a : Tok × Tok × Option Value × Option Value) : PySem.Str → Option Value :=
  fun z => if z = y1 then some (.int (f i) a.1) else if z = y2 then some (.int (g i) a.2.1) else if z = y3 then a.2.2.1 else if z = y4 then a.2.2.2 else m z
theorem frame4 {y1 y2 y3 y4 : PySem.Str} {a b c d a' b' c' d' : Option Value} {m : PySem.Str → Option Value} (z : PySem.Str) : (if z = y1 then a else if z = y2 then b else if z = y3 then c else if z = y4 then d else m z) =
    (if z = y1 then a else if z = y2 then b else if z = y3 then c else if z = y4 then d else if z = y1 then a' else if z = y2 then b' else if z = y3 then c' else if z = y4 then d' else m z) := by
  by_cases h1 : z = y1
  · rw [if_pos h1, if_pos h1]
  by_cases h2 : z = y2
  · rw [if_neg h1, if_neg h1, if_pos h2, if_pos h2]
  by_cases h3 : z = y3
  · rw [if_neg h1, if_neg h1, if_neg h2, if_neg h2, if_pos h3, if_pos h3]
  by_cases h4 : z = y4
  · rw [if_neg h1, if_neg h1, if_neg h2, if_neg h2, if_neg h3, if_neg h3, if_pos h4, if_pos h4]
  rw [if_neg h1, if_neg h1, if_neg h2, if_neg h2, if_neg h3, if_neg h3, if_neg h4, if_neg h4, if_neg h1, if_neg h2, if_neg h3, if_neg h4]
theorem it4_intro {h₀ h' : Heap} {L : Addr} {s : Shared} {f g : Nat → Int} {y1 y2 y3 y4 : PySem.Str} {m : PySem.Str → Option Value} {i tk' : Nat} {led : List (Addr × Obj)} {u v : Int} {t t' : Tok} {c d a' b' c' d' : Option Value}
    (F : Fr h₀ L h' (fun z => if z = y1 then some (.int u t) else if z = y2 then some (.int v t') else if z = y3 then c else if z = y4 then d else if z = y1 then a' else if z = y2 then b' else if z = y3 then c' else if z = y4 then d' else m z))
    (e1 : f (i + 1) = u) (e2 : g (i + 1) = v) (N : News h₀ L h' led) : ItEnd h₀ L s (M4 f g y1 y2 y3 y4 m) (i + 1) led .next { s with heap := h', toks := tk' } := by
  subst e1 e2
  exact ItEnd.intro (t, t', c, d) F (fun z => frame4 z) N
/-- the frame of a loop that turns one int -/
def M2 (f : Nat → Int) (y1 y2 : PySem.Str) (m : PySem.Str → Option Value) (i : Nat) (a : Tok × Option Value) : PySem.Str → Option Value :=
  fun z => if z = y1 then some (.int (f i) a.1) else if z = y2 then a.2 else m z
theorem m2_zero {f : Nat → Int} {y1 y2 : PySem.Str} {m : PySem.Str → Option Value} {t : Tok} (h : m y1 = some (.int (f 0) t)) : ∃ a, ∀ z, M2 f y1 y2 m 0 a z = m z :=
  ⟨(t, m y2), fun z => by
    show (if z = y1 then _ else if z = y2 then _ else _) = _
    by_cases h1 : z = y1
    · rw [if_pos h1, h1, h]
    rw [if_neg h1]
    by_cases h2 : z = y2
    · rw [if_pos h2, h2]
    rw [if_neg h2]⟩
theorem it2_intro {h₀ h' : Heap} {L : Addr} {s : Shared} {f : Nat → Int} {y1 y2 : PySem.Str} {m : PySem.Str → Option Value} {i tk' : Nat} {led : List (Addr × Obj)} {u : Int} {t : Tok} {c a' b' : Option Value}
    (F : Fr h₀ L h' (fun z => if z = y1 then some (.int u t) else if z = y2 then c else if z = y1 then a' else if z = y2 then b' else m z))
    (e1 : f (i + 1) = u) (N : News h₀ L h' led) : ItEnd h₀ L s (M2 f y1 y2 m) (i + 1) led .next { s with heap := h', toks := tk' } := by
  subst e1
  refine ItEnd.intro (t, c) F (fun z => ?_) N
  show (if z = y1 then _ else if z = y2 then _ else _) = _
  by_cases h1 : z = y1
  · rw [if_pos h1, if_pos h1]
  by_cases h2 : z = y2
  · rw [if_neg h1, if_neg h1, if_pos h2, if_pos h2]
  rw [if_neg h1, if_neg h1, if_neg h2, if_neg h2, if_neg h1, if_neg h2]
theorem lt_cons {a I : Addr} {o : Obj} {r : List (Addr × Obj)} (h : @LT.lt Nat _ a I) (hr : ∀ p ∈ r, p.1 < I) : ∀ p ∈ (a, o) :: r, p.1 < I := fun p hp => by
  rcases List.mem_cons.mp hp with rfl | hp
  · exact h
  · exact hr p hp
theorem lt_nil {I : Addr} : ∀ p ∈ ([] : List (Addr × Obj)), p.1 < I := fun p hp => nomatch hp
theorem six_arr {ys : Array Value} {v0 v1 v2 v3 v4 v5 : Value} (h : ys.size = 6) (e0 : ys[0]? = some v0) (e1 : ys[1]? = some v1) (e2 : ys[2]? = some v2) (e3 : ys[3]? = some v3) (e4 : ys[4]? = some v4) (e5 : ys[5]? = some v5) : ys = #[v0, v1, v2, v3, v4, v5] := by
  apply Array.ext_getElem?
  intro i
  have hi : i = 0 ∨ i = 1 ∨ i = 2 ∨ i = 3 ∨ i = 4 ∨ i = 5 ∨ 6 ≤ i := by omega
  rcases hi with rfl | rfl | rfl | rfl | rfl | rfl | hi
  · exact e0
  · exact e1
  · exact e2
  · exact e3
  · exact e4
  · exact e5
  · rw [Array.getElem?_eq_none (by rw [h]; exact hi), Array.getElem?_eq_none hi]
section
variable {prog : Program} {w : World} {A : Around} {E : Value → Shared → Prop} {s : Shared} {h₀ : Heap} {env : Env} {x : PySem.Str} {body : List Stmt} {Q : Flow → Shared → Prop}
theorem listrest_ind {I : Addr} {lp : Addr × Obj} {vs : List Value} {n : Nat} (Inv : Nat → (PySem.Str → Option Value) → List (Addr × Obj) → Prop) (hn : vs.length = n)
    (step : ∀ i v m news it h tk, vs[i]? = some v → i < n → Inv i m news → it.cls = .type "list_iterator" → Fr h₀ env.locals h (fun y => if y = x then some v else m y) → News h₀ env.locals h ((I, it) :: news) →
      wpAny (model prog w) A (execs body env) (fun f s₂ => f = .next ∧ UnrEnd h₀ env.locals { s with heap := h, toks := tk } I it (fun m' n' => lp ∈ n' ∧ Inv (i + 1) m' n') s₂) E { s with heap := h, toks := tk })
    (fin : ∀ m news, Inv n m news → ∀ h tk, Fr h₀ env.locals h m → News h₀ env.locals h news → Q .next { s with heap := h, toks := tk }) :
    ∀ k i m news, i + k = n → Inv i m news → ListRest prog w A E h₀ env x body Q s I lp (vs.drop i) m news
  | 0, i, m, news, e, hI => by
    rw [List.drop_eq_nil_of_le (by omega)]
    rw [Nat.add_zero] at e
    subst e
    exact fun h tk F N => fin m news hI h tk F N
  | k + 1, i, m, news, e, hI => by
    obtain ⟨v, hv⟩ : ∃ v, vs[i]? = some v := ⟨_, List.getElem?_eq_getElem (by omega)⟩
    rw [drop_at hv]
    refine ListRest.succ fun it h tk hc F N => wpAny_mono (step i v m news it h tk hv (by omega) hI hc F N) (fun f s₂ q => ?_) fun _ _ q => q
    obtain ⟨rfl, h', tk', m', n', e', F', N', off, hl, hI'⟩ := q
    exact ⟨h', tk', m', n', e', F', N', off, hl, listrest_ind Inv hn step fin k (i + 1) m' n' (by omega) hI'⟩
end
theorem cls_ne {g h : Heap} {L a b : Addr} {o o' : Obj} {led : List (Addr × Obj)} (N : News g L h led) (ma : (a, o) ∈ led) (mb : (b, o') ∈ led) (hc : o.cls ≠ o'.cls) : @Ne Nat a b := fun e => by
  have h1 := (N _ ma).1
  have h2 := (N _ mb).1
  have e' : a = b := e
  subst e'
  exact hc (congrArg Obj.cls (Option.some.inj (h1.symm.trans h2)))
end Mine
end

section
open PySem PySem.W PyProof.Rows PySem.Spec PySem.Calls
set_option Elab.async false
set_option linter.unusedVariables false
namespace Mine
open PySem.StrLaws PySem.Builtin PySem.Builtin.Str
/-- the places of a sign in a list, counted from i -/
def occL (c : Nat) : List Nat → Nat → List Nat
  | [], _ => []
  | a :: l, i => if a = c then i :: occL c l (i + 1) else occL c l (i + 1)
theorem occL_app (c : Nat) : ∀ (A B : List Nat) (i : Nat), occL c (A ++ B) i = occL c A i ++ occL c B (i + A.length)
  | [], B, i => by simp [occL]
  | a :: A, B, i => by
    rw [List.cons_append, occL, occL, occL_app c A B (i + 1), List.length_cons, show i + 1 + A.length = i + (A.length + 1) by omega]
    split <;> rfl
theorem occL_none {c : Nat} : ∀ {A : List Nat} (i : Nat), c ∉ A → occL c A i = []
  | [], _, _ => rfl
  | a :: A, i, h => by
    have h1 : a ≠ c := fun e => h (by rw [e]; exact List.mem_cons_self ..)
    rw [occL, if_neg h1, occL_none (i + 1) (fun m => h (List.mem_cons_of_mem _ m))]
theorem occ_all (x : PySem.Str) (c limit : Nat) : ∀ (B : List Nat) (i : Nat) (st : Array Nat × Nat), x.cps.toList.drop i = B → i + B.length = x.length → st.snd ≤ i → st.fst.size + B.length + 1 ≤ limit →
    (forIn (List.range' i (B.length + 1)) st (occBody x ⟨#[c]⟩ x.length limit)).run.fst.toList = st.fst.toList ++ occL c B i
  | [], i, st, hd, hl, hf, hlim => by
    have hl' : i = x.length := by simpa using hl
    rw [show ([] : List Nat).length + 1 = 1 from rfl, show List.range' i 1 = [i] from rfl, List.forIn_cons]
    unfold occBody
    have c2 : ¬ (((st.fst.size < limit ∧ st.snd ≤ i) ∧ i + (⟨#[c]⟩ : PySem.Str).length ≤ x.length) ∧ subAt x ⟨#[c]⟩ i = true) := fun h => by
      have := h.1.2
      have e : (⟨#[c]⟩ : PySem.Str).length = 1 := rfl
      omega
    rw [if_neg c2]
    simp [occL]
  | a :: B, i, st, hd, hl, hf, hlim => by
    rw [List.length_cons] at hl hlim
    rw [List.length_cons, List.range'_succ, List.forIn_cons]
    have hai : x.cps.toList[i]? = some a := by
      have e : x.cps.toList[i]? = (x.cps.toList.drop i)[0]? := by rw [List.getElem?_drop]; rfl
      rw [e, hd]; rfl
    have hd' : x.cps.toList.drop (i + 1) = B := by
      rw [show i + 1 = i + 1 from rfl, ← List.drop_drop, hd]; rfl
    have hs := subAt_one x c i
    rw [hai] at hs
    unfold occBody
    by_cases hc : a = c
    · have h1 := hs.mpr (by rw [hc])
      rw [if_pos ⟨⟨⟨by omega, hf⟩, h1.1⟩, h1.2⟩]
      have ih := occ_all x c limit B (i + 1) (st.fst.push i, i + 1) hd' (by omega) (Nat.le_refl _) (by rw [Array.size_push]; omega)
      have e : (⟨#[c]⟩ : PySem.Str).length = 1 := rfl
      rw [e]
      refine Eq.trans ih ?_
      rw [occL, if_pos hc]
      simp
    · rw [if_neg (fun h => hc (Option.some.inj (hs.mp ⟨h.1.2, h.2⟩)))]
      have ih := occ_all x c limit B (i + 1) (st.fst, st.snd) hd' (by omega) (Nat.le_succ_of_le hf) (by show st.fst.size + B.length + 1 ≤ limit; omega)
      refine Eq.trans ih ?_
      rw [occL, if_neg hc]
theorem occ_list (x : PySem.Str) (c : Nat) : occurrences x ⟨#[c]⟩ 0 x.length (x.length + 1) = occL c x.cps.toList 0 := by
  rw [occ_eq]
  have h := occ_all x c (x.length + 1) x.cps.toList 0 (#[], 0) rfl (by simp [Str.length]) (Nat.le_refl _) (by simp [Str.length])
  have e : x.cps.toList.length + 1 = x.length + 1 - 0 := by simp [Str.length]
  rw [e] at h
  rw [h]
  simp
/-- the first sign of its kind from a place on -/
theorem find3_list {A B T : List Nat} {c : Nat} (h : c ∉ B) {x : PySem.Str} (hx : x.cps.toList = A ++ (B ++ c :: T)) {i : Int} (hi : i = (A.length : Int)) : Txt.find3 x ⟨#[c]⟩ i = ((A.length + B.length : Nat) : Int) := by
  subst hi
  have hlen : x.length = A.length + (B.length + (T.length + 1)) := by
    have := congrArg List.length hx
    simpa [Str.length] using this
  have hf : fromIndex x.length (A.length : Int) = A.length := by
    unfold fromIndex
    rw [if_neg (by omega)]
    omega
  have hat : x.cps.toList[A.length + B.length]? = some c := by
    rw [hx, List.getElem?_append_right (by omega), List.getElem?_append_right (by omega)]
    simp
  have hno : ∀ v, A.length ≤ v → v < A.length + B.length → x.cps.toList[v]? ≠ some c := fun v h1 h2 e => by
    rw [hx, List.getElem?_append_right h1, List.getElem?_append_left (by omega)] at e
    exact h (List.mem_of_getElem? e)
  rcases find3_spec x c (A.length : Int) with ⟨_, hn⟩ | ⟨k, e, h1, h2, h3, h4⟩
  · exact absurd (getD_of_getElem? hat) (hn _ (by rw [hf]; omega) (by omega))
  · rw [hf] at h1 h4
    rw [e]
    have : k = A.length + B.length := by
      rcases Nat.lt_trichotomy k (A.length + B.length) with h5 | h5 | h5
      · exact absurd (getElem?_of_getD h2 h3) (hno k h1 h5)
      · exact h5
      · exact absurd (getD_of_getElem? hat) (h4 _ (by omega) h5)
    rw [this]
theorem find_list {B T : List Nat} {c : Nat} (h : c ∉ B) {x : PySem.Str} (hx : x.cps.toList = B ++ c :: T) : Txt.find x ⟨#[c]⟩ = (B.length : Int) := by
  have h1 := find3_list (A := []) h hx (i := 0) rfl
  have e : Txt.find3 x ⟨#[c]⟩ 0 = Txt.find x ⟨#[c]⟩ := by
    unfold Txt.find3 Txt.find
    rfl
  rw [← e, h1]
  simp
theorem item_list {A T : List Nat} {c : Nat} {x : PySem.Str} (hx : x.cps.toList = A ++ c :: T) {i : Int} (hi : i = (A.length : Int)) : Txt.item x i = ⟨#[c]⟩ ∧ i < x.length := by
  subst hi
  have hlen : x.length = A.length + (T.length + 1) := by
    have := congrArg List.length hx
    simpa [Str.length] using this
  refine ⟨?_, by omega⟩
  have h : x.cps[((A.length : Nat) : Int).toNat]? = some c := by
    rw [← Array.getElem?_toList, hx, Int.toNat_natCast, List.getElem?_append_right (Nat.le_refl _)]
    simp
  unfold Txt.item Txt.charAt
  rw [at_nonneg (by omega) h]
  rfl
theorem strSub_is {x : PySem.Str} {i j : Nat} {A B C : List Nat} (hx : x.cps.toList = A ++ (B ++ C)) (hi : A.length = i) (hj : i + B.length = j) : strSub x i j = ⟨B.toArray⟩ := by
  apply Str.ext'
  apply Array.toList_inj.mp
  rw [strSub_toList, hx, ← hi, List.drop_left, ← hj, ← hi, Nat.add_sub_cancel_left, List.take_left]
theorem slice_list {A B C : List Nat} {x : PySem.Str} (hx : x.cps.toList = A ++ (B ++ C)) {i j : Int} (hi : i = (A.length : Int)) (hj : j = ((A.length + B.length : Nat) : Int)) : Txt.slice x (some i) (some j) = ⟨B.toArray⟩ := by
  subst hi hj
  have hlen : x.cps.toList.length = A.length + (B.length + C.length) := by
    have := congrArg List.length hx
    simpa [Str.length] using this
  refine (sliceText_plain ⟨by omega, by omega, by rw [hlen]; omega⟩).trans ?_
  rw [hx, Int.toNat_natCast, List.drop_left, show (((A.length + B.length : Nat) : Int) - (A.length : Int)).toNat = B.length by omega, List.take_left]
theorem slice_to {B C : List Nat} {x : PySem.Str} (hx : x.cps.toList = B ++ C) {j : Int} (hj : j = (B.length : Int)) : Txt.slice x none (some j) = ⟨B.toArray⟩ := by
  subst hj
  have hlen : x.cps.toList.length = B.length + C.length := by
    have := congrArg List.length hx
    simpa using this
  refine (sliceText_to ⟨by omega, by rw [hlen]; omega⟩).trans ?_
  rw [hx, List.drop_zero, show ((B.length : Int) - 0).toNat = B.length by omega, List.take_left]
theorem split_five {c : Nat} {ds : List Nat} {x : PySem.Str} (hx : x.cps.toList = c :: c :: c :: (ds ++ [c])) (hc : c ∉ ds) (hk : c < 256) (hds : ∀ d ∈ ds, d < 256) :
    Txt.split x ⟨#[c]⟩ = [⟨#[]⟩, ⟨#[]⟩, ⟨#[]⟩, ⟨ds.toArray⟩, ⟨#[]⟩] := by
  have hlen : x.length = ds.length + 4 := by
    have := congrArg List.length hx
    simpa [Str.length] using this
  have hocc : occurrences x ⟨#[c]⟩ 0 x.length (x.length + 1) = [0, 1, 2, 3 + ds.length] := by
    rw [occ_list, hx, occL, if_pos rfl, occL, if_pos rfl, occL, if_pos rfl, occL_app, occL_none _ hc, occL, if_pos rfl, occL]
    rfl
  have hk1 : Builtin.Str.strKind x = 1 := by
    unfold Builtin.Str.strKind
    rw [if_pos]
    rw [← Array.all_toList, hx]
    simp only [List.all_cons, List.all_append, List.all_nil, Bool.and_eq_true, decide_eq_true_eq, List.all_eq_true, Bool.and_true]
    exact ⟨hk, hk, hk, hds, hk⟩
  have hk2 : Builtin.Str.strKind ⟨#[c]⟩ = 1 := by
    unfold Builtin.Str.strKind
    rw [if_pos]
    simpa using hk
  have e1 : (⟨#[c]⟩ : PySem.Str).length = 1 := rfl
  unfold Txt.split
  rw [hk1, hk2, hocc, e1, if_neg (by simp; omega), if_neg (by simp)]
  show [strSub x 0 0, strSub x 1 1, strSub x 2 2, strSub x 3 (3 + ds.length), strSub x (3 + ds.length + 1) x.length] = _
  have s0 : strSub x 0 0 = ⟨#[]⟩ := strSub_is (A := []) (B := []) (C := c :: c :: c :: (ds ++ [c])) hx rfl rfl
  have s1 : strSub x 1 1 = ⟨#[]⟩ := strSub_is (A := [c]) (B := []) (C := c :: c :: (ds ++ [c])) hx rfl rfl
  have s2 : strSub x 2 2 = ⟨#[]⟩ := strSub_is (A := [c, c]) (B := []) (C := c :: (ds ++ [c])) hx rfl rfl
  have s3 : strSub x 3 (3 + ds.length) = ⟨ds.toArray⟩ := strSub_is (A := [c, c, c]) (B := ds) (C := [c]) hx rfl rfl
  have s4 : strSub x (3 + ds.length + 1) x.length = ⟨#[]⟩ := strSub_is (A := c :: c :: c :: (ds ++ [c])) (B := []) (C := []) (by rw [hx]; simp) (by simp; omega) (by simp; omega)
  rw [s0, s1, s2, s3, s4]
end Mine
end

section
open PySem PySem.W PyProof.Rows PySem.Spec PySem.Calls
set_option Elab.async false
set_option linter.unusedVariables false
namespace Mine
open PySem.StrLaws PySem.Builtin PySem.Builtin.Str
theorem cps_num {n : Int} (hn : U16 n) : ∃ ds : List Nat, (Str.ofString (toString n)).cps.toList = ds ∧ (∀ d ∈ ds, 48 ≤ d ∧ d ≤ 57) ∧ ds.length ≤ 10 := by
  have hl := KT.len_num hn.1 (Int.lt_trans hn.2 (by decide))
  obtain ⟨m, rfl⟩ := Int.eq_ofNat_of_zero_le hn.1
  refine ⟨_, rfl, fun c hc => ?_, by simpa [Str.length] using hl⟩
  rw [PySem.W.KIN.signs_num] at hc
  obtain ⟨ch, hch, e⟩ := List.mem_map.mp hc
  have r := digit_range (Nat.isDigit_of_mem_toDigits (by decide) (by decide) hch)
  rw [← e]
  exact r
theorem rep_of {R : PySem.Str} {P ds : List Nat} {c : Nat} {n : Int} (hn : U16 n) (hx : R.cps.toList = 50 :: 50 :: 57 :: (P ++ (40 :: c :: c :: c :: (ds ++ (c :: [41])))))
    (hP : 40 ∉ P) (hPl : P.length ≤ 10) (hd : ∀ d ∈ ds, 48 ≤ d ∧ d ≤ 57) (hdl : ds.length ≤ 10) (hds : (Str.ofString (toString n)).cps.toList = ds) (hc : c = 91 ∨ c = 124 ∨ c = 33 ∨ c = 93) :
    ∃ lf rt mk bd, Rep R lf rt mk bd n := by
  have hlen : R.length = P.length + ds.length + 9 := by
    have := congrArg List.length hx
    simp [Str.length] at this ⊢
    omega
  have hcd : c ∉ ds := fun h => by have := hd _ h; omega
  have h41 : 41 ∉ c :: c :: c :: (ds ++ [c]) := by
    simp only [List.mem_cons, List.mem_append, List.not_mem_nil, or_false]
    rintro (h | h | h | h | h)
    · omega
    · omega
    · omega
    · have := hd _ h; omega
    · omega
  refine ⟨((P.length + 3 : Nat) : Int), ((P.length + 4 + (ds.length + 4) : Nat) : Int), ⟨#[c]⟩, ⟨(c :: c :: c :: (ds ++ [c])).toArray⟩, ?_⟩
  refine ⟨by omega, ?_, ?_, by omega, by omega, ?_, by omega, by omega, ?_, by omega, ?_, by omega, ?_, ?_, rfl, ?_, hn.1, hn.2⟩
  · exact (slice_to (B := [50, 50, 57]) hx rfl).trans (by decide)
  · refine (find_list (B := 50 :: 50 :: 57 :: P) ?_ hx).trans (by simp; omega)
    simp only [List.mem_cons, not_or]
    exact ⟨by decide, by decide, by decide, hP⟩
  · refine (find3_list (A := 50 :: 50 :: 57 :: (P ++ [40])) (B := c :: c :: c :: (ds ++ [c])) (T := []) h41 (by rw [hx]; simp) (by simp; omega)).trans ?_
    simp; omega
  · exact (item_list (A := 50 :: 50 :: 57 :: (P ++ [40])) (T := c :: c :: (ds ++ c :: [41])) (by rw [hx]; simp) (by simp; omega)).1
  · exact (item_list (A := 50 :: 50 :: 57 :: (P ++ (40 :: c :: c :: c :: ds))) (T := [41]) (by rw [hx]; simp) (by simp; omega)).1
  · exact slice_list (A := 50 :: 50 :: 57 :: (P ++ [40])) (B := c :: c :: c :: (ds ++ [c])) (C := [41]) (by rw [hx]; simp) (by simp; omega) (by simp; omega)
  · show (c :: c :: c :: (ds ++ [c])).toArray.size ≤ 1000
    simp; omega
  · refine (split_five (ds := ds) rfl hcd (by omega) (fun d h => by have := hd _ h; omega)).trans ?_
    have e : (⟨ds.toArray⟩ : PySem.Str) = Str.ofString (toString n) := Str.ext' (by rw [← hds])
    rw [e]
    rfl
theorem has_of {R : PySem.Str} {P ds : List Nat} {c : Nat} (hx : R.cps.toList = 50 :: 50 :: 57 :: (P ++ (40 :: c :: c :: c :: (ds ++ (c :: [41]))))) (hd : ∀ d ∈ ds, 48 ≤ d ∧ d ≤ 57) : Txt.contains R (Str.ofString "[") = true ↔ c = 91 ∨ 91 ∈ P := by
  have e : Str.ofString "[" = ⟨#[91]⟩ := by decide
  have h := found_one R 91
  unfold Txt.contains
  rw [e, h, decide_eq_true_eq, hx]
  simp only [List.mem_cons, List.mem_append, List.not_mem_nil, or_false]
  constructor
  · rintro (h | h | h | h | h | h | h | h | h | h | h)
    · exact absurd h (by decide)
    · exact absurd h (by decide)
    · exact absurd h (by decide)
    · exact .inr h
    · exact absurd h (by decide)
    · exact .inl h.symm
    · exact .inl h.symm
    · exact .inl h.symm
    · have := hd _ h; omega
    · exact .inl h.symm
    · exact absurd h (by decide)
  · rintro (h | h)
    · exact .inr (.inr (.inr (.inr (.inr (.inl h.symm)))))
    · exact .inr (.inr (.inr (.inl h)))
end Mine
end

section
local macro_rules | `(tactic| walk_at $s:str) => `(tactic| k_extra $s)
local macro_rules | `(tactic| k_room) => `(tactic| ktr_room)
local macro_rules | `(tactic| k_units) => `(tactic| ktr_units)

section
open PySem PySem.W PyProof.Rows PySem.Spec PySem.Calls
set_option Elab.async false
set_option maxRecDepth 100000
set_option linter.unusedVariables false
namespace Mine
theorem fill_now (w : World) (h : Heap) : (Mine.hd.heap_39 w.params).In h ∧ PySem.Challenge.rw_xo0002_01 = PySem.Challenge.rw_xo0002_01 → (Mine.hd.heap_39 w.params).In h := by
  k_fill
  exact fun x => x.1
def dblZ (p : Int) : Int := p * 2 ^ (Int.toNat 1)
def foldZ (p : Int) : Int := if Builtin.bitAnd (p * 2 ^ (Int.toNat 1)) 65536 = 65536 then Builtin.bitXor (p * 2 ^ (Int.toNat 1)) 131071 else p * 2 ^ (Int.toNat 1)


section
variable {w : World} {mean : ExcName → Option Value} {mg mb : Str → Option Value} {dp un : Nat} {gd : Option (List Code)} {cn : Str} {cs : Scope} {aa : Addr} {ccd : Value} {cl : List (Str × Addr)} {outer : List Env} {A₀ : Around} {base h₀ : Heap} {L : Addr} {m : Str → Option Value} {s : Shared} {Q E : Value → Shared → Prop} {news : List (Addr × Obj)}
set_option maxHeartbeats 4000000 in
theorem u_ixor {a b : Int} {t u : Tok} (B : Below A₀ base outer h₀) (F : Fr h₀ L s.heap m) (X : (Mine.hd.heap_39 w.params).In h₀) (N : News h₀ L s.heap news) (T : Top Mine.hd.view_39 (looseW Mine.hd.view_39 []) mean mg mb h₀) (hk : cs.kind = .function) (hd : dp + 1 < recursionLimit) (hu : un + 8 < cLine)
    (hret : ∀ (t : Tok) (h' : Heap) (tk' : Nat), Fr h₀ L h' m → News h₀ L h' news → Q (.int (Builtin.bitXor a b) t) { s with heap := h', toks := tk' }) :
    wpAny (model PySem.Challenge.rw_xo0002_01.row.prog w) (ktrTop dp un gd cn cs L aa ccd cl outer) (call (.ref 86) [.int a t, .int b u]) Q E s := by
  k_with_none
  w_top off
  refine wpAny_call ?_
  k_dflt cell_enter
  k_steps
  cb_end hret
set_option maxHeartbeats 4000000 in
theorem u_iand {a b : Int} {t u : Tok} (B : Below A₀ base outer h₀) (F : Fr h₀ L s.heap m) (X : (Mine.hd.heap_39 w.params).In h₀) (N : News h₀ L s.heap news) (T : Top Mine.hd.view_39 (looseW Mine.hd.view_39 []) mean mg mb h₀) (hk : cs.kind = .function) (hd : dp + 1 < recursionLimit) (hu : un + 8 < cLine)
    (hret : ∀ (t : Tok) (h' : Heap) (tk' : Nat), Fr h₀ L h' m → News h₀ L h' news → Q (.int (Builtin.bitAnd a b) t) { s with heap := h', toks := tk' }) :
    wpAny (model PySem.Challenge.rw_xo0002_01.row.prog w) (ktrTop dp un gd cn cs L aa ccd cl outer) (call (.ref 72) [.int a t, .int b u]) Q E s := by
  k_with_none
  w_top off
  refine wpAny_call ?_
  k_dflt cell_enter
  k_steps
  cb_end hret
set_option maxHeartbeats 4000000 in
theorem u_ilshift {a : Int} {t u : Tok} (B : Below A₀ base outer h₀) (F : Fr h₀ L s.heap m) (X : (Mine.hd.heap_39 w.params).In h₀) (N : News h₀ L s.heap news) (T : Top Mine.hd.view_39 (looseW Mine.hd.view_39 []) mean mg mb h₀) (hk : cs.kind = .function) (hd : dp + 1 < recursionLimit) (hu : un + 8 < cLine) (ha : 0 ≤ a ∧ a < 65536)
    (hret : ∀ (t : Tok) (h' : Heap) (tk' : Nat), Fr h₀ L h' m → News h₀ L h' news → Q (.int (dblZ a) t) { s with heap := h', toks := tk' }) :
    wpAny (model PySem.Challenge.rw_xo0002_01.row.prog w) (ktrTop dp un gd cn cs L aa ccd cl outer) (call (.ref 79) [.int a t, .int 1 u]) Q E s := by
  k_with_none
  w_top off
  refine wpAny_call ?_
  k_dflt cell_enter
  k_steps
  cb_end hret
set_option maxHeartbeats 4000000 in
theorem u_fold {a : Int} {t : Tok} (B : Below A₀ base outer h₀) (F : Fr h₀ L s.heap m) (X : (Mine.hd.heap_39 w.params).In h₀) (N : News h₀ L s.heap news) (T : Top Mine.hd.view_39 (looseW Mine.hd.view_39 []) mean mg mb h₀) (hk : cs.kind = .function) (hd : dp + 2 < recursionLimit) (hu : un + 16 < cLine) (ha : 0 ≤ a ∧ a < 65536)
    (hret : ∀ (t : Tok) (h' : Heap) (tk' : Nat), Fr h₀ L h' m → News h₀ L h' news → Q (.int (foldZ a) t) { s with heap := h', toks := tk' }) :
    wpAny (model PySem.Challenge.rw_xo0002_01.row.prog w) (ktrTop dp un gd cn cs L aa ccd cl outer) (call (.ref 107) [.int a t]) Q E s := by
  k_with_none
  w_top off
  refine wpAny_call ?_
  k_dflt cell_enter
  k_steps
  all_goals (refine (cb_retI (Q := Q) hret ?_ ?_ ?_))
  all_goals first | k_asm | (refine' cb_drop ?cbN ?cbS; (case cbN => assumption); (case cbS => kcj_all)) | (show _ = foldZ _; unfold foldZ; simp_all)
end
end Mine
end

section
open PySem PySem.W PyProof.Rows
set_option Elab.async false
namespace Mine
def fN (n : Nat) : Nat := if n < 32768 then 2 * n else 131071 - 2 * n
theorem xor_ones17 {n : Nat} (h : n < 131072) : n ^^^ 131071 = 131071 - n := by
  have e : ((BitVec.ofNat 17 n) ^^^ BitVec.allOnes 17).toNat = (~~~ (BitVec.ofNat 17 n)).toNat := by rw [BitVec.xor_allOnes]
  rw [BitVec.toNat_xor, BitVec.toNat_not, BitVec.toNat_allOnes, BitVec.toNat_ofNat, Nat.mod_eq_of_lt (by omega)] at e
  exact e
theorem and_16 {n : Nat} (h : n < 131072) : n &&& 65536 = if n < 65536 then 0 else 65536 := by
  apply Nat.eq_of_testBit_eq
  intro i
  have e : (65536 : Nat) = 2 ^ 16 := rfl
  rw [Nat.testBit_and, e, Nat.testBit_two_pow]
  by_cases hi : 16 = i
  · subst hi
    by_cases hn : n < 2 ^ 16
    · rw [if_pos hn, Nat.testBit_lt_two_pow hn]; rfl
    · rw [if_neg hn, Nat.testBit_eq_decide_div_mod_eq, decide_eq_true (by omega)]; rfl
  · rw [decide_eq_false hi, Bool.and_false]
    split
    · rw [Nat.zero_testBit]
    · rw [Nat.testBit_two_pow, decide_eq_false hi]
theorem foldZ_nat {n : Nat} (h : n < 65536) : foldZ (n : Int) = (fN n : Nat) := by
  have e : (n : Int) * 2 ^ (Int.toNat 1) = ((2 * n : Nat) : Int) := by
    show (n : Int) * 2 = _
    omega
  have e2 : (65536 : Int) = ((65536 : Nat) : Int) := rfl
  have e3 : (131071 : Int) = ((131071 : Nat) : Int) := rfl
  unfold foldZ fN
  rw [e, e2, e3, bitAndN, bitXorN, and_16 (by omega)]
  by_cases hn : n < 32768
  · rw [if_pos hn, if_pos (show 2 * n < 65536 by omega)]
    rfl
  · rw [if_neg hn, if_neg (show ¬ 2 * n < 65536 by omega), xor_ones17 (by omega)]
    rfl
theorem fN_lt {n : Nat} (h : n < 65536) : fN n < 65536 := by unfold fN; split <;> omega
theorem u16_fold' {a : Int} (ha : U16 a) : U16 (foldZ a) := by
  obtain ⟨x, rfl, hx⟩ := ha.nat
  rw [foldZ_nat hx]
  exact u16_of (fN_lt hx)
def fb (x : BitVec 16) : BitVec 16 := (x <<< 1) ^^^ (if x.msb then BitVec.allOnes 16 else 0#16)
theorem fb_toNat (x : BitVec 16) : (fb x).toNat = fN x.toNat := by
  have hx := x.isLt
  have hm : x.msb = decide (32768 ≤ x.toNat) := BitVec.msb_eq_decide x
  unfold fb fN
  rw [hm]
  by_cases h : x.toNat < 32768
  · rw [if_pos h, decide_eq_false (by omega)]
    simp only [Bool.false_eq_true, if_false, BitVec.xor_zero, BitVec.toNat_shiftLeft]
    rw [Nat.shiftLeft_eq]
    omega
  · rw [if_neg h, decide_eq_true (by omega)]
    simp only [if_true, BitVec.xor_allOnes, BitVec.toNat_not, BitVec.toNat_shiftLeft]
    rw [Nat.shiftLeft_eq]
    omega
theorem fb_xor (x y : BitVec 16) : fb (x ^^^ y) = fb x ^^^ fb y := by
  unfold fb
  rw [BitVec.msb_xor, BitVec.shiftLeft_xor_distrib]
  generalize x <<< 1 = a
  generalize y <<< 1 = b
  have h3 : ∀ c : BitVec 16, (a ^^^ c) ^^^ (b ^^^ c) = a ^^^ b := fun c => by
    rw [BitVec.xor_assoc, ← BitVec.xor_assoc c, BitVec.xor_comm c b, BitVec.xor_assoc b, BitVec.xor_self, BitVec.xor_zero]
  cases x.msb <;> cases y.msb
  · simp
  · simp [BitVec.xor_assoc]
  · simp only [Bool.xor_false, if_true, Bool.false_eq_true, if_false, BitVec.xor_zero]
    rw [BitVec.xor_assoc, BitVec.xor_comm b, ← BitVec.xor_assoc]
  · simp only [Bool.xor_self, if_true, Bool.false_eq_true, if_false, BitVec.xor_zero]
    rw [h3]
def bI (x : BitVec 16) : Int := (x.toNat : Int)
theorem bI_of {a : Int} (h : U16 a) : ∃ x, a = bI x := by
  obtain ⟨n, rfl, hn⟩ := h.nat
  exact ⟨BitVec.ofNat 16 n, by unfold bI; rw [BitVec.toNat_ofNat, Nat.mod_eq_of_lt hn]⟩
theorem u16_bI (x : BitVec 16) : U16 (bI x) := u16_of x.isLt
theorem bI_zero : (0 : Int) = bI 0#16 := rfl
theorem bI_xor (x y : BitVec 16) : Builtin.bitXor (bI x) (bI y) = bI (x ^^^ y) := by
  unfold bI
  rw [bitXorN, BitVec.toNat_xor]
theorem bI_fold (x : BitVec 16) : foldZ (bI x) = bI (fb x) := by
  unfold bI
  rw [foldZ_nat x.isLt, fb_toNat]
theorem bI_inj {x y : BitVec 16} (h : bI x = bI y) : x = y := BitVec.eq_of_toNat_eq (by unfold bI at h; omega)
end Mine
end

section
open PySem PySem.W PyProof.Rows PySem.Spec PySem.Calls
set_option Elab.async false
set_option maxRecDepth 100000
set_option linter.unusedVariables false
namespace Mine
def chain5 (x y1 y2 y3 y4 : PySem.Str) (v0 v1 v2 v3 v4 : Option Value) (m : PySem.Str → Option Value) (z : PySem.Str) : Option Value :=
  if z = x then v0 else if z = y1 then v1 else if z = y2 then v2 else if z = y3 then v3 else if z = y4 then v4 else m z
theorem chain5_of {x y1 y2 y3 y4 : PySem.Str} {fm m : PySem.Str → Option Value} (hx : ∀ z, z ≠ x → z ≠ y1 → z ≠ y2 → z ≠ y3 → z ≠ y4 → fm z = m z) :
    ∃ v0 v1 v2 v3 v4, ∀ z, chain5 x y1 y2 y3 y4 v0 v1 v2 v3 v4 m z = fm z := by
  refine ⟨fm x, fm y1, fm y2, fm y3, fm y4, fun z => ?_⟩
  unfold chain5
  by_cases h0 : z = x
  · rw [if_pos h0, h0]
  rw [if_neg h0]
  by_cases h1 : z = y1
  · rw [if_pos h1, h1]
  rw [if_neg h1]
  by_cases h2 : z = y2
  · rw [if_pos h2, h2]
  rw [if_neg h2]
  by_cases h3 : z = y3
  · rw [if_pos h3, h3]
  rw [if_neg h3]
  by_cases h4 : z = y4
  · rw [if_pos h4, h4]
  rw [if_neg h4, hx z h0 h1 h2 h3 h4]
def LsEnd5 (h₀ : Heap) (L : Addr) (s : Shared) (x y1 y2 y3 y4 : PySem.Str) (m₀ : PySem.Str → Option Value) (D : Addr) (zs : List Int) (pre news : List (Addr × Obj)) (fl : Flow) (s₂ : Shared) : Prop :=
  fl = .next ∧ ∃ h' tk' v0 v1 v2 v3 v4 ys' c', s₂ = { s with heap := h', toks := tk' } ∧ IntsAre (Array.toList ys') zs ∧ Fr h₀ L h' (chain5 x y1 y2 y3 y4 v0 v1 v2 v3 v4 m₀) ∧ News h₀ L h' (pre ++ (D, listOf ys' c') :: news)
theorem LsEnd5.intro {h₀ h' : Heap} {L : Addr} {s : Shared} {x y1 y2 y3 y4 : PySem.Str} {fm m₀ : PySem.Str → Option Value} {D : Addr} {zs : List Int} {pre news : List (Addr × Obj)} {tk' c' : Nat} {ys' : Array Value} (hy : IntsAre ys'.toList zs) (F : Fr h₀ L h' fm)
    (hx : ∀ z, z ≠ x → z ≠ y1 → z ≠ y2 → z ≠ y3 → z ≠ y4 → fm z = m₀ z) (N : News h₀ L h' (pre ++ (D, listOf ys' c') :: news)) :
    LsEnd5 h₀ L s x y1 y2 y3 y4 m₀ D zs pre news .next { s with heap := h', toks := tk' } := by
  obtain ⟨v0, v1, v2, v3, v4, e⟩ := chain5_of hx
  exact ⟨rfl, h', tk', v0, v1, v2, v3, v4, ys', c', rfl, hy, fr_same F e, N⟩
section
variable {prog : Program} {w : World} {A : Around} {E : Value → Shared → Prop} {s : Shared} {h₀ : Heap} {env : Env} {x y1 y2 y3 y4 : PySem.Str} {body : List Stmt} {Q : Flow → Shared → Prop}
theorem list_loop5 {r D : Addr} {a₀ b₀ : Int} {t₀ u₀ v₀ : Tok} {n c₀ : Nat} {ys₀ : Array Value} {m₀ : PySem.Str → Option Value} {news : List (Addr × Obj)} (f : Nat → List Int)
    (hh : A.handled = none) (hr : IsRange s.heap r a₀ b₀ 1 t₀ u₀ v₀) (hsmall : Builtin.Range.small a₀ b₀ 1 = true) (hn : Builtin.Range.rangeSize a₀ b₀ 1 = (n : Int)) (F : Fr h₀ env.locals s.heap m₀) (N : News h₀ env.locals s.heap ((D, listOf ys₀ c₀) :: news))
    (hy : IntsAre ys₀.toList (f 0))
    (step : ∀ I (i : Nat) (ys : Array Value) c tx v1 v2 v3 v4 h tk, (∀ p ∈ (D, listOf ys₀ c₀) :: news, p.1 < I) → i < n → IntsAre ys.toList (f i) → Fr h₀ env.locals h (fun z => if z = x then some (.int (a₀ + (i : Int)) tx) else if z = y1 then v1 else if z = y2 then v2 else if z = y3 then v3 else if z = y4 then v4 else m₀ z) →
      News h₀ env.locals h ((I, itR (a₀ + ((i + 1 : Nat) : Int)) ((n : Int) - ((i + 1 : Nat) : Int))) :: (D, listOf ys c) :: news) →
      wpAny (model prog w) A (execs body env) (LsEnd5 h₀ env.locals s x y1 y2 y3 y4 m₀ D (f (i + 1)) [(I, itR (a₀ + ((i + 1 : Nat) : Int)) ((n : Int) - ((i + 1 : Nat) : Int)))] news) E { s with heap := h, toks := tk })
    (fin : ∀ h tk v0 v1 v2 v3 v4 ys c, IntsAre (Array.toList ys) (f n) → Fr h₀ env.locals h (chain5 x y1 y2 y3 y4 v0 v1 v2 v3 v4 m₀) → News h₀ env.locals h ((D, listOf ys c) :: news) → Q .next { s with heap := h, toks := tk }) :
    wpAny (model prog w) A (pyIter (.ref r)) (fun it s₂ => LoopAtV prog w A h₀ env x body Q E it s₂) E s := by
  refine iter_rangeUnr hh hr hsmall hn F N fun I hI => ?_
  refine range_ind (fun k m nw => ∃ ys c v0 v1 v2 v3 v4, nw = (D, listOf ys c) :: news ∧ IntsAre ys.toList (f k) ∧ ∀ z, chain5 x y1 y2 y3 y4 v0 v1 v2 v3 v4 m₀ z = m z) ?_ ?_ n 0 m₀ _ (Nat.zero_add n) ?_
  · rintro i m nw t h tk hi ⟨ys, c, v0, v1, v2, v3, v4, rfl, hys, hm⟩ F₁ N₁
    refine wpAny_mono (step I i ys c t v1 v2 v3 v4 h tk hI hi hys (fr_same F₁ fun z => ?_) N₁) (fun fl s₂ q => ?_) fun _ _ q => q
    · by_cases h1 : z = x
      · rw [if_pos h1, if_pos h1]
      · rw [if_neg h1, if_neg h1, ← hm z, chain5, if_neg h1]
    · obtain ⟨rfl, h', tk', v0', v1', v2', v3', v4', ys', c', rfl, hys', F₂, N₂⟩ := q
      refine ⟨rfl, h', tk', _, (D, listOf ys' c') :: news, rfl, F₂, N₂, fun p hp => ?_, ys', c', v0', v1', v2', v3', v4', rfl, hys', fun z => rfl⟩
      rcases List.mem_cons.mp hp with rfl | hp
      · exact Nat.ne_of_lt (hI (D, listOf ys₀ c₀) (.head _))
      · exact Nat.ne_of_lt (hI p (.tail _ hp))
  · rintro m nw ⟨ys, c, v0, v1, v2, v3, v4, rfl, hys, hm⟩ h tk F₁ N₁
    exact fin h tk v0 v1 v2 v3 v4 ys c hys (fr_same F₁ hm) N₁
  · obtain ⟨v0, v1, v2, v3, v4, e⟩ := chain5_of (x := x) (y1 := y1) (y2 := y2) (y3 := y3) (y4 := y4) (fm := m₀) (m := m₀) (fun _ _ _ _ _ _ => rfl)
    exact ⟨ys₀, c₀, v0, v1, v2, v3, v4, rfl, hy, e⟩
end
theorem item_ints_at {prog : Program} {w : World} {A : Around} {E : Value → Shared → Prop} {s : Shared} {g : Heap} {L' l : Addr} {value slice : PySem.Expr} {vs : Array Value} {n j : Nat} {k : Int} {u : Tok} {zs : List Int} {led : List (Addr × Obj)} {Q : Value → Shared → Prop}
    (N : News g L' s.heap led) (hm : (l, listOf vs n) ∈ led) (hi : IntsAre vs.toList zs) (h0 : 0 ≤ k) (hhi : k < 2 ^ 63) (h1 : k < zs.length) (hj : k.toNat = j) (h : ∀ t, Q (.int (zs.getD j 0) t) s)
    (hs : subscripted slice false (.ref l) (.int k u) = operate [.ref l, .int k u] (getItem (.ref l) (.int k u)) := by with_unfolding_all rfl) :
    wpAny (model prog w) A (subscriptTail value slice (.ref l) (.int k u)) Q E s := item_ints_led N hm hi h0 hhi h1 (fun t => by rw [hj]; exact h t) hs
theorem ints_push {ys : Array Value} {zs : List Int} {a : Int} (h : IntsAre ys.toList zs) (t : Tok) : IntsAre (ys.push (.int a t)).toList (zs ++ [a]) := by
  rw [Array.toList_push]
  revert h
  generalize ys.toList = l
  intro h
  induction h with
  | nil => exact .cons _ _ .nil
  | cons a b _ ih => exact .cons a b ih
theorem six_ints {ys : Array Value} {z0 z1 z2 z3 z4 z5 : Int} (h : IntsAre ys.toList [z0, z1, z2, z3, z4, z5]) : ∃ t0 t1 t2 t3 t4 t5, ys = #[.int z0 t0, .int z1 t1, .int z2 t2, .int z3 t3, .int z4 t4, .int z5 t5] := by
  obtain ⟨l⟩ := ys
  cases h with
  | cons _ t0 h => cases h with
    | cons _ t1 h => cases h with
      | cons _ t2 h => cases h with
        | cons _ t3 h => cases h with
          | cons _ t4 h => cases h with
            | cons _ t5 h => cases h with
              | nil => exact ⟨t0, t1, t2, t3, t4, t5, rfl⟩
end Mine
namespace Mine
theorem news_sub2 {g h : Heap} {L' : Addr} {led : List (Addr × Obj)} {p1 p2 : Addr × Obj} (m1 : p1 ∈ led) (m2 : p2 ∈ led) (N : News g L' h led) : News g L' h [p1, p2] := fun q hq => by
  rcases List.mem_cons.mp hq with rfl | hq
  · exact N _ m1
  rcases List.mem_cons.mp hq with rfl | hq
  · exact N _ m2
  cases hq
end Mine
end

section
open PySem PySem.W PyProof.Rows PySem.Spec PySem.Calls
set_option Elab.async false
set_option maxRecDepth 100000
set_option linter.unusedVariables false
namespace Mine
theorem fill_now2 (w : World) (h : Heap) : (Mine.hd.heap_39 w.params).In h ∧ PySem.Challenge.rw_xo0002_01 = PySem.Challenge.rw_xo0002_01 → (Mine.hd.heap_39 w.params).In h := by
  k_fill
  exact fun x => x.1
def rowZ (older old new : Int) : Int := Builtin.bitXor (Builtin.bitXor older old) (if Builtin.bitXor old new < 32768 then 2 * Builtin.bitXor old new else 131071 - 2 * Builtin.bitXor old new)
def rowsZ (zs : List Int) : Nat → List Int
  | 0 => []
  | k + 1 => rowsZ zs k ++ [rowZ (zs.getD k 0) (zs.getD (k + 1) 0) (zs.getD (k + 2) 0)]
theorem rows_push {ys : Array Value} {zs : List Int} {k j0 j1 j2 : Nat} {t : Tok} (e0 : j0 = k) (e1 : j1 = k + 1) (e2 : j2 = k + 2) (h : IntsAre ys.toList (rowsZ zs k)) :
    IntsAre (ys.push (.int (Builtin.bitXor (Builtin.bitXor (zs.getD j0 0) (zs.getD j1 0)) (if Builtin.bitXor (zs.getD j1 0) (zs.getD j2 0) < 32768 then 2 * Builtin.bitXor (zs.getD j1 0) (zs.getD j2 0) else 131071 - 2 * Builtin.bitXor (zs.getD j1 0) (zs.getD j2 0))) t)).toList (rowsZ zs (k + 1)) := by
  subst e0 e1 e2
  exact ints_push h t
theorem rowsZ_len (zs : List Int) : ∀ k, (rowsZ zs k).length = k
  | 0 => rfl
  | k + 1 => by rw [rowsZ, List.length_append, rowsZ_len zs k]; rfl
section
variable {w : World} {mean : ExcName → Option Value} {mg mb : Str → Option Value} {dp un : Nat} {gd : Option (List Code)} {cn : Str} {cs : Scope} {aa : Addr} {ccd : Value} {cl : List (Str × Addr)} {outer : List Env} {A₀ : Around} {base h₀ : Heap} {L : Addr} {m : Str → Option Value} {s : Shared} {Q E : Value → Shared → Prop} {news : List (Addr × Obj)}
set_option maxHeartbeats 4000000 in
theorem u_row {a b c d : Int} {l : Addr} {vs : List Value} (B : Below A₀ base outer h₀) (F : Fr h₀ L s.heap m) (X : (Mine.hd.heap_39 w.params).In h₀) (N : News h₀ L s.heap news) (T : Top Mine.hd.view_39 (looseW Mine.hd.view_39 []) mean mg mb h₀) (hk : cs.kind = .function) (hd : dp + 2 < recursionLimit) (hu : un + 16 < cLine)
    (hl : s.heap.IsList l vs.toArray) (hi : IntsAre vs [a, b, c, d])
    (hret : ∀ (D : Addr) (t0 t1 t2 t3 t4 t5 : Tok) (n : Nat) (h' : Heap) (tk' : Nat), Fr h₀ L h' m → News h₀ L h' ((D, listOf #[.int (rowZ 0 0 a) t0, .int (rowZ 0 a b) t1, .int (rowZ a b c) t2, .int (rowZ b c d) t3, .int (rowZ c d 0) t4, .int (rowZ d 0 0) t5] n) :: news) → (∀ p ∈ news, p.1 < D) → Q (.ref D) { s with heap := h', toks := tk' }) :
    wpAny (model PySem.Challenge.rw_xo0002_01.row.prog w) (ktrTop dp un gd cn cs L aa ccd cl outer) (call (.ref 93) [.ref l]) Q E s := by
  k_with_none
  w_top off
  refine wpAny_call ?_
  k_dflt (refine' code_ro ?k1 ?k2 ?k3 ?k5 ?kA ?kF ?kK ?k6 ?k7 ?k8 ?k9 ?kB ?_ ?c2 ?c3 ?c4 ?c5; (case kA => exact rfl); (case kF => exact rfl); (case kK => assumption); (case k1 => k_asm); (case k2 => k_asm); (case k3 => k_asm); (case k5 => k_asm); (case k6 => k_is); (case k7 => k_is); (case k8 => ktr_room); (case k9 => exact BindsTo.of_eq rfl); (case c5 => decide); (case kB => exact locs rfl); (case c2 => exact rfl); (case c3 => exact rfl); (case c4 => exact rfl); k_whole; intro g' L' h' gE' F' N' B' X' T'; (try dsimp only); (try k_fold))
  k_with_none
  k_with "call ref" => (k_here; k_dflt (first | (refine' u_ixor ?k1 ?k2 ?k3 ?k4 ?k5 ?kK ?kd ?ku ?_; (case k1 => k_asm); (case k2 => k_asm); (case k3 => k_asm); (case k4 => k_asm); (case k5 => k_asm); (case kK => first | exact rfl | assumption); (case kd => ktr_room); (case ku => ktr_units); intro t9k h9k tk9k F9k N9k; (try dsimp only); (try k_sweep); (try k_fold)) | (refine' u_fold ?k1 ?k2 ?k3 ?k4 ?k5 ?kK ?kd ?ku ?ka ?_; (case k1 => k_asm); (case k2 => k_asm); (case k3 => k_asm); (case k4 => k_asm); (case k5 => k_asm); (case kK => first | exact rfl | assumption); (case kd => ktr_room); (case ku => ktr_units); (case ka => k_extra "foldarg"); intro t9k h9k tk9k F9k N9k; (try dsimp only); (try k_sweep); (try k_fold))))
  k_with "eval IfExp" => (k_here; (fail_if_success (with_reducible show wpAny _ _ _ (fun vk s₂k => KCj _ _ _ _ _ _ _ vk s₂k) _ _)); (rename Fr _ _ _ _ => cFqk); ((rename News _ _ _ _ => cNqk)); ((refine' kcj (fun (b : Int) (t : Tok) => Value.int b t) ?_ cFqk cNqk (fun uqk hMarkqk => ?_) ?_)); rotate_left)
  k_with "newList" => (k_here; k_dflt (refine' newList_K2 ?k1 ?k2 ?_; (case k1 => k_asm); (case k2 => k_asm); k_whole); intro lqk hqk Fqk Nqk l1k l2k; (try k_lt l1k); (try k_lt2 l2k); (try k_sweep))
  k_with "newTuple" => (k_here; k_dflt (refine' newTuple_K2 ?F ?N ?_ ?z; (case F => k_asm); (case N => k_asm); (case z => kmk_size)); intro Dqk hqk Fqk Nqk l1k l2k; (try k_lt l1k); (try k_lt2 l2k); (try k_sweep))
  k_with "exec For Name Call cons nil" => (k_here; (rename Fr _ _ _ _ => lFqk); (with_unfolding_all refine' For_invVF lFqk ?k1 ?k2 ?_; (case k1 => exact rfl); (case k2 => exact rfl); k_whole))
  k_with "pyIter ref" => (k_here; (with_reducible show wpAny _ _ (pyIter (Value.ref _)) (fun itk s₂k => LoopAtV _ _ _ _ _ _ _ _ _ itk s₂k) _ _); (k_dflt (k_extra "rangeiter")))
  k_with "LsEnd5" => (k_here; (k_dflt (k_extra "lsend")))
  k_with "call builtin:list.append" => (k_here; (k_dflt (k_extra "append")))
  k_with "subscriptTail Name" => (k_here; (k_dflt (k_extra "itemrow")))
  rw [← gE'] at hl
  k_with "rangeiter" => ((rename Fr _ _ _ _ => lF'); (rename News _ _ _ _ => lN'); (rename IsRange _ _ _ _ _ _ _ _ => rgX); (have hpad := (show IntsAre _ [0, 0, a, b, c, d, 0, 0] by assumption)); ((refine' list_loop5 (y1 := Str.ofString "older") (y2 := Str.ofString "old") (y3 := Str.ofString "new") (y4 := Str.ofString "both") (news := [_]) (rowsZ [0, 0, a, b, c, d, 0, 0]) (by rfl) rgX (by exact small_one (by decide) (by decide) (by decide) (by decide)) (by exact rangeSize_nat _ _) lF' (news_sub2 (.head _) (.tail _ (.head _)) lN') .nil ?_ ?_)); (intro I9 k9 ys9 c9 tx9 v19 v29 v39 v49 h9 tk9 lt9 hk9 hys9 F9 N9); (have hl9 := hys9.length); (rw [rowsZ_len] at hl9); (try k_lt lt9); rotate_left; (intro h9 tk9 v09 v19 v29 v39 v49 ys9 c9 hys9 F9 N9); rotate_left)
  k_with "append" => ((rename Fr _ _ _ _ => aF); (rename News _ _ _ _ => aN); (refine' append_K aF aN ?aU ?_ ?az); (case aU => k_upd); (case az => (rw [← Array.length_toList, hl9, PySem.sizeLine_eq]; omega)); k_whole; intro h8 F8 N8; (try k_sweep))
  k_with "itemrow" => ((refine' item_ints_at ?k1 ?k2 (show IntsAre (Array.toList (List.toArray _)) _ from hpad) ?k3 ?k4 ?k5 ?kj ?_ ?k6); (case k1 => k_asm); (case k2 => k_mem); (case k3 => omega); (case k4 => omega); (case k5 => (show _ < (8 : Int); omega)); (case kj => (first | (show Int.toNat _ = k9; omega) | (show Int.toNat _ = k9 + 1; omega) | (show Int.toNat _ = k9 + 2; omega))); (case k6 => with_unfolding_all rfl); k_whole; intro t8)
  k_with "lsend" => ((rename News _ _ _ _ => aN); (refine' LsEnd5.intro ?hy ?eF ?ex (news_tl aN)); (case hy => exact rows_push (by omega) (by omega) (by omega) hys9); (case eF => assumption); (case ex => (intro y e0 e1 e2 e3 e4; simp only [if_neg e0, if_neg e1, if_neg e2, if_neg e3, if_neg e4])))
  repeat' (first | (k_unfold; (try dsimp only)) | (k_end; kc_close) | walk1 | (dsimp only; walk1) | (leave1; walk_say "STEP leave1"; (try dsimp only)) | fail "no step")
  rename News h₀ L _ _ => kN
  rename Fr g' L' _ _ => FF
  obtain ⟨t0, t1, t2, t3, t4, t5, rfl⟩ := six_ints hys9
  refine' hret _ _ _ _ _ _ _ _ _ _ ?eF (ro_end gE' N FF kN ?eM) (ro_lt gE' N FF ?eL)
  case eM => k_dflt k_mem
  case eF => assumption
  case eL => assumption
end
end Mine
end

section
open PySem PySem.W PyProof.Rows PySem.Spec PySem.Calls
set_option Elab.async false
set_option maxRecDepth 100000
set_option linter.unusedVariables false
namespace Mine
theorem fill_now3 (w : World) (h : Heap) : (Mine.hd.heap_39 w.params).In h ∧ PySem.Challenge.rw_xo0002_01 = PySem.Challenge.rw_xo0002_01 → (Mine.hd.heap_39 w.params).In h := by
  k_fill
  exact fun x => x.1


theorem u16_fold {a : Int} (ha : U16 a) : U16 (foldZ a) := u16_fold' ha
def PortIs (v : Value) (p : Int) : Prop := (v = .none ∧ p = 0) ∨ ∃ t, v = .int p t
theorem port_is {M : Model} {A : Around} {Q : Value → Shared → Prop} {E : Value → Shared → Prop} {s : Shared} {v : Value} {p : Int} (h : PortIs v p)
    (h1 : v = .none → p = 0 → wpAny M A (compareOp .Is .none .none) Q E s) (h2 : ∀ t, v = .int p t → wpAny M A (compareOp .Is (.int p t) .none) Q E s) : wpAny M A (compareOp .Is v .none) Q E s := by
  rcases h with ⟨rfl, e⟩ | ⟨t, rfl⟩
  · exact h1 rfl e
  · exact h2 t rfl
theorem pj {M : Model} {A : Around} {E : Value → Shared → Prop} {Q : Value → Shared → Prop} {s : Shared} {h₀ : Heap} {L : Addr} {m : Str → Option Value} {news : List (Addr × Obj)} {c : Sem Value} {k : Int} {tk : Tok} {p : Int} (ps : List Int)
    (F : Fr h₀ L s.heap m) (N : News h₀ L s.heap news) (hm : m (Str.ofString "place") = some (.int k tk)) (hp : ps[k.toNat]? = some p)
    (hc : wpAny M A c (fun v s₂ => KCj (fun (b : Int) (t : Tok) => Value.int b t) h₀ L m news s p v s₂) E s)
    (hk : ∀ (t : Tok) (h : Heap) (tk : Nat), Fr h₀ L h m → News h₀ L h news → Q (.int p t) { s with heap := h, toks := tk }) : wpAny M A c Q E s := by
  refine wpAny_mono hc (fun v s₂ hq => ?_) fun _ _ h => h
  obtain ⟨t, h, tk, hv, hs, F, N⟩ := hq
  subst hv
  subst hs
  exact hk t h tk F N
def fP (ps : List Int) : Nat → Int
  | 0 => 0
  | k + 1 => Builtin.bitXor (fP ps k) (ps.getD (5 - k) 0)
def fF (ps : List Int) : Nat → Int
  | 0 => 0
  | k + 1 => Builtin.bitXor (foldZ (fF ps k)) (ps.getD (5 - k) 0)
theorem u16_fF {ps : List Int} (h : ∀ j, U16 (ps.getD j 0)) : ∀ k, U16 (fF ps k)
  | 0 => u16_zero
  | k + 1 => u16_xor (u16_fold (u16_fF h k)) (h _)
theorem six_at {v0 v1 v2 v3 v4 v5 : Value} {kz : Nat → Int} {t0 t1 t2 t3 t4 t5 : Tok} (e0 : v0 = .int (kz 0) t0) (e1 : v1 = .int (kz 1) t1) (e2 : v2 = .int (kz 2) t2) (e3 : v3 = .int (kz 3) t3) (e4 : v4 = .int (kz 4) t4) (e5 : v5 = .int (kz 5) t5) : ∀ i, i < 6 → ∃ t, [v0, v1, v2, v3, v4, v5][i]? = some (.int (kz i) t)
  | 0, _ => ⟨_, congrArg some e0⟩
  | 1, _ => ⟨_, congrArg some e1⟩
  | 2, _ => ⟨_, congrArg some e2⟩
  | 3, _ => ⟨_, congrArg some e3⟩
  | 4, _ => ⟨_, congrArg some e4⟩
  | 5, _ => ⟨_, congrArg some e5⟩
theorem sums_m0 {l : Addr} {a b : Int} {t u : Tok} (z : PySem.Str) :
    (if z = Str.ofString "folded" then some (.int a t) else if z = Str.ofString "plain" then some (.int b u) else if z = Str.ofString "port" then none else if z = Str.ofString "place" then none else List.lookup z [(Str.ofString "ports", Value.ref l)]) =
    (if z = Str.ofString "folded" then some (.int a t) else if z = Str.ofString "plain" then some (.int b u) else List.lookup z [(Str.ofString "ports", Value.ref l)]) := by
  by_cases h1 : z = Str.ofString "port"
  · subst h1; rfl
  by_cases h2 : z = Str.ofString "place"
  · subst h2; rfl
  rw [if_neg h1, if_neg h2]
def sumF (p0 p1 p2 p3 p4 p5 : Int) : Int := Builtin.bitXor (foldZ (Builtin.bitXor (foldZ (Builtin.bitXor (foldZ (Builtin.bitXor (foldZ (Builtin.bitXor (foldZ (Builtin.bitXor (foldZ 0) p5)) p4)) p3)) p2)) p1)) p0
def sumP (p0 p1 p2 p3 p4 p5 : Int) : Int := Builtin.bitXor (Builtin.bitXor (Builtin.bitXor (Builtin.bitXor (Builtin.bitXor (Builtin.bitXor 0 p5) p4) p3) p2) p1) p0
section
variable {w : World} {mean : ExcName → Option Value} {mg mb : Str → Option Value} {dp un : Nat} {gd : Option (List Code)} {cn : Str} {cs : Scope} {aa : Addr} {ccd : Value} {cl : List (Str × Addr)} {outer : List Env} {A₀ : Around} {base h₀ : Heap} {L : Addr} {m : Str → Option Value} {s : Shared} {Q E : Value → Shared → Prop} {news : List (Addr × Obj)}
set_option maxHeartbeats 4000000 in
theorem u_sums {p0 p1 p2 p3 p4 p5 : Int} {v0 v1 v2 v3 v4 v5 : Value} {l : Addr} (B : Below A₀ base outer h₀) (F : Fr h₀ L s.heap m) (X : (Mine.hd.heap_39 w.params).In h₀) (N : News h₀ L s.heap news) (T : Top Mine.hd.view_39 (looseW Mine.hd.view_39 []) mean mg mb h₀) (hk : cs.kind = .function) (hd : dp + 3 < recursionLimit) (hu : un + 24 < cLine)
    (hl : s.heap.IsList l [v0, v1, v2, v3, v4, v5].toArray) (i0 : PortIs v0 p0) (i1 : PortIs v1 p1) (i2 : PortIs v2 p2) (i3 : PortIs v3 p3) (i4 : PortIs v4 p4) (i5 : PortIs v5 p5)
    (b0 : U16 p0) (b1 : U16 p1) (b2 : U16 p2) (b3 : U16 p3) (b4 : U16 p4) (b5 : U16 p5)
    (hret : ∀ (D : Addr) (t0 t1 : Tok) (n : Nat) (h' : Heap) (tk' : Nat), Fr h₀ L h' m → News h₀ L h' ((D, ({ cls := .type "tuple", data := .seq #[.int (sumP p0 p1 p2 p3 p4 p5) t0, .int (sumF p0 p1 p2 p3 p4 p5) t1] n } : Obj)) :: news) → (∀ p ∈ news, p.1 < D) → Q (.ref D) { s with heap := h', toks := tk' }) :
    wpAny (model PySem.Challenge.rw_xo0002_01.row.prog w) (ktrTop dp un gd cn cs L aa ccd cl outer) (call (.ref 114) [.ref l]) Q E s := by
  k_with_none
  w_top off
  refine wpAny_call ?_
  k_dflt (refine' code_ro ?k1 ?k2 ?k3 ?k5 ?kA ?kF ?kK ?k6 ?k7 ?k8 ?k9 ?kB ?_ ?c2 ?c3 ?c4 ?c5; (case kA => exact rfl); (case kF => exact rfl); (case kK => assumption); (case k1 => k_asm); (case k2 => k_asm); (case k3 => k_asm); (case k5 => k_asm); (case k6 => k_is); (case k7 => k_is); (case k8 => ktr_room); (case k9 => exact BindsTo.of_eq rfl); (case c5 => decide); (case kB => exact locs rfl); (case c2 => exact rfl); (case c3 => exact rfl); (case c4 => exact rfl); k_whole; intro g' L' h' gE' F' N' B' X' T'; (try dsimp only); (try k_fold))
  k_with_none
  k_with "call ref" => (k_here; k_dflt (first | (refine' u_ixor ?k1 ?k2 ?k3 ?k4 ?k5 ?kK ?kd ?ku ?_; (case k1 => k_asm); (case k2 => k_asm); (case k3 => k_asm); (case k4 => k_asm); (case k5 => k_asm); (case kK => first | exact rfl | assumption); (case kd => ktr_room); (case ku => ktr_units); intro t9k h9k tk9k F9k N9k; (try dsimp only); (try k_sweep); (try k_fold)) | (refine' u_fold ?k1 ?k2 ?k3 ?k4 ?k5 ?kK ?kd ?ku ?ka ?_; (case k1 => k_asm); (case k2 => k_asm); (case k3 => k_asm); (case k4 => k_asm); (case k5 => k_asm); (case kK => first | exact rfl | assumption); (case kd => ktr_room); (case ku => ktr_units); (case ka => k_extra "foldarg"); intro t9k h9k tk9k F9k N9k; (try dsimp only); (try k_sweep); (try k_fold))))
  k_with "newList" => (k_here; k_dflt (refine' newList_K2 ?k1 ?k2 ?_; (case k1 => k_asm); (case k2 => k_asm); k_whole); intro lqk hqk Fqk Nqk l1k l2k; (try k_lt l1k); (try k_lt2 l2k); (try k_sweep))
  k_with "newTuple" => (k_here; k_dflt (refine' newTuple_K2 ?F ?N ?_ ?z; (case F => k_asm); (case N => k_asm); (case z => kmk_size)); intro Dqk hqk Fqk Nqk l1k l2k; (try k_lt l1k); (try k_lt2 l2k); (try k_sweep))
  k_with "compareOp Is" => (k_here; refine port_is (by assumption) (fun hvqk hpqk => ?_) (fun tqk hvqk => ?_) <;> (try subst hvqk) <;> (try subst hpqk))
  k_with "KCj" => ((refine kcj_end ?kce (by with_unfolding_all rfl) rfl (by assumption) (by assumption) (by kcj_all)); (case kce => rfl))
  k_with "subscriptTail Name Name ref int" => (k_here; k_dflt (refine' item_base ?k1 ?k2 ?k3 ?k4 ?k5 ?_ ?k6; (case k1 => k_asm); (case k2 => k_asm); (case k3 => omega); (case k4 => omega); (case k5 => k_extra "itemval"); (case k6 => with_unfolding_all rfl); k_whole))
  k_with "eval IfExp" => (k_here; k_extra "ifexp")
  k_with "ItemsRest" => (k_here; (k_dflt (k_extra "items")))
  k_with "ItEnd" => (k_here; (k_dflt (k_extra "itend")))
  rw [← gE'] at hl
  have hat : ∀ k : Nat, k < 6 → ∃ v p, [v0, v1, v2, v3, v4, v5][((5 : Int) - (k : Int)).toNat]? = some v ∧ [p0, p1, p2, p3, p4, p5][((5 : Int) - (k : Int)).toNat]? = some p ∧ [p0, p1, p2, p3, p4, p5].getD (5 - k) 0 = p ∧ PortIs v p := fun k hk => by
    match k, hk with
    | 0, _ => exact ⟨v5, p5, rfl, rfl, rfl, i5⟩
    | 1, _ => exact ⟨v4, p4, rfl, rfl, rfl, i4⟩
    | 2, _ => exact ⟨v3, p3, rfl, rfl, rfl, i3⟩
    | 3, _ => exact ⟨v2, p2, rfl, rfl, rfl, i2⟩
    | 4, _ => exact ⟨v1, p1, rfl, rfl, rfl, i1⟩
    | 5, _ => exact ⟨v0, p0, rfl, rfl, rfl, i0⟩
  have hu : ∀ j, U16 ([p0, p1, p2, p3, p4, p5].getD j 0) := fun j => by
    match j with
    | 0 => exact b0
    | 1 => exact b1
    | 2 => exact b2
    | 3 => exact b3
    | 4 => exact b4
    | 5 => exact b5
    | j + 6 => exact u16_zero
  k_with "foldarg" => exact u16_fF hu _
  k_with "itemval" => exact hvk
  k_with "items" => ((refine' items_loop (n := 6) (M4 (fF [p0, p1, p2, p3, p4, p5]) (fP [p0, p1, p2, p3, p4, p5]) (Str.ofString "folded") (Str.ofString "plain") (Str.ofString "port") (Str.ofString "place") (fun z => List.lookup z [(Str.ofString "ports", Value.ref l)])) (fun i => (5 : Int) - (i : Int)) (by exact six_at rfl rfl rfl rfl rfl rfl) (by rfl) (And.intro (.head _) trivial) (fun p hp => (by obtain rfl := List.mem_singleton.mp hp; assumption)) (Exists.intro (_, _, none, none) (by exact sums_m0)) ?_ ?_); (intro o9 k9 tx9 a9 h9 tk9 hk9 ho9 F9 N9); (obtain ⟨t19, t29, v19, v29⟩ := a9); (delta M4 at F9; dsimp only at F9); (obtain ⟨vk, pk, hvk, hpk, hpd, hpi⟩ := hat k9 hk9); (generalize (Obj.mk _ _ _ _ : Obj) = oT at N9 ⊢); rotate_left; (intro h9 tk9 a9 F9 N9); (obtain ⟨t19, t29, v19, v29⟩ := a9); (delta M4 at F9; dsimp only at F9); rotate_left)
  k_with "itend" => ((refine' it4_intro (by assumption) ?e1 ?e2 (by assumption)); (case e1 => rw [fF, hpd]); (case e2 => rw [fP, hpd]))
  k_with "ifexp" => ((fail_if_success (with_reducible show wpAny _ _ _ (fun v s₂ => KCj _ _ _ _ _ _ _ v s₂) _ _)); (rename Fr _ _ _ _ => cF'); (rename News _ _ _ _ => cN'); ((k_dflt (refine' pj [p0, p1, p2, p3, p4, p5] cF' cN' (by exact rfl) (by exact hpk) ?_ ?_))); rotate_left; intro t9 h9 tk9 F9 N9; (try dsimp only); (try k_sweep); rotate_left)
  repeat' (first | (k_unfold; (try dsimp only)) | (k_end; kc_close) | walk1 | (dsimp only; walk1) | (leave1; walk_say "STEP leave1"; (try dsimp only)) | fail "no step")
  rename News h₀ L _ _ => kN
  rename Fr g' L' _ _ => FF
  refine' hret _ _ _ _ _ _ ?eF (ro_end gE' N FF kN ?eM) (ro_lt gE' N FF ?eL)
  case eM => k_dflt k_mem
  case eF => assumption
  case eL => assumption
end
end Mine
end

section
open PySem PySem.W PyProof.Rows PySem.Spec PySem.Calls
set_option Elab.async false
set_option maxRecDepth 100000
set_option linter.unusedVariables false
namespace Mine
theorem fill_now4 (w : World) (h : Heap) : (Mine.hd.heap_39 w.params).In h ∧ PySem.Challenge.rw_xo0002_01 = PySem.Challenge.rw_xo0002_01 → (Mine.hd.heap_39 w.params).In h := by
  k_fill
  exact fun x => x.1


section
variable {w : World} {mean : ExcName → Option Value} {mg mb : Str → Option Value} {dp un : Nat} {gd : Option (List Code)} {cn : Str} {cs : Scope} {aa : Addr} {ccd : Value} {cl : List (Str × Addr)} {outer : List Env} {A₀ : Around} {base h₀ : Heap} {L : Addr} {m : Str → Option Value} {s : Shared} {Q E : Value → Shared → Prop} {news : List (Addr × Obj)}
set_option maxHeartbeats 4000000 in
theorem u_heard {H R mk bd : PySem.Str} {lf rt port : Int} {t u : Tok} (B : Below A₀ base outer h₀) (F : Fr h₀ L s.heap m) (X : (Mine.hd.heap_39 w.params).In h₀) (N : News h₀ L s.heap news) (T : Top Mine.hd.view_39 (looseW Mine.hd.view_39 []) mean mg mb h₀) (hk : cs.kind = .function) (hd : dp + 3 < recursionLimit) (hu : un + 24 < cLine)
    (rep : Rep R lf rt mk bd port)
    (hret : ∀ (D : Addr) (t0 t1 : Tok) (n : Nat) (h' : Heap) (tk' : Nat), Fr h₀ L h' m → News h₀ L h' ((D, ({ cls := .type "tuple", data := .seq #[.str H t0, .int port t1] n } : Obj)) :: news) → (∀ p ∈ news, p.1 < D) → Q (.ref D) { s with heap := h', toks := tk' }) :
    wpAny (model PySem.Challenge.rw_xo0002_01.row.prog w) (ktrTop dp un gd cn cs L aa ccd cl outer) (call (.ref 100) [.str H t, .str R u]) Q E s := by
  k_with_none
  w_top off
  refine wpAny_call ?_
  k_dflt (refine' code_ro ?k1 ?k2 ?k3 ?k5 ?kA ?kF ?kK ?k6 ?k7 ?k8 ?k9 ?kB ?_ ?c2 ?c3 ?c4 ?c5; (case kA => exact rfl); (case kF => exact rfl); (case kK => assumption); (case k1 => k_asm); (case k2 => k_asm); (case k3 => k_asm); (case k5 => k_asm); (case k6 => k_is); (case k7 => k_is); (case k8 => ktr_room); (case k9 => exact BindsTo.of_eq rfl); (case c5 => decide); (case kB => exact locs rfl); (case c2 => exact rfl); (case c3 => exact rfl); (case c4 => exact rfl); k_whole; intro g' L' h' gE' F' N' B' X' T'; (try dsimp only); (try k_fold))
  k_with_none
  k_with "call ref" => (k_here; k_dflt (first | (refine' u_ixor ?k1 ?k2 ?k3 ?k4 ?k5 ?kK ?kd ?ku ?_; (case k1 => k_asm); (case k2 => k_asm); (case k3 => k_asm); (case k4 => k_asm); (case k5 => k_asm); (case kK => first | exact rfl | assumption); (case kd => ktr_room); (case ku => ktr_units); intro t9k h9k tk9k F9k N9k; (try dsimp only); (try k_sweep); (try k_fold)) | (refine' u_fold ?k1 ?k2 ?k3 ?k4 ?k5 ?kK ?kd ?ku ?ka ?_; (case k1 => k_asm); (case k2 => k_asm); (case k3 => k_asm); (case k4 => k_asm); (case k5 => k_asm); (case kK => first | exact rfl | assumption); (case kd => ktr_room); (case ku => ktr_units); (case ka => k_extra "foldarg"); intro t9k h9k tk9k F9k N9k; (try dsimp only); (try k_sweep); (try k_fold))))
  k_with "newList" => (k_here; k_dflt (refine' newList_K2 ?k1 ?k2 ?_; (case k1 => k_asm); (case k2 => k_asm); k_whole); intro lqk hqk Fqk Nqk l1k l2k; (try k_lt l1k); (try k_lt2 l2k); (try k_sweep))
  k_with "newTuple" => (k_here; k_dflt (refine' newTuple_K2 ?F ?N ?_ ?z; (case F => k_asm); (case N => k_asm); (case z => kmk_size)); intro Dqk hqk Fqk Nqk l1k l2k; (try k_lt l1k); (try k_lt2 l2k); (try k_sweep))
  k_with "subscriptTail Name Slice str ref" => (k_here; k_dflt (k_extra "tail"))
  k_with "subscriptTail Name BinOp str int" => (k_here; (k_dflt (k_extra "item")))
  k_with "compareOp NotEq str str" => (k_here; refine ne_self ?_)
  k_with "call builtin:str.find" => (k_here; k_dflt (k_extra "find"))
  k_with "call builtin:str.split" => (k_here; k_dflt (k_extra "split"))
  obtain ⟨len, e1, e2, l0, l1, e3, r0, r1, e4, e4b, e5, e5b, e6, bl, ml, e7, p0, p1⟩ := rep
  have b1 : 0 ≤ lf + 1 := by omega
  have b2 : lf + 1 < 1000 := by omega
  have b3 : 0 ≤ rt - 1 := by omega
  have b4 : rt - 1 < 1000 := by omega
  have hsz : R.length ≤ sizeLine := by rw [PySem.sizeLine_eq]; omega
  have hszb : bd.length + 2 ≤ sizeLine := by rw [PySem.sizeLine_eq]; omega
  k_with "tail" => ((with_reducible rename Fr _ _ _ _ => F'); (with_reducible rename News _ _ _ _ => N'); first
    | ((with_reducible show wpAny _ _ (subscriptTail _ (PySem.Expr.Slice none (some _) none _) _ _) _ _ _); (refine' sl_ns (s := ⟨_, _, _, _, _⟩) e1 F' N' hsz ?_))
    | ((with_reducible show wpAny _ _ (subscriptTail _ (PySem.Expr.Slice (some _) (some _) none _) _ _) _ _ _); (refine' sl_ss (s := ⟨_, _, _, _, _⟩) e6 F' N' hsz ?_))); intro h9 t9 k9 F9 N9
  k_with "item" => first
    | (refine' it_str e4 b1 e4b b2 ?_)
    | (refine' it_str e5 b3 e5b b4 ?_)
  k_with "find" => first
    | refine' fd2 e2 ?_
    | refine' fd3 e3 ?_
  k_with "split" => ((with_reducible rename Fr _ _ _ _ => F'); (with_reducible rename News _ _ _ _ => N'); (refine' sp5 e7 F' N' ml hszb ?_); intro D9 t91 t92 t93 t94 t95 h9 k9 F9 N9 l9; (try k_lt l9))
  repeat' (first | (k_unfold; (try dsimp only)) | (k_end; kc_close) | walk1 | (dsimp only; walk1) | (leave1; walk_say "STEP leave1"; (try dsimp only)) | fail "no step")
  rename News h₀ L _ _ => kN
  rename Fr g' L' _ _ => FF
  refine' hret _ _ _ _ _ _ ?eF (ro_end gE' N FF kN ?eM) (ro_lt gE' N FF ?eL)
  case eM => k_dflt k_mem
  case eF => assumption
  case eL => (rename D9 < _ ∧ _ => q9; exact Nat.lt_trans (by assumption) q9.2)
end
end Mine
end

section
open PySem PySem.W PyProof.Rows PySem.Spec PySem.Calls
set_option Elab.async false
set_option maxRecDepth 100000
set_option linter.unusedVariables false
namespace Mine
theorem fill_now5 (w : World) (h : Heap) : (Mine.hd.heap_39 w.params).In h ∧ PySem.Challenge.rw_xo0002_01 = PySem.Challenge.rw_xo0002_01 → (Mine.hd.heap_39 w.params).In h := by
  k_fill
  exact fun x => x.1


section
variable {w : World} {mean : ExcName → Option Value} {mg mb : Str → Option Value} {dp un : Nat} {gd : Option (List Code)} {cn : Str} {cs : Scope} {aa : Addr} {ccd : Value} {cl : List (Str × Addr)} {outer : List Env} {A₀ : Around} {base h₀ : Heap} {L : Addr} {m : Str → Option Value} {s : Shared} {Q E : Value → Shared → Prop} {news : List (Addr × Obj)}
set_option maxHeartbeats 4000000 in
theorem u_heard0 {t u : Tok} (B : Below A₀ h₀ [] h₀) (F : Fr h₀ L s.heap m) (X : (Mine.hd.heap_39 w.params).In h₀) (N : News h₀ L s.heap news) (T : Top Mine.hd.view_39 (looseW Mine.hd.view_39 []) mean mg mb h₀) (hk : cs.kind = .function) (hd : dp + 3 < recursionLimit) (hu : un + 24 < cLine)
    (hret : ∀ (h' : Heap) (tk' : Nat), Fr h₀ L h' m → News h₀ L h' news → Q .none { s with heap := h', toks := tk' }) :
    wpAny (model PySem.Challenge.rw_xo0002_01.row.prog w) (ktrTop dp un gd cn cs L aa ccd cl []) (call (.ref 100) [.str (Str.ofString "") t, .str (Str.ofString "") u]) Q E s := by
  k_with_none
  w_top off
  refine wpAny_call ?_
  k_dflt (refine' code_roS ?k1 ?k2 ?k3 ?k5 ?kA ?kF ?kK ?k6 ?k7 ?k8 ?k9 ?kB ?_ ?c2 ?c3 ?c4 ?c5; (case kA => exact rfl); (case kF => exact rfl); (case kK => assumption); (case k1 => k_asm); (case k2 => k_asm); (case k3 => k_asm); (case k5 => k_asm); (case k6 => k_is); (case k7 => k_is); (case k8 => ktr_room); (case k9 => exact BindsTo.of_eq rfl); (case c5 => decide); (case kB => exact locs rfl); (case c2 => exact rfl); (case c3 => exact rfl); (case c4 => exact rfl); k_whole; intro g' L' h' gE' F' N' B' X' T' D'; (try dsimp only); (try k_fold))
  k_with_none
  k_with "call ref" => (k_here; k_dflt (first | (refine' u_ixor ?k1 ?k2 ?k3 ?k4 ?k5 ?kK ?kd ?ku ?_; (case k1 => k_asm); (case k2 => k_asm); (case k3 => k_asm); (case k4 => k_asm); (case k5 => k_asm); (case kK => first | exact rfl | assumption); (case kd => ktr_room); (case ku => ktr_units); intro t9k h9k tk9k F9k N9k; (try dsimp only); (try k_sweep); (try k_fold)) | (refine' u_fold ?k1 ?k2 ?k3 ?k4 ?k5 ?kK ?kd ?ku ?ka ?_; (case k1 => k_asm); (case k2 => k_asm); (case k3 => k_asm); (case k4 => k_asm); (case k5 => k_asm); (case kK => first | exact rfl | assumption); (case kd => ktr_room); (case ku => ktr_units); (case ka => k_extra "foldarg"); intro t9k h9k tk9k F9k N9k; (try dsimp only); (try k_sweep); (try k_fold))))
  k_with "newList" => (k_here; k_dflt (refine' newList_K2 ?k1 ?k2 ?_; (case k1 => k_asm); (case k2 => k_asm); k_whole); intro lqk hqk Fqk Nqk l1k l2k; (try k_lt l1k); (try k_lt2 l2k); (try k_sweep))
  k_with "newTuple" => (k_here; k_dflt (refine' newTuple_K2 ?F ?N ?_ ?z; (case F => k_asm); (case N => k_asm); (case z => kmk_size)); intro Dqk hqk Fqk Nqk l1k l2k; (try k_lt l1k); (try k_lt2 l2k); (try k_sweep))
  repeat' (first | (k_unfold; (try dsimp only)) | (k_end; kc_close) | walk1 | (dsimp only; walk1) | (leave1; walk_say "STEP leave1"; (try dsimp only)) | fail "no step")
  rename KtsTurn _ g' _ => TT
  rename Fr _ L' _ _ => FF
  exact hret _ _ (by assumption) (roS_news (env := envX cn cs L aa ccd cl) rfl gE' N TT FF)
end
end Mine
end

section
open PySem PySem.W PyProof.Rows PySem.Spec PySem.Calls
set_option Elab.async false
set_option maxRecDepth 100000
set_option linter.unusedVariables false
namespace Mine
theorem fill_now6 (w : World) (h : Heap) : (Mine.hd.heap_39 w.params).In h ∧ PySem.Challenge.rw_xo0002_01 = PySem.Challenge.rw_xo0002_01 → (Mine.hd.heap_39 w.params).In h := by
  k_fill
  exact fun x => x.1
abbrev tup2 (x : PySem.Str) (t : Tok) (y : PySem.Str) (u : Tok) (c : Nat) : Obj := { cls := .type "tuple", data := .seq #[.str x t, .str y u] c }
def NeA (a b : Nat) : Prop := a ≠ b
abbrev brk : PySem.Str := Str.ofString "["
def KIf (g : Heap) (L : Addr) (m : PySem.Str → Option Value) (led : List (Addr × Obj)) (s : Shared) (l' : Addr) (H R : PySem.Str) (f : Flow) (s₂ : Shared) : Prop :=
  f = .next ∧ ∃ a t1 t2 c h tk, s₂ = { s with heap := h, toks := tk } ∧ Fr g L h (fun y => if y = Str.ofString "v" then some (.ref a) else m y) ∧ News g L h ((a, tup2 (if Txt.contains R brk = true then Str.ofString "" else H) t1 (if Txt.contains R brk = true then Str.ofString "" else R) t2 c) :: led) ∧ NeA a l'
section
variable {g h : Heap} {L l' a : Addr} {m : PySem.Str → Option Value} {led led' : List (Addr × Obj)} {s : Shared} {H R : PySem.Str} {tk c : Nat} {t1 t2 : Tok}
theorem kif_bad (hb : Txt.contains R brk = true) (F : Fr g L h (fun y => if y = Str.ofString "v" then some (.ref a) else m y)) (N : News g L h ((a, tup2 (Str.ofString "") t1 (Str.ofString "") t2 c) :: led)) (hn : @LT.lt Nat _ l' a) : KIf g L m led s l' H R .next { s with heap := h, toks := tk } := by
  refine ⟨rfl, a, t1, t2, c, h, tk, rfl, F, ?_, Nat.ne_of_gt hn⟩
  rw [if_pos hb, if_pos hb]
  exact N
theorem kif_good (hb : ¬ Txt.contains R brk = true) (hm : m (Str.ofString "v") = some (.ref a)) (hq : (a, tup2 H t1 R t2 c) ∈ led) (F : Fr g L h m) (N : News g L h led) (hn : NeA a l') : KIf g L m led s l' H R .next { s with heap := h, toks := tk } := by
  refine ⟨rfl, a, t1, t2, c, h, tk, rfl, ?_, ?_, hn⟩
  · have e : (fun y => if y = Str.ofString "v" then some (Value.ref a) else m y) = m := funext fun y => by
      by_cases hy : y = Str.ofString "v"
      · rw [if_pos hy, hy, hm]
      · rw [if_neg hy]
    rw [e]; exact F
  · rw [if_neg hb, if_neg hb]
    exact news_cons N hq
theorem if_join {M : Model} {A : Around} {E : Value → Shared → Prop} {env : Env} {st : Stmt} {Q : Flow → Shared → Prop} (F : Fr g L s.heap m) (N : News g L s.heap led) (hl : m (Str.ofString "accepted_values") = some (.ref l')) (hm : m (Str.ofString "v") = some (.ref a)) (hq : (a, tup2 H t1 R t2 c) ∈ led)
    (hc : wpAny M A (exec st env) (KIf g L m led s l' H R) E s)
    (hk : ∀ a t1 t2 c h tk, Fr g L h (fun y => if y = Str.ofString "v" then some (.ref a) else m y) → News g L h ((a, tup2 (if Txt.contains R brk = true then Str.ofString "" else H) t1 (if Txt.contains R brk = true then Str.ofString "" else R) t2 c) :: led) → NeA a l' → Q .next { s with heap := h, toks := tk }) :
    wpAny M A (exec st env) Q E s := by
  refine wpAny_mono hc (fun f s₂ hf => ?_) fun _ _ e => e
  obtain ⟨rfl, a, t1, t2, c, h, tk, rfl, F', N', hn⟩ := hf
  exact hk a t1 t2 c h tk F' N' hn
end
abbrev tupK (H R : PySem.Str) (t u : Tok) (c : Nat) : Obj := tup2 (if Txt.contains R brk = true then Str.ofString "" else H) t (if Txt.contains R brk = true then Str.ofString "" else R) u c
/-- what the pairs kept so far are -/
def PoF (H R : Nat → PySem.Str) (i : Nat) (ys : Array Value) (led : List (Addr × Obj)) : Prop :=
  ys.size = i ∧ ∀ j, j < i → ∃ a t1 t2 c, ys[j]? = some (.ref a) ∧ (a, tupK (H j) (R j) t1 t2 c) ∈ led
def PoEnd (h₀ : Heap) (L : Addr) (s : Shared) (x : PySem.Str) (m₀ : PySem.Str → Option Value) (l' I : Addr) (it : Obj) (H R : PySem.Str) (ys : Array Value) (led : List (Addr × Obj)) (fl : Flow) (s₂ : Shared) : Prop :=
  fl = .next ∧ ∃ h' tk' v a t1 t2 c cc', s₂ = { s with heap := h', toks := tk' } ∧ Fr h₀ L h' (fun z => if z = x then v else m₀ z) ∧ News h₀ L h' ((a, tupK H R t1 t2 c) :: (I, it) :: (l', listOf (ys.push (.ref a)) cc') :: led)
theorem PoEnd.intro {h₀ h' : Heap} {L : Addr} {s : Shared} {x : PySem.Str} {m₀ : PySem.Str → Option Value} {l' I a : Addr} {it : Obj} {H R : PySem.Str} {ys : Array Value} {led : List (Addr × Obj)} {tk' c cc' : Nat} {t1 t2 : Tok} {v v' : Option Value}
    (F : Fr h₀ L h' (fun z => if z = x then v else if z = x then v' else m₀ z)) (N : News h₀ L h' ((a, tupK H R t1 t2 c) :: (I, it) :: (l', listOf (ys.push (.ref a)) cc') :: led)) : PoEnd h₀ L s x m₀ l' I it H R ys led .next { s with heap := h', toks := tk' } :=
  ⟨rfl, h', tk', v, a, t1, t2, c, cc', rfl, fr_same F (fun z => by
    by_cases h1 : z = x
    · rw [if_pos h1, if_pos h1]
    · rw [if_neg h1, if_neg h1, if_neg h1]), N⟩
section
variable {prog : Program} {w : World} {A : Around} {E : Value → Shared → Prop} {s : Shared} {h₀ : Heap} {env : Env} {x : PySem.Str} {body : List Stmt} {Q : Flow → Shared → Prop}
theorem post_loop {l l' : Addr} {vs : List Value} {n nl c₀ : Nat} {m₀ : PySem.Str → Option Value} {led0 : List (Addr × Obj)} {H R : Nat → PySem.Str} {q : Nat → Addr} {sT rT : Nat → Tok} {cN : Nat → Nat}
    (hh : A.handled = none) (F : Fr h₀ env.locals s.heap m₀) (N : News h₀ env.locals s.heap ((l', listOf #[] c₀) :: led0)) (hl : (l, listOf vs.toArray nl) ∈ led0) (hn : vs.length = n)
    (hv : ∀ i, i < n → vs[i]? = some (.ref (q i))) (hq : ∀ i, i < n → (q i, tup2 (H i) (sT i) (R i) (rT i) (cN i)) ∈ led0) (hne : ∀ p ∈ led0, p.1 ≠ l')
    (step : ∀ I i it ys cc led h tk, i < n → ys.size = i → @LT.lt Nat _ l' I → (∀ p ∈ led, p.1 ≠ l') → (q i, tup2 (H i) (sT i) (R i) (rT i) (cN i)) ∈ led → Fr h₀ env.locals h (fun z => if z = x then some (.ref (q i)) else m₀ z) → News h₀ env.locals h ((I, it) :: (l', listOf ys cc) :: led) →
      wpAny (model prog w) A (execs body env) (PoEnd h₀ env.locals s x m₀ l' I it (H i) (R i) ys led) E { s with heap := h, toks := tk })
    (fin : ∀ ys cc led v h tk, PoF H R n ys led → (∀ p ∈ led0, p ∈ led) → Fr h₀ env.locals h (fun z => if z = x then v else m₀ z) → News h₀ env.locals h ((l', listOf ys cc) :: led) → Q .next { s with heap := h, toks := tk }) :
    wpAny (model prog w) A (pyIter (.ref l)) (fun it s₂ => LoopAtV prog w A h₀ env x body Q E it s₂) E s := by
  refine iter_listUnr (lo := listOf vs.toArray nl) (n := nl) hh F N (.tail _ hl) rfl rfl fun I hI => ?_
  have hlI : @LT.lt Nat _ l' I := hI _ (.head _)
  refine listrest_ind (fun k m nw => ∃ ys cc led v, nw = (l', listOf ys cc) :: led ∧ PoF H R k ys led ∧ (∀ p ∈ led, p.1 ≠ l') ∧ (∀ p ∈ led, p.1 ≠ I) ∧ (∀ p ∈ led0, p ∈ led) ∧ ∀ z, (if z = x then v else m₀ z) = m z) hn ?_ ?_ n 0 m₀ _ (Nat.zero_add n) ⟨#[], c₀, led0, m₀ x, rfl, ⟨rfl, fun j hj => absurd hj (Nat.not_lt_zero j)⟩, hne, fun p hp => Nat.ne_of_lt (hI p (.tail _ hp)), fun p hp => hp, fun z => ?_⟩
  · rintro i v m nw it h tk hvi hi ⟨ys, cc, led, v1, rfl, hP, hl1, hl2, hs, hm⟩ hic F₁ N₁
    obtain rfl : v = .ref (q i) := Option.some.inj (hvi.symm.trans (hv i hi))
    refine wpAny_mono (step I i it ys cc led h tk hi hP.1 hlI hl1 (hs _ (hq i hi)) (fr_same F₁ fun z => ?_) N₁) (fun fl s₂ r => ?_) fun _ _ r => r
    · by_cases h1 : z = x
      · rw [if_pos h1, if_pos h1]
      · rw [if_neg h1, if_neg h1, ← hm z, if_neg h1]
    · obtain ⟨rfl, h', tk', v', a, t1, t2, c, cc', rfl, F₂, N₂⟩ := r
      have ne1 : @Ne Nat a l' := cls_ne N₂ (.head _) (.tail _ (.tail _ (.head _))) (by simp)
      have ne2 : @Ne Nat a I := cls_ne N₂ (.head _) (.tail _ (.head _)) (by rw [hic]; simp)
      refine ⟨rfl, h', tk', _, (l', listOf (ys.push (.ref a)) cc') :: (a, tupK (H i) (R i) t1 t2 c) :: led, rfl, F₂, fun e he => ?_, fun e he => ?_, .tail _ (.tail _ (hs _ hl)), _, _, _, v', rfl, ⟨?_, fun j hj => ?_⟩, fun e he => ?_, fun e he => ?_, fun e he => .tail _ (hs e he), fun z => rfl⟩
      · rcases List.mem_cons.mp he with rfl | he
        · exact N₂ _ (.tail _ (.head _))
        rcases List.mem_cons.mp he with rfl | he
        · exact N₂ _ (.tail _ (.tail _ (.head _)))
        rcases List.mem_cons.mp he with rfl | he
        · exact N₂ _ (.head _)
        · exact N₂ _ (.tail _ (.tail _ (.tail _ he)))
      · rcases List.mem_cons.mp he with rfl | he
        · exact Nat.ne_of_lt hlI
        rcases List.mem_cons.mp he with rfl | he
        · exact ne2
        · exact hl2 e he
      · rw [Array.size_push, hP.1]
      · by_cases hji : j = i
        · subst hji
          exact ⟨a, t1, t2, c, by rw [← hP.1, Array.getElem?_push_size], .head _⟩
        · obtain ⟨a', t1', t2', c', e1, e2⟩ := hP.2 j (by omega)
          exact ⟨a', t1', t2', c', by rw [Array.getElem?_push_lt (by rw [hP.1]; omega), ← e1, Array.getElem?_eq_getElem], .tail _ e2⟩
      · rcases List.mem_cons.mp he with rfl | he
        · exact ne1
        · exact hl1 e he
      · rcases List.mem_cons.mp he with rfl | he
        · exact ne2
        · exact hl2 e he
  · rintro m nw ⟨ys, cc, led, v1, rfl, hP, hl1, hl2, hs, hm⟩ h tk F₁ N₁
    exact fin ys cc led v1 h tk hP hs (fr_same F₁ hm) N₁
  · by_cases h1 : z = x
    · rw [if_pos h1, h1]
    · rw [if_neg h1]
end
local macro_rules | `(tactic| k_ne) => `(tactic| first | exact (show NeA _ _ by assumption) | exact Ne.symm (show NeA _ _ by assumption))
local macro_rules | `(tactic| k_mem) => `(tactic| first | with_reducible_and_instances assumption | k_extra "mem")
local macro_rules | `(tactic| k_all) => `(tactic| with_reducible assumption)
section
variable {w : World} {mean : ExcName → Option Value} {mg mb : Str → Option Value} {dp un : Nat} {gd : Option (List Code)} {cn : Str} {cs : Scope} {aa : Addr} {ccd : Value} {cl : List (Str × Addr)} {outer : List Env} {A₀ : Around} {base h₀ : Heap} {L : Addr} {m : Str → Option Value} {s : Shared} {Q E : Value → Shared → Prop} {news : List (Addr × Obj)}
set_option maxHeartbeats 4000000 in
theorem u_postG {H R : Nat → PySem.Str} {sT rT : Nat → Tok} {q : Nat → Addr} {cN : Nat → Nat} {l : Addr} {n : Nat} {led0 : List (Addr × Obj)} (B : Below A₀ base outer h₀) (F : Fr h₀ L s.heap m) (X : (Mine.hd.heap_39 w.params).In h₀) (N : News h₀ L s.heap news) (T : Top Mine.hd.view_39 (looseW Mine.hd.view_39 []) mean mg mb h₀) (hk : cs.kind = .function) (hd : dp + 3 < recursionLimit) (hu : un + 24 < cLine)
    (hsub : ∀ q ∈ led0, q ∈ news) (hl : (l, listOf #[.ref (q 0), .ref (q 1), .ref (q 2), .ref (q 3), .ref (q 4), .ref (q 5)] n) ∈ led0) (hq : ∀ i, i < 6 → (q i, tup2 (H i) (sT i) (R i) (rT i) (cN i)) ∈ led0)
    (hret : ∀ (D : Addr) (ys : Array Value) (n : Nat) (led : List (Addr × Obj)) (h' : Heap) (tk' : Nat), PoF H R 6 ys led → Fr h₀ L h' m → News h₀ L h' ((D, listOf ys n) :: led) → News h₀ L h' news → (∀ p ∈ news, p.1 < D) → Q (.ref D) { s with heap := h', toks := tk' }) :
    wpAny (model PySem.Challenge.rw_xo0002_01.row.prog w) (ktrTop dp un gd cn cs L aa ccd cl outer) (call (.ref 21) [.ref l]) Q E s := by
  k_with_none
  w_top off
  refine wpAny_call ?_
  k_dflt (refine' code_led led0 ?k1 ?k2 ?kN ?k3 ?k5 ?kA ?kF ?kK ?k6 ?k7 ?k8 ?k9 ?kB ?_ ?c2 ?c3 ?c4 ?c5; (case kA => exact rfl); (case kF => exact rfl); (case kK => assumption); (case k1 => k_asm); (case k2 => k_asm); (case kN => exact fun q hq => N q (hsub q hq)); (case k3 => k_asm); (case k5 => k_asm); (case k6 => k_is); (case k7 => k_is); (case k8 => ktr_room); (case k9 => exact BindsTo.of_eq rfl); (case c5 => decide); (case kB => exact locs rfl); (case c2 => exact rfl); (case c3 => exact rfl); (case c4 => exact rfl); k_whole; intro g' L' h' gE' gS' F' N' B' X' T' l1; (try dsimp only); (try k_fold))
  k_with_none
  k_with "exec If" => (k_here; k_extra "postif")
  k_with "KIf" => (k_here; k_dflt (k_extra "postend"))
  k_with "PoEnd" => (k_here; k_dflt (k_extra "poend"))
  k_with "newList" => (k_here; k_dflt (k_extra "newlist"))
  k_with "newTuple" => (k_here; k_dflt (k_extra "newtuple"))
  k_with "exec For Name Name cons nil" => (k_here; (rename Fr _ _ _ _ => lFqk); (with_unfolding_all refine' For_invVF lFqk ?k1 ?k2 ?_; (case k1 => exact rfl); (case k2 => exact rfl); k_whole))
  k_with "pyIter ref" => (k_here; (with_reducible show wpAny _ _ (pyIter (Value.ref _)) (fun itk s₂k => LoopAtV _ _ _ _ _ _ _ _ _ itk s₂k) _ _); (k_dflt (k_extra "iter")))
  k_with "call builtin:list.append" => (k_here; (k_dflt (k_extra "append")))
  have hat : ∀ i : Nat, i < 6 → [Value.ref (q 0), .ref (q 1), .ref (q 2), .ref (q 3), .ref (q 4), .ref (q 5)][i]? = some (.ref (q i)) := fun i hi => by
    have h9 : i = 0 ∨ i = 1 ∨ i = 2 ∨ i = 3 ∨ i = 4 ∨ i = 5 := by omega
    rcases h9 with rfl | rfl | rfl | rfl | rfl | rfl <;> rfl
  k_with "newlist" => ((refine' newList_K2 ?k1 ?k2 ?_; (case k1 => k_asm); (case k2 => k_asm); k_whole); intro lA hA FA NA lA1 lA2; (try k_sweep))
  k_with "newtuple" => ((refine' newTuple_K2 ?F ?N ?_ ?z; (case F => k_asm); (case N => k_asm); (case z => kmk_size)); intro T9 h9 F9 N9 l9 l2; (have lP9 : @LT.lt Nat _ lA T9 := l9 _ (.tail _ (.head _))); clear l9 l2; (try k_sweep))
  k_with "mem" => first | exact .tail _ (.tail _ hq9) | exact .tail _ (.tail _ (.tail _ hq9))
  k_with "iter" => ((rename Fr _ _ _ _ => lF9); (rename News _ _ _ _ => lN9); (refine' post_loop (H := H) (R := R) (sT := sT) (rT := rT) (cN := cN) (q := q) (vs := [.ref (q 0), .ref (q 1), .ref (q 2), .ref (q 3), .ref (q 4), .ref (q 5)]) (n := 6) (led0 := led0) rfl lF9 lN9 hl rfl hat hq (fun p hp => Nat.ne_of_lt (lA1 p hp)) ?_ ?_); (intro I9 k9 it9 ys9 c9 led9 h9 tk9 hk9 hz9 lI9 hl9 hq9 F9 N9); (have hn9 : NeA (q k9) lA := hl9 _ hq9); rotate_left; (intro ys9 c9 led9 v9 h9 tk9 hP9 hs9 F9 N9); rotate_left)
  k_with "postif" => ((fail_if_success (with_reducible show wpAny _ _ _ (fun f s₂ => KIf _ _ _ _ _ _ _ _ f s₂) _ _)); (rename Fr _ _ _ _ => cF'); (rename News _ _ _ _ => cN'); (k_dflt (refine' if_join cF' cN' (by exact rfl) (by exact rfl) (by exact .tail _ (.tail _ hq9)) ?_ ?_)); rotate_left; (intro a9 t91 t92 c9 h9 tk9 F9 N9 l9); (try dsimp only); (try k_sweep); rotate_left)
  k_with "postend" => first
    | ((rename List.isEmpty _ = true => hb'); (k_dflt (refine' kif_good ?hb ?hm ?hq ?F ?N hn9)); (case hb => (show ¬ ((!_) = true); rw [hb']; decide)); (case hm => exact rfl); (case hq => exact .tail _ (.tail _ hq9)); (case F => assumption); (case N => assumption))
    | (((k_dflt (refine' kif_bad ?hb ?F ?N lP9)); (case F => assumption); (case N => assumption); (case hb => (show ((!_) = true); simp_all))))
  k_with "append" => ((rename Fr _ _ _ _ => aF); (rename News _ _ _ _ => aN); (refine' append_K aF aN ?aU ?_ ?az); (case aU => k_upd); (case az => (rw [hz9, PySem.sizeLine_eq]; omega)); k_whole; intro h8 F8 N8; (try k_sweep))
  k_with "poend" => ((refine' PoEnd.intro ?qF ?qN); (case qF => assumption); (case qN => assumption))
  repeat' (first | (k_unfold; (try dsimp only)) | (k_end; kc_close) | walk1 | (dsimp only; walk1) | (leave1; walk_say "STEP leave1"; (try dsimp only)) | fail "no step")
  rename News h₀ L _ _ => kN
  rename Fr h₀ L _ _ => kF
  exact hret lA ys9 c9 led9 _ _ hP9 kF kN (led_news hsub gE' N F9 (fun q hq => (N9 q (.tail _ (hs9 q hq))).1)) (led_lt N gS' lA2)
set_option maxHeartbeats 4000000 in
theorem u_post {H0 R0 H1 R1 H2 R2 H3 R3 H4 R4 H5 R5 : PySem.Str} {s0 s1 s2 s3 s4 s5 r0 r1 r2 r3 r4 r5 : Tok} {l q0 q1 q2 q3 q4 q5 : Addr} {n c0 c1 c2 c3 c4 c5 : Nat} (B : Below A₀ base outer h₀) (F : Fr h₀ L s.heap m) (X : (Mine.hd.heap_39 w.params).In h₀) (N : News h₀ L s.heap news) (T : Top Mine.hd.view_39 (looseW Mine.hd.view_39 []) mean mg mb h₀) (hk : cs.kind = .function) (hd : dp + 3 < recursionLimit) (hu : un + 24 < cLine)
    (hsub : ∀ q ∈ ([(l, listOf #[.ref q0, .ref q1, .ref q2, .ref q3, .ref q4, .ref q5] n), (q0, tup2 H0 s0 R0 r0 c0), (q1, tup2 H1 s1 R1 r1 c1), (q2, tup2 H2 s2 R2 r2 c2), (q3, tup2 H3 s3 R3 r3 c3), (q4, tup2 H4 s4 R4 r4 c4), (q5, tup2 H5 s5 R5 r5 c5)] : List (Addr × Obj)), q ∈ news)
    (hret : ∀ (D a0 a1 a2 a3 a4 a5 : Addr) (u0 u1 u2 u3 u4 u5 w0 w1 w2 w3 w4 w5 : Tok) (d0 d1 d2 d3 d4 d5 n : Nat) (h' : Heap) (tk' : Nat), Fr h₀ L h' m →
      News h₀ L h' ((D, listOf #[.ref a0, .ref a1, .ref a2, .ref a3, .ref a4, .ref a5] n) :: (a0, tup2 (if Txt.contains R0 brk = true then Str.ofString "" else H0) u0 (if Txt.contains R0 brk = true then Str.ofString "" else R0) w0 d0) :: (a1, tup2 (if Txt.contains R1 brk = true then Str.ofString "" else H1) u1 (if Txt.contains R1 brk = true then Str.ofString "" else R1) w1 d1) :: (a2, tup2 (if Txt.contains R2 brk = true then Str.ofString "" else H2) u2 (if Txt.contains R2 brk = true then Str.ofString "" else R2) w2 d2) :: (a3, tup2 (if Txt.contains R3 brk = true then Str.ofString "" else H3) u3 (if Txt.contains R3 brk = true then Str.ofString "" else R3) w3 d3) :: (a4, tup2 (if Txt.contains R4 brk = true then Str.ofString "" else H4) u4 (if Txt.contains R4 brk = true then Str.ofString "" else R4) w4 d4) :: (a5, tup2 (if Txt.contains R5 brk = true then Str.ofString "" else H5) u5 (if Txt.contains R5 brk = true then Str.ofString "" else R5) w5 d5) :: news) → (∀ p ∈ news, p.1 < D) → NeA a0 D → NeA a1 D → NeA a2 D → NeA a3 D → NeA a4 D → NeA a5 D → Q (.ref D) { s with heap := h', toks := tk' }) :
    wpAny (model PySem.Challenge.rw_xo0002_01.row.prog w) (ktrTop dp un gd cn cs L aa ccd cl outer) (call (.ref 21) [.ref l]) Q E s := by
  refine u_postG (H := fun k => [H0, H1, H2, H3, H4, H5].getD k H0) (R := fun k => [R0, R1, R2, R3, R4, R5].getD k R0) (sT := fun k => [s0, s1, s2, s3, s4, s5].getD k s0) (rT := fun k => [r0, r1, r2, r3, r4, r5].getD k r0) (q := fun k => [q0, q1, q2, q3, q4, q5].getD k q0) (cN := fun k => [c0, c1, c2, c3, c4, c5].getD k c0) B F X N T hk hd hu hsub (.head _) (fun i hi => ?_) (fun D ys n led h' tk' hP F' N' Nn lt => ?_)
  · have h9 : i = 0 ∨ i = 1 ∨ i = 2 ∨ i = 3 ∨ i = 4 ∨ i = 5 := by omega
    rcases h9 with rfl | rfl | rfl | rfl | rfl | rfl
    · exact .tail _ (.head _)
    · exact .tail _ (.tail _ (.head _))
    · exact .tail _ (.tail _ (.tail _ (.head _)))
    · exact .tail _ (.tail _ (.tail _ (.tail _ (.head _))))
    · exact .tail _ (.tail _ (.tail _ (.tail _ (.tail _ (.head _)))))
    · exact .tail _ (.tail _ (.tail _ (.tail _ (.tail _ (.tail _ (.head _))))))
  obtain ⟨hz, hf⟩ := hP
  obtain ⟨a0, t0, u0, d0, e0, m0⟩ := hf 0 (by decide)
  obtain ⟨a1, t1, u1, d1, e1, m1⟩ := hf 1 (by decide)
  obtain ⟨a2, t2, u2, d2, e2, m2⟩ := hf 2 (by decide)
  obtain ⟨a3, t3, u3, d3, e3, m3⟩ := hf 3 (by decide)
  obtain ⟨a4, t4, u4, d4, e4, m4⟩ := hf 4 (by decide)
  obtain ⟨a5, t5, u5, d5, e5, m5⟩ := hf 5 (by decide)
  obtain rfl := six_arr hz e0 e1 e2 e3 e4 e5
  exact hret D a0 a1 a2 a3 a4 a5 t0 t1 t2 t3 t4 t5 u0 u1 u2 u3 u4 u5 d0 d1 d2 d3 d4 d5 n h' tk' F' (news_pre7 (.head _) (.tail _ m0) (.tail _ m1) (.tail _ m2) (.tail _ m3) (.tail _ m4) (.tail _ m5) N' Nn) lt (cls_ne N' (.tail _ m0) (.head _) (by simp)) (cls_ne N' (.tail _ m1) (.head _) (by simp)) (cls_ne N' (.tail _ m2) (.head _) (by simp)) (cls_ne N' (.tail _ m3) (.head _) (by simp)) (cls_ne N' (.tail _ m4) (.head _) (by simp)) (cls_ne N' (.tail _ m5) (.head _) (by simp))
end
end Mine
end

section
open PySem PySem.W PyProof.Rows
set_option Elab.async false
namespace Mine
theorem fb_zero : fb 0#16 = 0#16 := by decide
theorem xlc (x y z : BitVec 16) : x ^^^ (y ^^^ z) = y ^^^ (x ^^^ z) := by rw [← BitVec.xor_assoc, BitVec.xor_comm x y, BitVec.xor_assoc]
theorem xsl (x y : BitVec 16) : x ^^^ (x ^^^ y) = y := by rw [← BitVec.xor_assoc, BitVec.xor_self, BitVec.zero_xor]
theorem arm_b (c : BitVec 16) : (if bI c < 32768 then 2 * bI c else 131071 - 2 * bI c) = bI (fb c) := by
  unfold bI
  rw [fb_toNat]
  unfold fN
  have := c.isLt
  split <;> split <;> omega
theorem rowZ_b (x y z : BitVec 16) : rowZ (bI x) (bI y) (bI z) = bI ((x ^^^ y) ^^^ fb (y ^^^ z)) := by
  unfold rowZ
  rw [bI_xor, bI_xor, arm_b, bI_xor]
theorem rows_ok' {a b c d : Int} (ha : U16 a) (hb : U16 b) (hc : U16 c) (hd : U16 d) :
    (U16 (rowZ 0 0 a) ∧ U16 (rowZ 0 a b) ∧ U16 (rowZ a b c) ∧ U16 (rowZ b c d) ∧ U16 (rowZ c d 0) ∧ U16 (rowZ d 0 0)) ∧
    sumP (rowZ 0 0 a) (rowZ 0 a b) (rowZ a b c) (rowZ b c d) (rowZ c d 0) (rowZ d 0 0) = 0 ∧
    sumF (rowZ 0 0 a) (rowZ 0 a b) (rowZ a b c) (rowZ b c d) (rowZ c d 0) (rowZ d 0 0) = 0 := by
  obtain ⟨a, rfl⟩ := bI_of ha
  obtain ⟨b, rfl⟩ := bI_of hb
  obtain ⟨c, rfl⟩ := bI_of hc
  obtain ⟨d, rfl⟩ := bI_of hd
  rw [bI_zero]
  simp only [rowZ_b]
  refine ⟨⟨u16_bI _, u16_bI _, u16_bI _, u16_bI _, u16_bI _, u16_bI _⟩, ?_, ?_⟩
  · unfold sumP
    rw [bI_zero]
    simp only [bI_xor, fb_xor, fb_zero, BitVec.xor_zero, BitVec.zero_xor, BitVec.xor_assoc]
    congr 1
    simp only [BitVec.xor_comm, xlc, xsl, BitVec.xor_self, BitVec.xor_zero]
  · unfold sumF
    rw [bI_zero]
    simp only [bI_xor, bI_fold, fb_xor, fb_zero, BitVec.xor_zero, BitVec.zero_xor, BitVec.xor_assoc]
    congr 1
    simp only [BitVec.xor_comm, xlc, xsl, BitVec.xor_self, BitVec.xor_zero]
end Mine
end

section
open PySem PySem.W PyProof.Rows PySem.Spec PySem.Calls
set_option Elab.async false
set_option maxRecDepth 100000
set_option linter.unusedVariables false
namespace Mine
def PA (i j : Int) (k : Nat) (r : Int) (v : Value) : Prop := (((k : Int) = i ∨ (k : Int) = j) ∧ v = .none) ∨ (¬ ((k : Int) = i ∨ (k : Int) = j) ∧ ∃ t, v = .int r t)
theorem pa_is {M : Model} {A : Around} {Q : Value → Shared → Prop} {E : Value → Shared → Prop} {s : Shared} {v : Value} {i j r : Int} {k : Nat} (h : PA i j k r v)
    (h1 : ((k : Int) = i ∨ (k : Int) = j) → wpAny M A (compareOp .Is .none .none) Q E s) (h2 : ∀ t, ¬ ((k : Int) = i ∨ (k : Int) = j) → wpAny M A (compareOp .Is (.int r t) .none) Q E s) : wpAny M A (compareOp .Is v .none) Q E s := by
  rcases h with ⟨hb, rfl⟩ | ⟨hb, t, rfl⟩
  · exact h1 hb
  · exact h2 t hb
theorem gaps_snoc {ys : List Value} {zs : List Int} {k : Nat} (h : IntsAre ys zs) (t : Tok) : IntsAre (ys ++ [.int (0 + (k : Int)) t]) (zs ++ [(k : Int)]) := by
  rw [Int.zero_add]
  induction h with
  | nil => exact .cons _ _ .nil
  | cons a b _ ih => exact .cons a b ih
def gapsZ (i j : Int) : Nat → List Int
  | 0 => []
  | k + 1 => if (k : Int) = i ∨ (k : Int) = j then gapsZ i j k ++ [(k : Int)] else gapsZ i j k
theorem gaps_eq {i j : Int} (h0 : 0 ≤ i) (hij : i ≤ j) (h6 : j < 6) : gapsZ i j 6 = if i = j then [i] else [i, j] := by
  have hi : i = 0 ∨ i = 1 ∨ i = 2 ∨ i = 3 ∨ i = 4 ∨ i = 5 := by omega
  have hj : j = 0 ∨ j = 1 ∨ j = 2 ∨ j = 3 ∨ j = 4 ∨ j = 5 := by omega
  rcases hi with rfl | rfl | rfl | rfl | rfl | rfl <;> rcases hj with rfl | rfl | rfl | rfl | rfl | rfl <;> first | decide | omega
theorem gaps_all {i j : Int} (h0 : 0 ≤ i) (hij : i ≤ j) (h6 : j < 6) {ys : List Value} (h : IntsAre ys (gapsZ i j 6)) : ∃ ta tb, ys[0]? = some (.int i ta) ∧ ys[((-1 : Int) + (ys.length : Int)).toNat]? = some (.int j tb) ∧ (1 : Int) ≤ (ys.length : Int) ∧ ys.length ≤ 2 := by
  rw [gaps_eq h0 hij h6] at h
  by_cases e : i = j
  · rw [if_pos e] at h
    subst e
    cases h with
    | cons _ t h => cases h with
      | nil => exact ⟨t, t, rfl, rfl, by simp, by simp⟩
  · rw [if_neg e] at h
    cases h with
    | cons _ t h => cases h with
      | cons _ t' h => cases h with
        | nil => exact ⟨t, t', rfl, rfl, by simp, by simp⟩
def pz (i j : Int) (k : Nat) (r : Int) : Int := if (k : Int) = i ∨ (k : Int) = j then 0 else r
theorem pa_port {i j r : Int} {k : Nat} {v : Value} (h : PA i j k r v) : PortIs v (pz i j k r) := by
  rcases h with ⟨hb, rfl⟩ | ⟨hb, t, rfl⟩
  · exact .inl ⟨rfl, if_pos hb⟩
  · exact .inr ⟨t, by unfold pz; rw [if_neg hb]⟩
theorem u16_pz {i j r : Int} {k : Nat} (h : U16 r) : U16 (pz i j k r) := by
  unfold pz
  split
  · exact u16_zero
  · exact h
def itZ : Nat → Int → Int
  | 0, x => x
  | k + 1, x => foldZ (itZ k x)
theorem u16_it {x : Int} (h : U16 x) : ∀ k, U16 (itZ k x)
  | 0 => h
  | k + 1 => u16_fold (u16_it h k)
def turnsZ (x : Int) : Nat → List Int
  | 0 => [x]
  | k + 1 => turnsZ x k ++ [itZ (k + 1) x]
theorem turnsZ_len (x : Int) : ∀ k, (turnsZ x k).length = k + 1
  | 0 => rfl
  | k + 1 => by rw [turnsZ, List.length_append, turnsZ_len x k]; rfl
theorem ints_snoc {ys : List Value} {zs : List Int} {a : Int} (h : IntsAre ys zs) (t : Tok) : IntsAre (ys ++ [.int a t]) (zs ++ [a]) := by
  induction h with
  | nil => exact .cons _ _ .nil
  | cons a b _ ih => exact .cons a b ih
theorem turns_get (x : Int) : ∀ k, (turnsZ x k).getD k 0 = itZ k x
  | 0 => rfl
  | k + 1 => by
    rw [turnsZ, List.getD_eq_getElem?_getD, List.getElem?_append_right (by rw [turnsZ_len]; exact Nat.le_refl _), turnsZ_len, Nat.sub_self]
    rfl
theorem turns_last {x : Int} {k : Nat} {ys : Array Value} (h : IntsAre ys.toList (turnsZ x k)) : ∃ t, ys[((-1 : Int) + (ys.size : Int)).toNat]? = some (.int (itZ k x) t) ∧ ys.size = k + 1 := by
  have hl := h.length
  rw [turnsZ_len, Array.length_toList] at hl
  obtain ⟨t, ht⟩ := ints_at h (k := k) (by rw [turnsZ_len]; exact Nat.lt_succ_self _)
  refine ⟨t, ?_, hl⟩
  rw [show ((-1 : Int) + (ys.size : Int)).toNat = k by omega, ← Array.getElem?_toList, ht, turns_get]
theorem turns_push {x : Int} {k : Nat} {ys : Array Value} (h : IntsAre ys.toList (turnsZ x k)) (t : Tok) : IntsAre (ys.push (.int (foldZ (itZ k x)) t)).toList (turnsZ x (k + 1)) := by
  rw [Array.toList_push, turnsZ]
  exact ints_snoc h t
abbrev gZ (i j S odd : Int) : Int := (turnsZ S 16).getD (((j - i) * odd - i).fmod 17).toNat 0
def lateN (i j S : Int) : Nat → Int
  | 0 => 0
  | k + 1 => Builtin.bitXor (lateN i j S k) (gZ i j S (1 + 2 * (k : Int)))
abbrev lateZ (i j S : Int) : Int := Builtin.bitXor (Builtin.bitXor (Builtin.bitXor (Builtin.bitXor (Builtin.bitXor (Builtin.bitXor (Builtin.bitXor (Builtin.bitXor 0 (gZ i j S 1)) (gZ i j S 3)) (gZ i j S 5)) (gZ i j S 7)) (gZ i j S 9)) (gZ i j S 11)) (gZ i j S 13)) (gZ i j S 15)
abbrev keptP (i j r0 r1 r2 r3 r4 r5 : Int) : Int := sumP (pz i j 0 r0) (pz i j 1 r1) (pz i j 2 r2) (pz i j 3 r3) (pz i j 4 r4) (pz i j 5 r5)
abbrev keptF (i j r0 r1 r2 r3 r4 r5 : Int) : Int := sumF (pz i j 0 r0) (pz i j 1 r1) (pz i j 2 r2) (pz i j 3 r3) (pz i j 4 r4) (pz i j 5 r5)
abbrev lateR (i j r0 r1 r2 r3 r4 r5 : Int) : Int := lateZ i j (Builtin.bitXor (keptF i j r0 r1 r2 r3 r4 r5) (itZ (i - 0).toNat (keptP i j r0 r1 r2 r3 r4 r5)))
theorem eight_at {v0 v1 v2 v3 v4 v5 v6 v7 : Value} {kz : Nat → Int} {t0 t1 t2 t3 t4 t5 t6 t7 : Tok} (e0 : v0 = .int (kz 0) t0) (e1 : v1 = .int (kz 1) t1) (e2 : v2 = .int (kz 2) t2) (e3 : v3 = .int (kz 3) t3) (e4 : v4 = .int (kz 4) t4) (e5 : v5 = .int (kz 5) t5) (e6 : v6 = .int (kz 6) t6) (e7 : v7 = .int (kz 7) t7) : ∀ i, i < 8 → ∃ t, [v0, v1, v2, v3, v4, v5, v6, v7][i]? = some (.int (kz i) t)
  | 0, _ => ⟨_, congrArg some e0⟩
  | 1, _ => ⟨_, congrArg some e1⟩
  | 2, _ => ⟨_, congrArg some e2⟩
  | 3, _ => ⟨_, congrArg some e3⟩
  | 4, _ => ⟨_, congrArg some e4⟩
  | 5, _ => ⟨_, congrArg some e5⟩
  | 6, _ => ⟨_, congrArg some e6⟩
  | 7, _ => ⟨_, congrArg some e7⟩
end Mine
end

section
open PySem PySem.W PyProof.Rows
set_option Elab.async false
namespace Mine
def itB : Nat → BitVec 16 → BitVec 16
  | 0, x => x
  | k + 1, x => fb (itB k x)
theorem itB_xor (k : Nat) (x y : BitVec 16) : itB k (x ^^^ y) = itB k x ^^^ itB k y := by
  induction k with
  | zero => rfl
  | succ k ih => show fb _ = _; rw [ih, fb_xor]; rfl
theorem itB_zero (k : Nat) : itB k 0#16 = 0#16 := by
  induction k with
  | zero => rfl
  | succ k ih => show fb _ = _; rw [ih, fb_zero]
theorem itB_add (a b : Nat) (x : BitVec 16) : itB (a + b) x = itB a (itB b x) := by
  induction a with
  | zero => rw [Nat.zero_add]; rfl
  | succ a ih => rw [Nat.succ_add]; show fb _ = fb _; rw [ih]
theorem bI_it (k : Nat) (x : BitVec 16) : itZ k (bI x) = bI (itB k x) := by
  induction k with
  | zero => rfl
  | succ k ih => show foldZ _ = _; rw [ih, bI_fold]; rfl
theorem turns_at (x : Int) : ∀ n k, k ≤ n → (turnsZ x n).getD k 0 = itZ k x
  | 0, k, h => by
    have : k = 0 := by omega
    subst this; rfl
  | n + 1, k, h => by
    rw [turnsZ, List.getD_eq_getElem?_getD]
    by_cases hk : k ≤ n
    · rw [List.getElem?_append_left (by rw [turnsZ_len]; omega), ← List.getD_eq_getElem?_getD]
      exact turns_at x n k hk
    · have : k = n + 1 := by omega
      subst this
      rw [List.getElem?_append_right (by rw [turnsZ_len]; exact Nat.le_refl _), turnsZ_len, Nat.sub_self]
      rfl
theorem nat_basis {n : Nat} {x : Nat} (h1 : 2 ^ n ≤ x) (h2 : x < 2 ^ (n + 1)) : x ^^^ 2 ^ n < 2 ^ n := by
  apply Nat.lt_pow_two_of_testBit
  intro i hi
  rw [Nat.testBit_xor, Nat.testBit_two_pow]
  by_cases e : n = i
  · subst e
    have : x.testBit n = true := by
      rw [Nat.testBit_eq_decide_div_mod_eq]
      apply decide_eq_true
      have hp : 0 < 2 ^ n := Nat.two_pow_pos n
      have h3 : x / 2 ^ n = 1 := by
        have a1 : 1 ≤ x / 2 ^ n := (Nat.le_div_iff_mul_le hp).mpr (by omega)
        have a2 : x / 2 ^ n < 2 := (Nat.div_lt_iff_lt_mul hp).mpr (by rw [Nat.pow_succ] at h2; omega)
        omega
      rw [h3]
    rw [this, decide_eq_true rfl]; rfl
  · rw [decide_eq_false e, Nat.testBit_lt_two_pow (Nat.lt_of_lt_of_le h2 (Nat.pow_le_pow_right (by decide) (by omega)))]; rfl
theorem lin_id {f : BitVec 16 → BitVec 16} (hf : ∀ x y, f (x ^^^ y) = f x ^^^ f y) (h0 : f 0#16 = 0#16) (hb : ∀ k, k < 16 → f (BitVec.ofNat 16 (2 ^ k)) = BitVec.ofNat 16 (2 ^ k)) (x : BitVec 16) : f x = x := by
  have key : ∀ n, n ≤ 16 → ∀ x : BitVec 16, x.toNat < 2 ^ n → f x = x := by
    intro n
    induction n with
    | zero =>
      intro _ x hx
      have : x = 0#16 := BitVec.eq_of_toNat_eq (by simpa using hx)
      rw [this, h0]
    | succ n ih =>
      intro hn x hx
      by_cases hl : x.toNat < 2 ^ n
      · exact ih (by omega) x hl
      · have hp : 2 ^ n < 2 ^ 16 := Nat.pow_lt_pow_right (by decide) (by omega)
        have e : x = (x ^^^ BitVec.ofNat 16 (2 ^ n)) ^^^ BitVec.ofNat 16 (2 ^ n) := by rw [BitVec.xor_assoc, BitVec.xor_self, BitVec.xor_zero]
        have hy : (x ^^^ BitVec.ofNat 16 (2 ^ n)).toNat < 2 ^ n := by
          rw [BitVec.toNat_xor, BitVec.toNat_ofNat, Nat.mod_eq_of_lt hp]
          exact nat_basis (by omega) hx
        rw [e, hf, ih (by omega) _ hy, hb n (by omega)]
  exact key 16 (Nat.le_refl _) x x.isLt
def exB (i j odd : Nat) : Nat := (((j : Int) - (i : Int)) * (odd : Int) - (i : Int)).fmod 17 |>.toNat
def lateB (i j : Nat) (S : BitVec 16) : BitVec 16 := itB (exB i j 1) S ^^^ itB (exB i j 3) S ^^^ itB (exB i j 5) S ^^^ itB (exB i j 7) S ^^^ itB (exB i j 9) S ^^^ itB (exB i j 11) S ^^^ itB (exB i j 13) S ^^^ itB (exB i j 15) S
theorem lateB_xor (i j : Nat) (x y : BitVec 16) : lateB i j (x ^^^ y) = lateB i j x ^^^ lateB i j y := by
  unfold lateB
  simp only [itB_xor]
  generalize itB (exB i j 1) x = a1
  generalize itB (exB i j 3) x = a2
  generalize itB (exB i j 5) x = a3
  generalize itB (exB i j 7) x = a4
  generalize itB (exB i j 9) x = a5
  generalize itB (exB i j 11) x = a6
  generalize itB (exB i j 13) x = a7
  generalize itB (exB i j 15) x = a8
  simp only [BitVec.xor_assoc]
  simp only [BitVec.xor_comm, xlc]
theorem lateB_zero (i j : Nat) : lateB i j 0#16 = 0#16 := by
  unfold lateB
  simp only [itB_zero, BitVec.xor_zero]
theorem late_basis : ∀ j, j < 6 → ∀ i, i < j → ∀ k, k < 16 → lateB i j (itB i (itB (j - i) (BitVec.ofNat 16 (2 ^ k)) ^^^ BitVec.ofNat 16 (2 ^ k))) = BitVec.ofNat 16 (2 ^ k) := by decide +kernel
theorem late_ok {i j : Nat} (hij : i < j) (hj : j < 6) (y : BitVec 16) : lateB i j (itB i (itB (j - i) y ^^^ y)) = y := by
  refine lin_id (f := fun y => lateB i j (itB i (itB (j - i) y ^^^ y))) ?_ ?_ (late_basis j hj i hij) y
  · intro x y
    simp only [itB_xor, lateB_xor, BitVec.xor_assoc]
    simp only [BitVec.xor_comm, xlc]
  · simp only [itB_zero, BitVec.xor_zero, lateB_zero]
end Mine
end

section
open PySem PySem.W PyProof.Rows
set_option Elab.async false
namespace Mine
theorem lateZ_b {i j : Nat} (S : BitVec 16) : lateZ (i : Int) (j : Int) (bI S) = bI (lateB i j S) := by
  have g : ∀ odd : Nat, gZ (i : Int) (j : Int) (bI S) (odd : Int) = bI (itB (exB i j odd) S) := by
    intro odd
    have h0 : 0 ≤ (((j : Int) - (i : Int)) * (odd : Int) - (i : Int)).fmod 17 := fmod_lo _ (by decide)
    have h1 : (((j : Int) - (i : Int)) * (odd : Int) - (i : Int)).fmod 17 < 17 := fmod_hi _ (by decide)
    show (turnsZ (bI S) 16).getD _ 0 = _
    rw [turns_at _ _ _ (by omega), bI_it]
    rfl
  have g1 := g 1
  have g3 := g 3
  have g5 := g 5
  have g7 := g 7
  have g9 := g 9
  have g11 := g 11
  have g13 := g 13
  have g15 := g 15
  show Builtin.bitXor (Builtin.bitXor (Builtin.bitXor (Builtin.bitXor (Builtin.bitXor (Builtin.bitXor (Builtin.bitXor (Builtin.bitXor 0 (gZ i j (bI S) ((1 : Nat) : Int))) (gZ i j (bI S) ((3 : Nat) : Int))) (gZ i j (bI S) ((5 : Nat) : Int))) (gZ i j (bI S) ((7 : Nat) : Int))) (gZ i j (bI S) ((9 : Nat) : Int))) (gZ i j (bI S) ((11 : Nat) : Int))) (gZ i j (bI S) ((13 : Nat) : Int))) (gZ i j (bI S) ((15 : Nat) : Int)) = _
  rw [g1, g3, g5, g7, g9, g11, g13, g15, bI_zero]
  simp only [bI_xor, BitVec.zero_xor]
  rfl
theorem eq_of_xor {a b : BitVec 16} (h : a ^^^ b = 0#16) : a = b := by
  have e : (a ^^^ b) ^^^ b = 0#16 ^^^ b := by rw [h]
  rw [BitVec.xor_assoc, BitVec.xor_self, BitVec.xor_zero, BitVec.zero_xor] at e
  exact e
section
variable {x0 x1 x2 x3 x4 x5 : BitVec 16}
def PB (x0 x1 x2 x3 x4 x5 : BitVec 16) : BitVec 16 := x5 ^^^ x4 ^^^ x3 ^^^ x2 ^^^ x1 ^^^ x0
def FB (x0 x1 x2 x3 x4 x5 : BitVec 16) : BitVec 16 := fb (fb (fb (fb (fb x5 ^^^ x4) ^^^ x3) ^^^ x2) ^^^ x1) ^^^ x0
theorem sumP_b : sumP (bI x0) (bI x1) (bI x2) (bI x3) (bI x4) (bI x5) = bI (PB x0 x1 x2 x3 x4 x5) := by
  unfold sumP PB
  rw [bI_zero]
  simp only [bI_xor, BitVec.zero_xor]
theorem sumF_b : sumF (bI x0) (bI x1) (bI x2) (bI x3) (bI x4) (bI x5) = bI (FB x0 x1 x2 x3 x4 x5) := by
  unfold sumF FB
  rw [bI_zero]
  simp only [bI_xor, bI_fold, BitVec.zero_xor, fb_zero]
def zB (i j k : Nat) (x : BitVec 16) : BitVec 16 := if k = i ∨ k = j then 0#16 else x
theorem pz_b (i j k : Nat) (x : BitVec 16) : pz (i : Int) (j : Int) k (bI x) = bI (zB i j k x) := by
  unfold pz zB
  by_cases h : k = i ∨ k = j
  · rw [if_pos h, if_pos (by omega)]; rfl
  · rw [if_neg h, if_neg (by omega)]
end
def dB (i j k : Nat) (x : BitVec 16) : BitVec 16 := if k = i ∨ k = j then x else 0#16
theorem xzd (i j k : Nat) (x : BitVec 16) : zB i j k x = x ^^^ dB i j k x := by
  unfold zB dB
  by_cases h : k = i ∨ k = j
  · rw [if_pos h, if_pos h, BitVec.xor_self]
  · rw [if_neg h, if_neg h, BitVec.xor_zero]
theorem xx4 (a b c d : BitVec 16) : (a ^^^ b) ^^^ (c ^^^ d) = (a ^^^ c) ^^^ (b ^^^ d) := by rw [BitVec.xor_assoc, xlc b c d, ← BitVec.xor_assoc]
theorem PB_x (a b c d e f a' b' c' d' e' f' : BitVec 16) : PB (a ^^^ a') (b ^^^ b') (c ^^^ c') (d ^^^ d') (e ^^^ e') (f ^^^ f') = PB a b c d e f ^^^ PB a' b' c' d' e' f' := by
  unfold PB
  rw [xx4 f f' e e', xx4 (f ^^^ e) (f' ^^^ e') d d', xx4 (f ^^^ e ^^^ d) (f' ^^^ e' ^^^ d') c c', xx4 (f ^^^ e ^^^ d ^^^ c) (f' ^^^ e' ^^^ d' ^^^ c') b b', xx4 (f ^^^ e ^^^ d ^^^ c ^^^ b) (f' ^^^ e' ^^^ d' ^^^ c' ^^^ b') a a']
theorem FB_x (a b c d e f a' b' c' d' e' f' : BitVec 16) : FB (a ^^^ a') (b ^^^ b') (c ^^^ c') (d ^^^ d') (e ^^^ e') (f ^^^ f') = FB a b c d e f ^^^ FB a' b' c' d' e' f' := by
  unfold FB
  rw [fb_xor f f', xx4 (fb f) (fb f') e e', fb_xor (fb f ^^^ e) (fb f' ^^^ e'), xx4 _ _ d d', fb_xor (fb (fb f ^^^ e) ^^^ d) (fb (fb f' ^^^ e') ^^^ d'), xx4 _ _ c c', fb_xor (fb (fb (fb f ^^^ e) ^^^ d) ^^^ c) (fb (fb (fb f' ^^^ e') ^^^ d') ^^^ c'), xx4 _ _ b b',
    fb_xor (fb (fb (fb (fb f ^^^ e) ^^^ d) ^^^ c) ^^^ b) (fb (fb (fb (fb f' ^^^ e') ^^^ d') ^^^ c') ^^^ b'), xx4 _ _ a a']
theorem FB_s (a b c d e f : BitVec 16) : FB a b c d e f = itB 5 f ^^^ itB 4 e ^^^ itB 3 d ^^^ itB 2 c ^^^ itB 1 b ^^^ itB 0 a := by
  unfold FB
  rw [fb_xor, fb_xor, fb_xor, fb_xor, fb_xor, fb_xor, fb_xor, fb_xor, fb_xor, fb_xor]
  rfl
theorem xz0 (x : BitVec 16) : 0#16 ^^^ x = x := BitVec.zero_xor
theorem xzr (x : BitVec 16) : x ^^^ 0#16 = x := BitVec.xor_zero
section
variable {x0 x1 x2 x3 x4 x5 : BitVec 16}
theorem kept_b {i j : Nat} (hij : i ≤ j) (hj : j < 6) (hP : PB x0 x1 x2 x3 x4 x5 = 0#16) (hF : FB x0 x1 x2 x3 x4 x5 = 0#16) :
    (i < j → PB (zB i j 0 x0) (zB i j 1 x1) (zB i j 2 x2) (zB i j 3 x3) (zB i j 4 x4) (zB i j 5 x5) = [x0, x1, x2, x3, x4, x5].getD i 0#16 ^^^ [x0, x1, x2, x3, x4, x5].getD j 0#16 ∧
      FB (zB i j 0 x0) (zB i j 1 x1) (zB i j 2 x2) (zB i j 3 x3) (zB i j 4 x4) (zB i j 5 x5) = itB i ([x0, x1, x2, x3, x4, x5].getD i 0#16) ^^^ itB j ([x0, x1, x2, x3, x4, x5].getD j 0#16)) ∧
    (i = j → PB (zB i j 0 x0) (zB i j 1 x1) (zB i j 2 x2) (zB i j 3 x3) (zB i j 4 x4) (zB i j 5 x5) = [x0, x1, x2, x3, x4, x5].getD i 0#16 ∧
      FB (zB i j 0 x0) (zB i j 1 x1) (zB i j 2 x2) (zB i j 3 x3) (zB i j 4 x4) (zB i j 5 x5) = itB i ([x0, x1, x2, x3, x4, x5].getD i 0#16)) := by
  rw [xzd i j 0, xzd i j 1, xzd i j 2, xzd i j 3, xzd i j 4, xzd i j 5, PB_x, FB_x, hP, hF, xz0, xz0, FB_s]
  clear hP hF
  have hj' : j = 0 ∨ j = 1 ∨ j = 2 ∨ j = 3 ∨ j = 4 ∨ j = 5 := by omega
  have hi' : i = 0 ∨ i = 1 ∨ i = 2 ∨ i = 3 ∨ i = 4 ∨ i = 5 := by omega
  rcases hj' with rfl | rfl | rfl | rfl | rfl | rfl <;> rcases hi' with rfl | rfl | rfl | rfl | rfl | rfl <;>
    (first | (exfalso; omega) | skip) <;>
    (refine ⟨fun _ => ⟨?_, ?_⟩, fun _ => ⟨?_, ?_⟩⟩ <;> first | (exfalso; omega) | skip) <;>
    first
    | (simp only [PB, dB, itB_zero, xz0, xzr, List.getD_cons_zero, List.getD_cons_succ, Nat.reduceEqDiff, or_true, true_or, or_self, or_false, false_or, if_true, if_false, reduceCtorEq, OfNat.ofNat_ne_zero, zero_ne_one, one_ne_zero]; done)
    | (simp [PB, dB, itB_zero]; done)
    | (simp [PB, dB, itB_zero, BitVec.xor_comm]; done)
end
end Mine
end

section
open PySem PySem.W PyProof.Rows
set_option Elab.async false
namespace Mine
section
variable {x0 x1 x2 x3 x4 x5 : BitVec 16} {i j : Nat}
theorem keptP_b : keptP (i : Int) (j : Int) (bI x0) (bI x1) (bI x2) (bI x3) (bI x4) (bI x5) = bI (PB (zB i j 0 x0) (zB i j 1 x1) (zB i j 2 x2) (zB i j 3 x3) (zB i j 4 x4) (zB i j 5 x5)) := by
  unfold keptP
  rw [pz_b, pz_b, pz_b, pz_b, pz_b, pz_b, sumP_b]
theorem keptF_b : keptF (i : Int) (j : Int) (bI x0) (bI x1) (bI x2) (bI x3) (bI x4) (bI x5) = bI (FB (zB i j 0 x0) (zB i j 1 x1) (zB i j 2 x2) (zB i j 3 x3) (zB i j 4 x4) (zB i j 5 x5)) := by
  unfold keptF
  rw [pz_b, pz_b, pz_b, pz_b, pz_b, pz_b, sumF_b]
theorem lateR_b : lateR (i : Int) (j : Int) (bI x0) (bI x1) (bI x2) (bI x3) (bI x4) (bI x5) = bI (lateB i j (FB (zB i j 0 x0) (zB i j 1 x1) (zB i j 2 x2) (zB i j 3 x3) (zB i j 4 x4) (zB i j 5 x5) ^^^ itB i (PB (zB i j 0 x0) (zB i j 1 x1) (zB i j 2 x2) (zB i j 3 x3) (zB i j 4 x4) (zB i j 5 x5)))) := by
  unfold lateR
  rw [keptP_b, keptF_b]
  have e : ((i : Int) - 0).toNat = i := by omega
  rw [e, bI_it, bI_xor, lateZ_b]
theorem late_lt (hij : i < j) (hj : j < 6) (hP : PB x0 x1 x2 x3 x4 x5 = 0#16) (hF : FB x0 x1 x2 x3 x4 x5 = 0#16) :
    lateR (i : Int) (j : Int) (bI x0) (bI x1) (bI x2) (bI x3) (bI x4) (bI x5) = bI ([x0, x1, x2, x3, x4, x5].getD j 0#16) ∧
    Builtin.bitXor (keptP (i : Int) (j : Int) (bI x0) (bI x1) (bI x2) (bI x3) (bI x4) (bI x5)) (lateR (i : Int) (j : Int) (bI x0) (bI x1) (bI x2) (bI x3) (bI x4) (bI x5)) = bI ([x0, x1, x2, x3, x4, x5].getD i 0#16) := by
  obtain ⟨h1, h2⟩ := (kept_b (Nat.le_of_lt hij) hj hP hF).1 hij
  have e : lateR (i : Int) (j : Int) (bI x0) (bI x1) (bI x2) (bI x3) (bI x4) (bI x5) = bI ([x0, x1, x2, x3, x4, x5].getD j 0#16) := by
    rw [lateR_b, h1, h2]
    generalize [x0, x1, x2, x3, x4, x5].getD j 0#16 = y
    generalize [x0, x1, x2, x3, x4, x5].getD i 0#16 = x
    have e1 : itB i x ^^^ itB j y ^^^ itB i (x ^^^ y) = itB i (itB (j - i) y ^^^ y) := by
      rw [itB_xor, itB_xor, ← itB_add, Nat.add_sub_cancel' (Nat.le_of_lt hij), BitVec.xor_assoc, xlc (itB j y), xsl]
    rw [e1, late_ok hij hj]
  refine ⟨e, ?_⟩
  rw [e, keptP_b, h1, bI_xor, BitVec.xor_assoc, BitVec.xor_self, BitVec.xor_zero]
theorem late_eq (hij : i = j) (hj : j < 6) (hP : PB x0 x1 x2 x3 x4 x5 = 0#16) (hF : FB x0 x1 x2 x3 x4 x5 = 0#16) :
    Builtin.bitXor (keptP (i : Int) (j : Int) (bI x0) (bI x1) (bI x2) (bI x3) (bI x4) (bI x5)) (lateR (i : Int) (j : Int) (bI x0) (bI x1) (bI x2) (bI x3) (bI x4) (bI x5)) = bI ([x0, x1, x2, x3, x4, x5].getD i 0#16) := by
  obtain ⟨h1, h2⟩ := (kept_b (Nat.le_of_eq hij) hj hP hF).2 hij
  rw [lateR_b, h1, h2, BitVec.xor_self, lateB_zero, keptP_b, h1, bI_xor, BitVec.xor_zero]
end
theorem mend_ok' {v0 v1 v2 v3 v4 v5 : Value} {r0 r1 r2 r3 r4 r5 i j : Int} (w0 : U16 r0) (w1 : U16 r1) (w2 : U16 r2) (w3 : U16 r3) (w4 : U16 r4) (w5 : U16 r5) (hP : sumP r0 r1 r2 r3 r4 r5 = 0) (hF : sumF r0 r1 r2 r3 r4 r5 = 0)
    (hi0 : 0 ≤ i) (hij : i ≤ j) (hj6 : j < 6) (q0 : PA i j 0 r0 v0) (q1 : PA i j 1 r1 v1) (q2 : PA i j 2 r2 v2) (q3 : PA i j 3 r3 v3) (q4 : PA i j 4 r4 v4) (q5 : PA i j 5 r5 v5) (t u : Tok) :
    IntsAre ((#[v0, v1, v2, v3, v4, v5].setIfInBounds j.toNat (.int (lateR i j r0 r1 r2 r3 r4 r5) t)).setIfInBounds i.toNat (.int (Builtin.bitXor (keptP i j r0 r1 r2 r3 r4 r5) (lateR i j r0 r1 r2 r3 r4 r5)) u)).toList [r0, r1, r2, r3, r4, r5] := by
  obtain ⟨x0, rfl⟩ := bI_of w0
  obtain ⟨x1, rfl⟩ := bI_of w1
  obtain ⟨x2, rfl⟩ := bI_of w2
  obtain ⟨x3, rfl⟩ := bI_of w3
  obtain ⟨x4, rfl⟩ := bI_of w4
  obtain ⟨x5, rfl⟩ := bI_of w5
  rw [sumP_b] at hP
  rw [sumF_b] at hF
  have hP' := bI_inj (hP.trans bI_zero)
  have hF' := bI_inj (hF.trans bI_zero)
  obtain ⟨i, rfl⟩ := Int.eq_ofNat_of_zero_le hi0
  obtain ⟨j, rfl⟩ := Int.eq_ofNat_of_zero_le (Int.le_trans hi0 hij)
  have hij' : i ≤ j := by omega
  have hj' : j < 6 := by omega
  have k1 : i < j → _ := fun h => late_lt h hj' hP' hF'
  have k2 : i = j → _ := fun h => late_eq h hj' hP' hF'
  generalize lateR (i : Int) (j : Int) (bI x0) (bI x1) (bI x2) (bI x3) (bI x4) (bI x5) = z at *
  generalize Builtin.bitXor (keptP (i : Int) (j : Int) (bI x0) (bI x1) (bI x2) (bI x3) (bI x4) (bI x5)) z = y at *
  have hj9 : j = 0 ∨ j = 1 ∨ j = 2 ∨ j = 3 ∨ j = 4 ∨ j = 5 := by omega
  have hi9 : i = 0 ∨ i = 1 ∨ i = 2 ∨ i = 3 ∨ i = 4 ∨ i = 5 := by omega
  have pick : ∀ {k : Nat} {r : Int} {v : Value}, PA (i : Int) (j : Int) k r v → ¬ (k = i ∨ k = j) → ∃ t, v = .int r t := by
    intro k r v h hn
    rcases h with ⟨h, _⟩ | ⟨_, h⟩
    · exact absurd h (by omega)
    · exact h
  have go : ∀ {v : Value} {r : Int}, (∃ t, v = .int r t) → ∀ {vs : List Value} {rs : List Int}, IntsAre vs rs → IntsAre (v :: vs) (r :: rs) := by
    rintro v r ⟨t, rfl⟩ vs rs h
    exact .cons _ _ h
  rcases hj9 with rfl | rfl | rfl | rfl | rfl | rfl <;> rcases hi9 with rfl | rfl | rfl | rfl | rfl | rfl <;>
    (first | (exfalso; omega) | skip) <;>
    (refine go ?_ (go ?_ (go ?_ (go ?_ (go ?_ (go ?_ .nil))))) <;> first | exact pick (by assumption) (by decide) | exact ⟨_, congrArg (Value.int · _) (k1 (by decide)).1⟩ | exact ⟨_, congrArg (Value.int · _) (k1 (by decide)).2⟩ | exact ⟨_, congrArg (Value.int · _) (k2 rfl)⟩)
end Mine
end

section
open PySem PySem.W PyProof.Rows PySem.Spec PySem.Calls
set_option Elab.async false
set_option maxRecDepth 100000
set_option linter.unusedVariables false
namespace Mine
theorem fill_now7 (w : World) (h : Heap) : (Mine.hd.heap_39 w.params).In h ∧ PySem.Challenge.rw_xo0002_01 = PySem.Challenge.rw_xo0002_01 → (Mine.hd.heap_39 w.params).In h := by
  k_fill
  exact fun x => x.1




theorem news_isListE {g h : Heap} {L' l : Addr} {vs ws : Array Value} {n : Nat} {led : List (Addr × Obj)} (e : vs = ws) (N : News g L' h led) (hm : (l, listOf vs n) ∈ led) : h.IsList l ws := e ▸ news_isList N hm
section
variable {w : World} {mean : ExcName → Option Value} {mg mb : Str → Option Value} {dp un : Nat} {gd : Option (List Code)} {cn : Str} {cs : Scope} {aa : Addr} {ccd : Value} {cl : List (Str × Addr)} {outer : List Env} {A₀ : Around} {base h₀ : Heap} {L : Addr} {m : Str → Option Value} {s : Shared} {Q E : Value → Shared → Prop} {news : List (Addr × Obj)}
set_option maxHeartbeats 4000000 in
theorem u_mended {v0 v1 v2 v3 v4 v5 : Value} {r0 r1 r2 r3 r4 r5 i j : Int} {l : Addr} {n : Nat} (B : Below A₀ base outer h₀) (F : Fr h₀ L s.heap m) (X : (Mine.hd.heap_39 w.params).In h₀) (N : News h₀ L s.heap news) (T : Top Mine.hd.view_39 (looseW Mine.hd.view_39 []) mean mg mb h₀) (hk : cs.kind = .function) (hd : dp + 4 < recursionLimit) (hu : un + 32 < cLine)
    (hsub : ∀ q ∈ ([(l, listOf #[v0, v1, v2, v3, v4, v5] n)] : List (Addr × Obj)), q ∈ news)
    (w0 : U16 r0) (w1 : U16 r1) (w2 : U16 r2) (w3 : U16 r3) (w4 : U16 r4) (w5 : U16 r5) (hi0 : 0 ≤ i) (hij : i ≤ j) (hj6 : j < 6) (q0 : PA i j 0 r0 v0) (q1 : PA i j 1 r1 v1) (q2 : PA i j 2 r2 v2) (q3 : PA i j 3 r3 v3) (q4 : PA i j 4 r4 v4) (q5 : PA i j 5 r5 v5)
    (hP : sumP r0 r1 r2 r3 r4 r5 = 0) (hF : sumF r0 r1 r2 r3 r4 r5 = 0)
    (hret : ∀ (D : Addr) (ws : Array Value) (n : Nat) (h' : Heap) (tk' : Nat), IntsAre ws.toList [r0, r1, r2, r3, r4, r5] → Fr h₀ L h' m → News h₀ L h' ((D, listOf ws n) :: news) → (∀ p ∈ news, p.1 < D) → Q (.ref D) { s with heap := h', toks := tk' }) :
    wpAny (model PySem.Challenge.rw_xo0002_01.row.prog w) (ktrTop dp un gd cn cs L aa ccd cl outer) (call (.ref 119) [.ref l]) Q E s := by
  obtain ⟨vs, hvs⟩ : ∃ vs : Array Value, vs = #[v0, v1, v2, v3, v4, v5] := ⟨_, rfl⟩
  rw [← hvs] at hsub
  obtain ⟨P, hPd⟩ : ∃ P, sumP (pz i j 0 r0) (pz i j 1 r1) (pz i j 2 r2) (pz i j 3 r3) (pz i j 4 r4) (pz i j 5 r5) = P := ⟨_, rfl⟩
  obtain ⟨Z, hZd⟩ : ∃ Z, sumF (pz i j 0 r0) (pz i j 1 r1) (pz i j 2 r2) (pz i j 3 r3) (pz i j 4 r4) (pz i j 5 r5) = Z := ⟨_, rfl⟩
  k_with_none
  w_top off
  refine wpAny_call ?_
  k_dflt (refine' code_ledC [(l, listOf vs n)] ?k1 ?k2 ?kN ?k3 ?k5 ?kA ?kF ?kK ?k6 ?k7 ?k8 ?k9 ?kB ?kD ?_ ?c2 ?c3 ?c4; (case kA => exact rfl); (case kF => exact rfl); (case kK => assumption); (case k1 => k_asm); (case k2 => k_asm); (case kN => exact fun q hq => N q (hsub q hq)); (case k3 => k_asm); (case k5 => k_asm); (case k6 => k_is); (case k7 => k_is); (case k8 => ktr_room); (case k9 => exact BindsTo.of_eq rfl); (case kB => exact rfl); (case kD => decide +kernel); (case c2 => exact rfl); (case c3 => exact rfl); (case c4 => exact rfl); k_whole; intro g' L' h' tk' cells' gE' gS' F' N' Y' B' X' T' l1; (try k_lt l1); k_cells Y'; (try simp only [List.cons_append, List.nil_append] at N'); (try dsimp only); (try k_fold))
  k_with_none
  k_with "call ref" => (k_here; k_dflt (first | (refine' u_ixor ?k1 ?k2 ?k3 ?k4 ?k5 ?kK ?kd ?ku ?_; (case k1 => k_asm); (case k2 => k_asm); (case k3 => k_asm); (case k4 => k_asm); (case k5 => k_asm); (case kK => first | exact rfl | assumption); (case kd => ktr_room); (case ku => ktr_units); intro t9k h9k tk9k F9k N9k; (try dsimp only); (try k_sweep); (try k_fold)) | (refine' u_sums ?k1 ?k2 ?k3 ?k4 ?k5 ?kK ?kd ?ku ?kl ?i0 ?i1 ?i2 ?i3 ?i4 ?i5 ?b0 ?b1 ?b2 ?b3 ?b4 ?b5 ?_; (case k1 => k_asm); (case k2 => k_asm); (case k3 => k_asm); (case k4 => k_asm); (case k5 => k_asm); (case kK => first | exact rfl | assumption); (case kd => ktr_room); (case ku => ktr_units); (case kl => k_extra "sumslist"); (case i0 => k_extra "port"); (case i1 => k_extra "port"); (case i2 => k_extra "port"); (case i3 => k_extra "port"); (case i4 => k_extra "port"); (case i5 => k_extra "port"); (case b0 => k_extra "foldarg"); (case b1 => k_extra "foldarg"); (case b2 => k_extra "foldarg"); (case b3 => k_extra "foldarg"); (case b4 => k_extra "foldarg"); (case b5 => k_extra "foldarg"); intro D9k t91k t92k n9k h9k tk9k F9k N9k l9k; rw [hPd, hZd] at N9k; (try dsimp only); (try k_lt l9k); (try k_sweep); (try k_fold)) | (refine' u_fold ?k1 ?k2 ?k3 ?k4 ?k5 ?kK ?kd ?ku ?ka ?_; (case k1 => k_asm); (case k2 => k_asm); (case k3 => k_asm); (case k4 => k_asm); (case k5 => k_asm); (case kK => first | exact rfl | assumption); (case kd => ktr_room); (case ku => ktr_units); (case ka => k_extra "foldarg"); intro t9k h9k tk9k F9k N9k; (try dsimp only); (try k_sweep); (try k_fold))))
  k_with "newList" => (k_here; k_dflt (refine' newList_K2 ?k1 ?k2 ?_; (case k1 => k_asm); (case k2 => k_asm); k_whole); intro lqk hqk Fqk Nqk l1k l2k; (try k_lt l1k); (try k_lt2 l2k); (try k_sweep))
  k_with "newTuple" => (k_here; k_dflt (refine' newTuple_K2 ?F ?N ?_ ?z; (case F => k_asm); (case N => k_asm); (case z => kmk_size)); intro Dqk hqk Fqk Nqk l1k l2k; (try k_lt l1k); (try k_lt2 l2k); (try k_sweep))
  k_with "ItemsRest" => (k_here; (k_dflt (k_extra "items")))
  k_with "ItEnd" => (k_here; (k_dflt (k_extra "itend")))
  k_with "exec Assign cons ListComp" => (k_here; lct_look; k_dflt (refine LCt.Assign_ListComp_T (F₀ := by k_asm) (by rfl) (by with_unfolding_all rfl) (by with_unfolding_all rfl) (by decide) (by rfl) (by decide) (by rfl) (by rfl) (by rfl) ?_); k_dflt lct_toSrc)
  k_with "compareOp Is" => (k_here; refine pa_is (by assumption) (fun hbqk => ?_) (fun tqk hbqk => ?_))
  k_with "subscriptTail Name Name ref int" => (k_here; (k_dflt (refine' item_led ?k1 ?k2 ?k3 ?k4 ?k5 ?_ ?k6; (case k1 => k_asm); (case k2 => k_mem); (case k3 => omega); (case k4 => omega); (case k5 => k_extra "itemval"); (case k6 => with_unfolding_all rfl); k_whole)))
  k_with "subscriptTail Name Constant ref int" => (k_here; (k_dflt (k_extra "item0")))
  k_with "subscriptTail Name UnaryOp ref int" => (k_here; (k_dflt (k_extra "itemneg")))
  k_with "exec For Name Call cons nil" => (k_here; (rename Fr _ _ _ _ => lFqk); (with_unfolding_all refine' For_invVF lFqk ?k1 ?k2 ?_; (case k1 => exact rfl); (case k2 => exact rfl); k_whole))
  k_with "pyIter ref" => (k_here; (with_reducible show wpAny _ _ (pyIter (Value.ref _)) (fun itk s₂k => LoopAtV _ _ _ _ _ _ _ _ _ itk s₂k) _ _); (k_dflt (k_extra "rangeiter")))
  k_with "FrEnd" => (k_here; (k_dflt (k_extra "frend")))
  k_with "LsEnd" => (k_here; (k_dflt (k_extra "lsend")))
  k_with "call builtin:list.append" => (k_here; (k_dflt (k_extra "append")))
  k_with "subscriptTail Name BinOp ref int" => (k_here; (k_dflt (k_extra "itembin")))
  k_with "setItem ref int" => (k_here; (k_dflt (k_extra "setitem")))
  k_with "CompEnd" => (k_here; k_dflt (k_extra "compend"))
  k_with "CompSrcT" => (k_here; k_dflt (k_extra "compsrct"))
  with_reducible change wpAny _ _ _ _ _ _
  k_fold
  have hat : ∀ k : Nat, k < 6 → ∃ v r, [v0, v1, v2, v3, v4, v5][k]? = some v ∧ PA i j k r v := fun k hk => by
    match k, hk with
    | 0, _ => exact ⟨v0, r0, rfl, q0⟩
    | 1, _ => exact ⟨v1, r1, rfl, q1⟩
    | 2, _ => exact ⟨v2, r2, rfl, q2⟩
    | 3, _ => exact ⟨v3, r3, rfl, q3⟩
    | 4, _ => exact ⟨v4, r4, rfl, q4⟩
    | 5, _ => exact ⟨v5, r5, rfl, q5⟩
  k_with "compsrct" => (refine LCt.CompSrcT.range (by rfl) (by k_asm) (by k_asm) (by assumption) (by first | decide | rfl) (by first | rfl | decide) (by first | size_fits | exact Nat.le_of_ble_eq_true rfl) ?_; intro g9; refine compT_ind (n := 6) (fun k ys nw => nw = [(L' + 1, _), (l, listOf vs n)] ∧ IntsAre ys (gapsZ i j k)) ?_ ?_ 6 0 [] _ rfl ⟨rfl, .nil⟩; (intro k ys nw v I oI C oC D m₂ h tk E' hk6 hI hv hC hx F9 N9 off9 ne9; obtain ⟨rfl, hI⟩ := hI; obtain ⟨t9, rfl⟩ := hv; obtain ⟨vk, rk, hvk, hpk⟩ := hat k hk6); rotate_left; (intro ys nw hI; obtain ⟨rfl, hI⟩ := hI; intro D9 h9 tk9 F9 N9 off9; obtain ⟨ta, tb, hg0, hg1, hgl, hgl2⟩ := gaps_all hi0 hij hj6 hI); rotate_left)
  k_with "compend" => first
    | (refine LCg.CompEnd.intro (by assumption) (by assumption) _ (by first | exact fun _ hp => hp | k_subL) off9 trivial ⟨rfl, ?_⟩; (rw [gapsZ, if_pos (by assumption)]; exact gaps_snoc hI t9))
    | (refine LCg.CompEnd.intro (by assumption) (by assumption) _ (by first | exact fun _ hp => hp | k_subL) off9 trivial ⟨rfl, ?_⟩; (rw [gapsZ, if_neg (by assumption)]; exact hI))
  k_with "itemval" => (rw [hvs, List.getElem?_toArray, show (0 + (k : Int)).toNat = k by omega]; exact hvk)
  k_with "item0" => (refine' item_led (vs := ys.toArray) (n := ys.length) ?k1 ?k2 (by decide) (by decide) ?k5 ?_ ?k6; (case k1 => k_asm); (case k2 => k_mem); (case k5 => rw [List.getElem?_toArray]; exact hg0); (case k6 => with_unfolding_all rfl); k_whole)
  k_with "itemneg" => first
    | (refine' item_neg_led (vs := ys9) (n := c9) ?k1 ?k2 (by decide) ?k4 (by decide) hl9 ?_ ?k6; (case k1 => k_asm); (case k2 => k_mem); (case k4 => (rw [hz9]; omega)); (case k6 => with_unfolding_all rfl); k_whole)
    | (refine' item_neg_led (vs := ys.toArray) (n := ys.length) ?k1 ?k2 (by decide) ?k4 (by decide) ?k5 ?_ ?k6; (case k1 => k_asm); (case k2 => k_mem); (case k4 => rw [List.size_toArray]; omega); (case k5 => rw [List.getElem?_toArray, List.size_toArray]; exact hg1); (case k6 => with_unfolding_all rfl); k_whole)
  k_with "sumslist" => (refine' news_isListE hvs ?nn ?nm; (case nn => k_asm); (case nm => k_mem))
  k_with "port" => first | exact pa_port q0 | exact pa_port q1 | exact pa_port q2 | exact pa_port q3 | exact pa_port q4 | exact pa_port q5
  k_with "foldarg" => (show U16 _; first | with_reducible assumption | (with_reducible exact u16_it uS _) | (with_reducible exact u16_it uP _) | (with_reducible exact u16_pz (by assumption)))
  have uP : U16 P := by rw [← hPd]; unfold sumP; exact u16_xor (u16_xor (u16_xor (u16_xor (u16_xor (u16_xor u16_zero (u16_pz w5)) (u16_pz w4)) (u16_pz w3)) (u16_pz w2)) (u16_pz w1)) (u16_pz w0)
  k_with "rangeiter" => ((rename Fr _ _ _ _ => lF'); (rename News _ _ _ _ => lN'); (rename IsRange _ _ _ _ _ _ _ _ => rgX); first
    | ((refine' list_loop (news := [(L' + 1, _), (l, listOf vs n)]) (turnsZ (Builtin.bitXor Z (itZ (i - 0).toNat P))) (by rfl) rgX (by exact small_one (by decide) (by decide) (by decide) (by decide)) (by exact rangeSize_nat _ _) lF' (news_sub3 (by k_mem) (by k_mem) (by k_mem) lN') (.cons _ _ .nil) ?_ ?_); (intro I9 k9 ys9 c9 tx9 h9 tk9 lt9 hk9 hys9 F9 N9); (obtain ⟨tl9, hl9, hz9⟩ := turns_last hys9); (try k_lt lt9); rotate_left; (intro h9 tk9 su9 ys9 c9 hys9 F9 N9); (replace hys9 := show IntsAre (Array.toList ys9) (turnsZ _ 16) from hys9); rotate_left)
    | ((refine' int_loop (y := Str.ofString "turn") (fun k => itZ k P) (by rfl) rgX (by exact small_one (by omega) (by omega) (by omega) (by omega)) (by exact rangeSize_nat _ _) lF' lN' (by rfl) (by decide) ?_ ?_); (intro I9 k9 t9 tx9 h9 tk9 lt9 hk9 F9 N9); (try k_lt lt9); rotate_left; (intro h9 tk9 t9 su9 F9 N9); rotate_left))
  have uZ : U16 Z := by rw [← hZd]; unfold sumF; exact (u16_xor (u16_fold (u16_xor (u16_fold (u16_xor (u16_fold (u16_xor (u16_fold (u16_xor (u16_fold (u16_xor (u16_fold u16_zero) (u16_pz w5))) (u16_pz w4))) (u16_pz w3))) (u16_pz w2))) (u16_pz w1))) (u16_pz w0))
  have uS : U16 (Builtin.bitXor Z (itZ (i - 0).toNat P)) := u16_xor uZ (u16_it uP _)
  k_with "append" => ((rename Fr _ _ _ _ => aF); (rename News _ _ _ _ => aN); (refine' append_K aF aN ?aU ?_ ?az); (case aU => k_upd); (case az => (rw [hz9, PySem.sizeLine_eq]; omega)); k_whole; intro h8 F8 N8; (try k_sweep))
  k_with "lsend" => ((refine' LsEnd.intro (turns_push hys9 _) ?eF ?eN); (case eF => assumption); (case eN => assumption))
  k_with "frend" => ((refine' FrEnd.intro ?eF ?eN); (case eF => assumption); (case eN => assumption))
  k_with "itembin" => ((refine' item_ints_led (vs := ys9) (n := c9) ?k1 ?k2 hysT ?k3 ?k4 ?k5 ?_ ?k6); (case k1 => k_asm); (case k2 => k_mem); (case k3 => exact fmod_lo _ (by decide)); (case k4 => exact Int.lt_trans (fmod_hi _ (by decide)) (by decide)); (case k5 => (rw [turnsZ_len]; exact fmod_hi _ (by decide))); (case k6 => with_unfolding_all rfl); k_whole; intro t8)
  k_with "setitem" => (((rename Fr _ _ _ _ => aF); (rename News _ _ _ _ => aN); (refine' set_led aF aN ?aU ?h0 ?hf ?hn ?_); (case aU => k_upd); (case h0 => omega); (case hf => omega); (case hn => ((try simp only [Array.size_setIfInBounds]); (try rw [hvs]); show _ < (6 : Int); omega)); k_whole; intro h8 F8 N8; (try k_sweep)))
  k_with "items" => ((rename (IntsAre _ (turnsZ _ 16)) => hysT); (refine' items_loop (n := 8) (M2 (lateN i j (Builtin.bitXor Z (itZ (i - 0).toNat P))) (Str.ofString "late") (Str.ofString "odd") _) (fun k => (1 : Int) + 2 * (k : Int)) (by exact eight_at rfl rfl rfl rfl rfl rfl rfl rfl) (by rfl) (And.intro (.head _) trivial) (by (repeat' (first | exact lt_nil | refine lt_cons ?_ ?_)) <;> omega) (m2_zero rfl) ?_ ?_); (intro o9 k9 tx9 a9 h9 tk9 hk9 ho9 F9 N9); (obtain ⟨t19, v19⟩ := a9); (delta M2 at F9; dsimp only at F9); (generalize (Obj.mk (Value.type "tuple") _ _ _ : Obj) = oT at N9 ⊢); rotate_left; (intro h9 tk9 a9 F9 N9); (obtain ⟨t19, v19⟩ := a9); (delta M2 at F9; dsimp only at F9); (subst hvs); rotate_left)
  k_with "itend" => ((refine' it2_intro (by assumption) ?e1 (by assumption)); (case e1 => rfl))
  repeat' (first | (k_unfold; (try dsimp only)) | (k_end; kc_close) | walk1 | (dsimp only; walk1) | (leave1; walk_say "STEP leave1"; (try dsimp only)) | fail "no step")
  subst hPd hZd
  rename News h₀ L _ _ => kN
  rename Fr g' L' _ _ => FF
  refine' hret _ _ _ _ _ (mend_ok' w0 w1 w2 w3 w4 w5 hP hF hi0 hij hj6 q0 q1 q2 q3 q4 q5 _ _) ?eF (news_one ?m0 kN (led_news hsub gE' N FF (fun q hq => (kN q ?kept).1))) (led_lt N gS' ?eL)
  case kept => (obtain rfl := List.mem_singleton.mp hq; k_mem)
  case m0 => k_mem
  case eF => assumption
  case eL => (rename (_ ∧ _ ∧ @LT.lt Nat _ (L' + 1) _ ∧ _) => q9; exact Nat.lt_of_succ_lt q9.2.2.1)
end
end Mine
end

end

section
open PySem PySem.W PyProof.Rows PySem.Spec PySem.Calls
set_option Elab.async false
set_option maxRecDepth 100000
set_option linter.unusedVariables false
namespace Mine
theorem item_ledL {prog : Program} {w : World} {A : Around} {E : Value → Shared → Prop} {s : Shared} {g : Heap} {L' l : Addr} {value slice : PySem.Expr} {vs : List Value} {n : Nat} {k : Int} {u : Tok} {v : Value} {led : List (Addr × Obj)} {Q : Value → Shared → Prop}
    (N : News g L' s.heap led) (hm : (l, listOf vs.toArray n) ∈ led) (h0 : 0 ≤ k) (hhi : k < 2 ^ 63) (hx : vs[k.toNat]? = some v) (h : Q v s)
    (hs : subscripted slice false (.ref l) (.int k u) = operate [.ref l, .int k u] (getItem (.ref l) (.int k u)) := by with_unfolding_all rfl) :
    wpAny (model prog w) A (subscriptTail value slice (.ref l) (.int k u)) Q E s :=
  item_led N hm h0 hhi (by rw [List.getElem?_toArray]; exact hx) h hs
theorem strs_snoc {ys : List Value} {zs : List PySem.Str} {a : PySem.Str} (h : StrsAre ys zs) (t : Tok) : StrsAre (ys ++ [.str a t]) (zs ++ [a]) := by
  induction h with
  | nil => exact .cons _ _ .nil
  | cons a b _ ih => exact .cons a b ih
theorem six_strs {ws : List Value} {ss : List PySem.Str} (h : StrsAre ws ss) (hl : ss.length = 6) :
    ∃ n0 n1 n2 n3 n4 n5 t0 t1 t2 t3 t4 t5, ws = [Value.str n0 t0, Value.str n1 t1, Value.str n2 t2, Value.str n3 t3, Value.str n4 t4, Value.str n5 t5] ∧ ss = [n0, n1, n2, n3, n4, n5] := by
  cases h with
  | nil => simp at hl
  | cons n0 t0 h => cases h with
    | nil => simp at hl
    | cons n1 t1 h => cases h with
      | nil => simp at hl
      | cons n2 t2 h => cases h with
        | nil => simp at hl
        | cons n3 t3 h => cases h with
          | nil => simp at hl
          | cons n4 t4 h => cases h with
            | nil => simp at hl
            | cons n5 t5 h => cases h with
              | nil => exact ⟨n0, n1, n2, n3, n4, n5, t0, t1, t2, t3, t4, t5, rfl, rfl⟩
              | cons _ _ _ => simp at hl
theorem strOk_app {x y : PySem.Str} (h : PyData.strOk x = true) (g : PyData.strOk y = true) : PyData.strOk (x ++ y) = true := by
  unfold PyData.strOk at *
  rw [PySem.Str.cps_append, Array.all_append, h, g]
  rfl
theorem strOk_of (s : String) : PyData.strOk (Str.ofString s) = true := by
  unfold PyData.strOk
  rw [← Array.all_toList, signs_ofString, List.all_map, List.all_eq_true]
  intro c _
  have h := c.valid
  simp only [Function.comp, decide_eq_true_eq]
  show c.val.toNat < 1114112
  rcases h with h | ⟨_, h⟩
  · omega
  · exact h
theorem ok_snoc {ss : List PySem.Str} {x : PySem.Str} (h : ∀ y ∈ ss, PyData.strOk y = true) (g : PyData.strOk x = true) : ∀ y ∈ ss ++ [x], PyData.strOk y = true := fun y hy => by
  rcases List.mem_append.mp hy with q | q
  · exact h y q
  · rw [List.mem_singleton.mp q]; exact g
end Mine
end

section
open PySem PySem.W PyProof.Rows PySem.Spec PySem.Calls
set_option Elab.async false
set_option maxRecDepth 100000
set_option linter.unusedVariables false
namespace Mine
theorem ne_cell {g h : Heap} {L : Addr} {led : List (Addr × Obj)} {a b : Addr} {oa ob : Obj} {vs : Array Value} {n : Nat} {v : Option Value} (N : News g L h led) (ha : (a, oa) ∈ led) (hb : (b, ob) ∈ led) (ea : oa.data = .seq vs n) (eb : ob.data = .cell v) : NeA a b := fun e => by
  subst e
  have h1 := (N _ ha).1
  have h2 := (N _ hb).1
  rw [h1] at h2
  have h3 := Option.some.inj h2
  dsimp only at h3
  rw [← h3, ea] at eb
  cases eb
abbrev tupi (x : PySem.Str) (t : Tok) (y : Int) (u : Tok) (c : Nat) : Obj := { cls := .type "tuple", data := .seq #[.str x t, .int y u] c }
def IsMk (m : PySem.Str) : Prop := m = Str.ofString "[" ∨ m = Str.ofString "|" ∨ m = Str.ofString "!" ∨ m = Str.ofString "]"
def MkAt (m : PySem.Str) (c : Prop) : Prop := IsMk m ∧ (m = Str.ofString "[" ↔ c)
def AhAt (a : PySem.Str) (c : Prop) : Prop := (c ∧ a = Str.ofString "229 [ (") ∨ (¬ c ∧ a = Str.ofString "229 (")
theorem IsMk.len {m : PySem.Str} (h : IsMk m) : m.length = 1 := by rcases h with h | h | h | h <;> subst h <;> rfl
theorem AhAt.len {m : PySem.Str} {c : Prop} (h : AhAt m c) : m.length ≤ 7 := by
  rcases h with ⟨_, h⟩ | ⟨_, h⟩ <;> subst h <;> decide
theorem mkAt_of {c : Prop} [Decidable c] {n : Int} : MkAt (if c then Str.ofString "[" else Txt.item (Str.ofString "|!]") (n.fmod 3)) c := by
  by_cases hc : c
  · rw [if_pos hc]; exact ⟨.inl rfl, fun _ => hc, fun _ => rfl⟩
  · rw [if_neg hc]
    have h0 : 0 ≤ n.fmod 3 := fmod_lo _ (by decide)
    have h1 : n.fmod 3 < 3 := fmod_hi _ (by decide)
    generalize n.fmod 3 = z at h0 h1
    have hz : z = 0 ∨ z = 1 ∨ z = 2 := by omega
    rcases hz with h | h | h <;> subst h
    · exact ⟨.inr (.inl (by decide +kernel)), fun e => absurd e (by decide +kernel), fun e => absurd e hc⟩
    · exact ⟨.inr (.inr (.inl (by decide +kernel))), fun e => absurd e (by decide +kernel), fun e => absurd e hc⟩
    · exact ⟨.inr (.inr (.inr (by decide +kernel))), fun e => absurd e (by decide +kernel), fun e => absurd e hc⟩
theorem ahAt_of {c : Prop} [Decidable c] : AhAt (if c then Str.ofString "229 [ (" else Str.ofString "229 (") c := by
  by_cases hc : c
  · rw [if_pos hc]; exact .inl ⟨hc, rfl⟩
  · rw [if_neg hc]; exact .inr ⟨hc, rfl⟩
section
variable {M : Model} {prog : Program} {w : World} {A : Around} {E : Value → Shared → Prop} {s : Shared} {t u : Tok}
theorem mark_store {c : Prop} [Decidable c] {n : Int} {env : Env} {nm : PySem.Str} {Q : Unit → Shared → Prop}
    (H : ∀ m, MkAt m c → wpAny M A (storeName env nm (.str m t)) Q E s) :
    wpAny M A (storeName env nm (.str (if c then Str.ofString "[" else Txt.item (Str.ofString "|!]") (n.fmod 3)) t)) Q E s := H _ mkAt_of
theorem ahead_store {c : Prop} [Decidable c] {env : Env} {nm : PySem.Str} {Q : Unit → Shared → Prop}
    (H : ∀ m, AhAt m c → wpAny M A (storeName env nm (.str m t)) Q E s) :
    wpAny M A (storeName env nm (.str (if c then Str.ofString "229 [ (" else Str.ofString "229 (") t)) Q E s := H _ ahAt_of
variable {Q : Value → Shared → Prop}
theorem mul3 {m : PySem.Str} {c : Prop} (hm : MkAt m c) (H : ∀ R t' k, R = Txt.mul m 3 → R.length = 3 → Q (.str R t') { s with toks := k }) :
    wpAny (model prog w) A (binaryOp .Mult (.str m t) (.int 3 u)) Q E s :=
  KXi.mul (n := 1) hm.1.len (by decide) (by decide) (by decide) fun t' k _ h => H _ t' k rfl (by have := h (by decide); omega)
theorem add_gen {x y : PySem.Str} (hx : x.length ≤ 500) (hy : y.length ≤ 500) (H : ∀ R t' k, R = x ++ y → R.length = x.length + y.length → Q (.str R t') { s with toks := k }) :
    wpAny (model prog w) A (binaryOp .Add (.str x t) (.str y u)) Q E s :=
  KXadd.add hx hy (by decide) fun t' k h => H _ t' k rfl (by omega)
theorem add1 {a M : PySem.Str} {c : Prop} (ha : AhAt a c) (hM : M.length = 3) (H : ∀ R t' k, R = a ++ M → R.length ≤ 10 → Q (.str R t') { s with toks := k }) :
    wpAny (model prog w) A (binaryOp .Add (.str a t) (.str M u)) Q E s :=
  add_gen (Nat.le_trans ha.len (by decide)) (by omega) fun R t' k h1 h2 => H R t' k h1 (by have := ha.len; omega)
theorem add2 {x : PySem.Str} {n : Int} (hx : x.length ≤ 10) (hn : U16 n) (H : ∀ R t' k, R = x ++ Str.ofString (toString n) → R.length ≤ 20 → Q (.str R t') { s with toks := k }) :
    wpAny (model prog w) A (binaryOp .Add (.str x t) (.str (Str.ofString (toString n)) u)) Q E s := by
  have h := KT.len_num hn.1 (Int.lt_trans hn.2 (by decide))
  exact add_gen (by omega) (by omega) fun R t' k h1 h2 => H R t' k h1 (by omega)
theorem add3 {x m : PySem.Str} {c : Prop} (hx : x.length ≤ 20) (hm : MkAt m c) (H : ∀ R t' k, R = x ++ m → R.length ≤ 21 → Q (.str R t') { s with toks := k }) :
    wpAny (model prog w) A (binaryOp .Add (.str x t) (.str m u)) Q E s := by
  have h := hm.1.len
  exact add_gen (by omega) (by omega) fun R t' k h1 h2 => H R t' k h1 (by omega)
theorem add4 {x : PySem.Str} (hx : x.length ≤ 21) (H : ∀ R t' k, R = x ++ Str.ofString ")" → R.length ≤ 30 → Q (.str R t') { s with toks := k }) :
    wpAny (model prog w) A (binaryOp .Add (.str x t) (.str (Str.ofString ")") u)) Q E s := by
  have h : (Str.ofString ")").length = 1 := rfl
  exact add_gen (by omega) (by omega) fun R t' k h1 h2 => H R t' k h1 (by omega)
theorem two16 : (65536 : Int) < 2 ^ 1920 := by decide +kernel
theorem str16 {a : Int} (ha : U16 a) (h : Q (.str (Str.ofString (toString a)) s.toks) { s with toks := s.toks + 1 }) : wpAny (model prog w) A (call (.type "str") [.int a t]) Q E s :=
  P.str_of_int (shown (N := 65536) (Int.lt_of_lt_of_le (by decide) ha.1) ha.2 (Int.le_of_lt two16)) h
end
theorem fr_norm {g h : Heap} {L : Addr} {fm base : PySem.Str → Option Value} (F : Fr g L h fm) (hx : ∀ y, y ≠ Str.ofString "ahead" → y ≠ Str.ofString "mark" → y ≠ Str.ofString "place" → fm y = base y) :
    ∃ va vm vp : Option Value, Fr g L h (fun y => if y = Str.ofString "ahead" then va else if y = Str.ofString "mark" then vm else if y = Str.ofString "place" then vp else base y) := by
  refine ⟨fm (Str.ofString "ahead"), fm (Str.ofString "mark"), fm (Str.ofString "place"), fr_same F (fun y => ?_)⟩
  by_cases e1 : y = Str.ofString "ahead"
  · rw [if_pos e1, e1]
  · rw [if_neg e1]
    by_cases e2 : y = Str.ofString "mark"
    · rw [if_pos e2, e2]
    · rw [if_neg e2]
      by_cases e3 : y = Str.ofString "place"
      · rw [if_pos e3, e3]
      · rw [if_neg e3, hx y e1 e2 e3]
def Reply (R : PySem.Str) (n : Int) (c : Prop) : Prop := (∃ lf rt mk bd, Rep R lf rt mk bd n) ∧ (Txt.contains R (Str.ofString "[") = true ↔ c) ∧ PyData.strOk R = true
theorem mk_sign {m : PySem.Str} (h : IsMk m) : ∃ c : Nat, (c = 91 ∨ c = 124 ∨ c = 33 ∨ c = 93) ∧ m.cps.toList = [c] ∧ (Txt.mul m 3).cps.toList = [c, c, c] ∧ (m = Str.ofString "[" ↔ c = 91) := by
  rcases h with rfl | rfl | rfl | rfl
  · exact ⟨91, by decide, by decide, by decide, by decide⟩
  · exact ⟨124, by decide, by decide, by decide, by decide⟩
  · exact ⟨33, by decide, by decide, by decide, by decide⟩
  · exact ⟨93, by decide, by decide, by decide, by decide⟩
theorem ah_sign {a : PySem.Str} {c : Prop} (h : AhAt a c) : ∃ P : List Nat, a.cps.toList = 50 :: 50 :: 57 :: (P ++ [40]) ∧ 40 ∉ P ∧ P.length ≤ 10 ∧ (91 ∈ P ↔ c) ∧ ∀ x ∈ P, x < 1114112 := by
  rcases h with ⟨hc, rfl⟩ | ⟨hc, rfl⟩
  · exact ⟨[32, 91, 32], by decide, by decide, by decide, ⟨fun _ => hc, fun _ => by decide⟩, by decide⟩
  · exact ⟨[32], by decide, by decide, by decide, ⟨fun h => absurd h (by decide), fun h => absurd h hc⟩, by decide⟩
theorem reply_ok {R a M m N B C D : PySem.Str} {n : Int} {c1 c2 : Prop} (h1 : R = D ++ Str.ofString ")") (h2 : D = C ++ m) (h3 : C = B ++ N) (h4 : B = a ++ M) (h5 : M = Txt.mul m 3) (hN : N = Str.ofString (toString n))
    (hm : MkAt m c1) (ha : AhAt a c2) (hn : U16 n) : Reply R n (c1 ∨ c2) := by
  obtain ⟨c, hc, k1, k2, k3⟩ := mk_sign hm.1
  obtain ⟨P, p1, p2, p3, p4, p5⟩ := ah_sign ha
  obtain ⟨ds, d1, d2, d3⟩ := cps_num hn
  have hx : R.cps.toList = 50 :: 50 :: 57 :: (P ++ (40 :: c :: c :: c :: (ds ++ (c :: [41])))) := by
    rw [h1, h2, h3, h4, h5, hN]
    simp only [PySem.Str.cps_append, Array.toList_append]
    rw [p1, k1, k2, d1]
    have e : (Str.ofString ")").cps.toList = [41] := by decide
    rw [e]
    simp
  refine ⟨rep_of hn hx p2 p3 d2 d3 d1 hc, ?_, ?_⟩
  · rw [has_of hx d2, ← k3, hm.2, p4]
  · unfold PyData.strOk
    rw [← Array.all_toList, hx, List.all_eq_true]
    simp only [List.mem_cons, List.mem_append, List.not_mem_nil, or_false, decide_eq_true_eq]
    rintro x (h | h | h | h | h | h | h | h | h | h | h)
    · omega
    · omega
    · omega
    · exact p5 x h
    · omega
    · omega
    · omega
    · omega
    · have := d2 x h; omega
    · omega
    · omega
theorem reply_ok2 {R a M m N B C D : PySem.Str} {n : Int} {c1 c2 P : Prop} (h1 : R = D ++ Str.ofString ")") (h2 : D = C ++ m) (h3 : C = B ++ N) (h4 : B = a ++ M) (h5 : M = Txt.mul m 3) (hN : N = Str.ofString (toString n))
    (hm : MkAt m c1) (ha : AhAt a c2) (hn : U16 n) (e : (c1 ∨ c2) = P) : Reply R n P := e ▸ reply_ok h1 h2 h3 h4 h5 hN hm ha hn
section
open LCg
variable {h₀ h' : Heap} {L I C D D9 : Addr} {m : PySem.Str → Option Value} {s₁ : Shared} {oI oC oD o9 : Obj} {S : List (Addr × Obj) → Prop} {rest : Value → List (Addr × Obj) → Prop} {y : Value} {tk : Nat} {old : List (Addr × Obj)}
/-- a turn's end whose call or display made one object -/
theorem comp_end1 (N : News h₀ L h' ((D9, o9) :: (I, oI) :: (C, oC) :: (D, oD) :: old)) (F : Fr h₀ L h' m) (l9 : ∀ p ∈ (I, oI) :: (C, oC) :: (D, oD) :: old, p.1 < D9) (off : Off3 I C D old) (hS : S ((D9, o9) :: old)) (r : rest y ((D9, o9) :: old)) :
    CompEnd h₀ L m s₁ I oI C oC D oD S rest y { s₁ with heap := h', toks := tk } :=
  CompEnd.intro F N ((D9, o9) :: old) (fun p hp => by
    rcases List.mem_cons.mp hp with rfl | hp
    · exact .tail _ (.head _)
    rcases List.mem_cons.mp hp with rfl | hp
    · exact .tail _ (.tail _ (.head _))
    rcases List.mem_cons.mp hp with rfl | hp
    · exact .tail _ (.tail _ (.tail _ (.head _)))
    rcases List.mem_cons.mp hp with rfl | hp
    · exact .head _
    exact .tail _ (.tail _ (.tail _ (.tail _ hp)))) ⟨⟨Ne.symm (Nat.ne_of_lt (l9 (I, oI) (.head _))), Ne.symm (Nat.ne_of_lt (l9 (C, oC) (.tail _ (.head _)))), Ne.symm (Nat.ne_of_lt (l9 (D, oD) (.tail _ (.tail _ (.head _)))))⟩, off⟩ hS r
/-- a turn's end that made none -/
theorem comp_end0 (N : News h₀ L h' ((I, oI) :: (C, oC) :: (D, oD) :: old)) (F : Fr h₀ L h' m) (off : Off3 I C D old) (hS : S old) (r : rest y old) :
    CompEnd h₀ L m s₁ I oI C oC D oD S rest y { s₁ with heap := h', toks := tk } :=
  CompEnd.intro F N old (fun _ hp => hp) off hS r
end
end Mine
end

section
open PySem PySem.W PyProof.Rows PySem.Spec PySem.Calls
set_option Elab.async false
set_option maxRecDepth 100000
set_option linter.unusedVariables false
namespace Mine
section
variable {g h : Heap} {L w : Addr} {led : List (Addr × Obj)} {H R : PySem.Str} {y z : Tok} {r : Int} {c : Nat}
def RdsA (h : Heap) (v : Value) (d : PyData) : Prop := ∃ as, Reads h v d as
theorem rd_si (N : News g L h led) (m : (w, tupi H y r z c) ∈ led) : RdsA h (.ref w) (.tuple [.str H, .int r]) :=
  ⟨_, reads_tuple_at (N.get m) rfl rfl (.cons (.str ..) (.cons (.int ..) .nil))⟩
theorem rd_ss (N : News g L h led) (m : (w, tup2 H y R z c) ∈ led) : RdsA h (.ref w) (.tuple [.str H, .str R]) :=
  ⟨_, reads_tuple_at (N.get m) rfl rfl (.cons (.str ..) (.cons (.str ..) .nil))⟩
theorem rd_none : RdsA h .none .none := ⟨_, .none⟩
variable {v0 v1 v2 v3 v4 v5 z0 z1 z2 z3 z4 z5 : Value} {d0 d1 d2 d3 d4 d5 : PyData} {a b : Addr} {n n' : Nat}
theorem rd_six (N : News g L h led) (m : (a, listOf #[v0, v1, v2, v3, v4, v5] n) ∈ led) (h0 : RdsA h v0 d0) (h1 : RdsA h v1 d1) (h2 : RdsA h v2 d2) (h3 : RdsA h v3 d3) (h4 : RdsA h v4 d4) (h5 : RdsA h v5 d5) :
    RdsA h (.ref a) (.list [d0, d1, d2, d3, d4, d5]) := by
  obtain ⟨_, h0⟩ := h0
  obtain ⟨_, h1⟩ := h1
  obtain ⟨_, h2⟩ := h2
  obtain ⟨_, h3⟩ := h3
  obtain ⟨_, h4⟩ := h4
  obtain ⟨_, h5⟩ := h5
  exact ⟨_, reads_list_at (N.get m) rfl rfl (.cons h0 (.cons h1 (.cons h2 (.cons h3 (.cons h4 (.cons h5 .nil))))))⟩
end
section
variable {prog : Program} {w : World} {A : Around} {E : Value → Shared → Prop} {s : Shared} {g : Heap} {L : Addr} {led : List (Addr × Obj)} {Q : Value → Shared → Prop}
theorem ne_same {x y : Value} {d : PyData} (ra : RdsA s.heap x d) (rb : RdsA s.heap y d) (hd : SeqAt.shaped d = true) (hu : A.units + 64 < cLine) (h : Q (.bool false) s) :
    wpAny (model prog w) A (compareOp .NotEq x y) Q E s := by
  obtain ⟨_, ra⟩ := ra
  obtain ⟨_, rb⟩ := rb
  refine ne_dataH ra rb hd hd hu ?_
  rw [SeqAt.eqv_refl d (Bool.and_eq_true_iff.mp hd).1]
  exact h
theorem shaped6 {d0 d1 d2 d3 d4 d5 : PyData} (h0 : d0.canLay0 = true ∧ d0.depth ≤ 1) (h1 : d1.canLay0 = true ∧ d1.depth ≤ 1) (h2 : d2.canLay0 = true ∧ d2.depth ≤ 1) (h3 : d3.canLay0 = true ∧ d3.depth ≤ 1) (h4 : d4.canLay0 = true ∧ d4.depth ≤ 1) (h5 : d5.canLay0 = true ∧ d5.depth ≤ 1) :
    SeqAt.shaped (.list [d0, d1, d2, d3, d4, d5]) = true := by
  simp only [SeqAt.shaped, PyData.canLay0, PyData.canLayAll0, PyData.depth, PyData.depthAll, h0.1, h1.1, h2.1, h3.1, h4.1, h5.1, Bool.and_self, Bool.true_and]
  refine decide_eq_true ?_
  have := h0.2
  have := h1.2
  have := h2.2
  have := h3.2
  have := h4.2
  have := h5.2
  omega
theorem lay_si {H : PySem.Str} {r : Int} (h : PyData.strOk H = true) : (PyData.tuple [.str H, .int r]).canLay0 = true ∧ (PyData.tuple [.str H, .int r]).depth ≤ 1 := by
  simp [PyData.canLay0, PyData.canLayAll0, PyData.depth, PyData.depthAll, h]
theorem lay_ss {H R : PySem.Str} (h : PyData.strOk H = true) (h' : PyData.strOk R = true) : (PyData.tuple [.str H, .str R]).canLay0 = true ∧ (PyData.tuple [.str H, .str R]).depth ≤ 1 := by
  simp [PyData.canLay0, PyData.canLayAll0, PyData.depth, PyData.depthAll, h, h']
theorem lay_none : PyData.none.canLay0 = true ∧ PyData.none.depth ≤ 1 := by
  simp [PyData.canLay0, PyData.depth]
end
end Mine
namespace Mine
def PickS (c : Prop) (H R X Y : PySem.Str) : Prop := (c ∧ X = Str.ofString "" ∧ Y = Str.ofString "") ∨ (¬ c ∧ X = H ∧ Y = R)
theorem pickS_of {H R : PySem.Str} {c : Prop} (hc : Txt.contains R (Str.ofString "[") = true ↔ c) : PickS c H R (if Txt.contains R brk = true then Str.ofString "" else H) (if Txt.contains R brk = true then Str.ofString "" else R) := by
  by_cases h : Txt.contains R brk = true
  · rw [if_pos h, if_pos h]; exact .inl ⟨hc.mp h, rfl, rfl⟩
  · rw [if_neg h, if_neg h]; exact .inr ⟨fun x => h (hc.mpr x), rfl, rfl⟩
end Mine
namespace Mine
theorem pickS_ok {c : Prop} {H R X Y : PySem.Str} (h : PickS c H R X Y) (hH : PyData.strOk H = true) (hR : PyData.strOk R = true) : PyData.strOk X = true ∧ PyData.strOk Y = true := by
  rcases h with ⟨_, rfl, rfl⟩ | ⟨_, rfl, rfl⟩
  · exact ⟨strOk_of _, strOk_of _⟩
  · exact ⟨hH, hR⟩
open LCg in
def PJ (h₀ : Heap) (L : Addr) (m : PySem.Str → Option Value) (s : Shared) (I : Addr) (oI : Obj) (C : Addr) (oC : Obj) (D : Addr) (oD : Obj) (old : List (Addr × Obj)) (X Y : PySem.Str) (v : Value) (s₂ : Shared) : Prop :=
  ∃ a t u c h tk, v = .ref a ∧ s₂ = { s with heap := h, toks := tk } ∧ Fr h₀ L h m ∧ News h₀ L h ((a, tup2 X t Y u c) :: (I, oI) :: (C, oC) :: (D, oD) :: old) ∧ Off3 I C D ((a, tup2 X t Y u c) :: old)
section
open LCg
variable {M : Model} {A : Around} {E : Value → Shared → Prop} {s : Shared} {h₀ h : Heap} {L I C D T a p : Addr} {m : PySem.Str → Option Value} {oI oC oD oT : Obj} {old : List (Addr × Obj)} {H R X Y : PySem.Str} {b : Prop} {t u : Tok} {c tk : Nat}
theorem pj2 {S : List (Addr × Obj) → Prop} {rest : Value → List (Addr × Obj) → Prop} {code : Sem Value} {m₂ : PySem.Str → Option Value} {k : Int} {t : Tok} (ps : List (PySem.Str × PySem.Str)) (F : Fr h₀ L s.heap m) (N : News h₀ L s.heap ((I, oI) :: (C, oC) :: (D, oD) :: old))
    (hx : m₂ (Str.ofString "place") = some (.int k t)) (hp : ps[k.toNat]? = some (X, Y))
    (hc : wpAny M A code (fun v s₂ => PJ h₀ L m s I oI C oC D oD old X Y v s₂) E s)
    (hk : ∀ a t u c h tk, Fr h₀ L h m → News h₀ L h ((a, tup2 X t Y u c) :: (I, oI) :: (C, oC) :: (D, oD) :: old) → Off3 I C D ((a, tup2 X t Y u c) :: old) →
      CompEnd h₀ L m s I oI C oC D oD S rest (.ref a) { s with heap := h, toks := tk }) :
    wpAny M A code (CompEnd h₀ L m s I oI C oC D oD S rest) E s := by
  refine wpAny_mono hc (fun v s₂ q => ?_) fun _ _ q => q
  obtain ⟨a, t, u, c, h, tk, rfl, rfl, F, N, O⟩ := q
  exact hk a t u c h tk F N O
theorem pj_bad (hpk : PickS b H R X Y) (hb : b) (N : News h₀ L h ((a, tup2 (Str.ofString "") t (Str.ofString "") u c) :: (T, oT) :: (I, oI) :: (C, oC) :: (D, oD) :: old)) (F : Fr h₀ L h m)
    (l9 : ∀ p ∈ (T, oT) :: (I, oI) :: (C, oC) :: (D, oD) :: old, p.1 < a) (off : Off3 I C D old) : PJ h₀ L m s I oI C oC D oD old X Y (.ref a) { s with heap := h, toks := tk } := by
  rcases hpk with ⟨_, rfl, rfl⟩ | ⟨hb', _⟩
  · exact ⟨a, t, u, c, h, tk, rfl, rfl, F, news_drop1 N, ⟨Ne.symm (Nat.ne_of_lt (l9 (I, oI) (.tail _ (.head _)))), Ne.symm (Nat.ne_of_lt (l9 (C, oC) (.tail _ (.tail _ (.head _))))), Ne.symm (Nat.ne_of_lt (l9 (D, oD) (.tail _ (.tail _ (.tail _ (.head _))))))⟩, off⟩
  · exact absurd hb hb'
theorem pj_good (hpk : PickS b H R X Y) (hb : ¬ b) (hm : (p, tup2 H t R u c) ∈ old) (N : News h₀ L h ((T, oT) :: (I, oI) :: (C, oC) :: (D, oD) :: old)) (F : Fr h₀ L h m) (off : Off3 I C D old) :
    PJ h₀ L m s I oI C oC D oD old X Y (.ref p) { s with heap := h, toks := tk } := by
  rcases hpk with ⟨hb', _⟩ | ⟨_, rfl, rfl⟩
  · exact absurd hb' hb
  · exact ⟨p, t, u, c, h, tk, rfl, rfl, F, news_cons (news_tl N) (.tail _ (.tail _ (.tail _ hm))), off.mem _ hm, off⟩
theorem comp_end2 {s₁ : Shared} {S : List (Addr × Obj) → Prop} {rest : Value → List (Addr × Obj) → Prop} {y : Value} {q : Addr × Obj} (N : News h₀ L h (q :: (I, oI) :: (C, oC) :: (D, oD) :: old)) (F : Fr h₀ L h m) (off : Off3 I C D (q :: old)) (hS : S (q :: old)) (r : rest y (q :: old)) :
    CompEnd h₀ L m s₁ I oI C oC D oD S rest y { s₁ with heap := h, toks := tk } :=
  CompEnd.intro F N (q :: old) (fun p hp => by
    rcases List.mem_cons.mp hp with rfl | hp
    · exact .tail _ (.head _)
    rcases List.mem_cons.mp hp with rfl | hp
    · exact .tail _ (.tail _ (.head _))
    rcases List.mem_cons.mp hp with rfl | hp
    · exact .tail _ (.tail _ (.tail _ (.head _)))
    rcases List.mem_cons.mp hp with rfl | hp
    · exact .head _
    exact .tail _ (.tail _ (.tail _ (.tail _ hp)))) off hS r
end
end Mine
namespace Mine
theorem in_two {prog : Program} {w : World} {A : Around} {E : Value → Shared → Prop} {s : Shared} {g : Heap} {L T : Addr} {led : List (Addr × Obj)} {Q : Value → Shared → Prop} {k a b : Int} {t u v : Tok} {c : Nat} (N : News g L s.heap ((T, ({ cls := .type "tuple", data := .seq #[.int a u, .int b v] c } : Obj)) :: led))
    (h : ∀ x : Bool, (x = true ↔ k = a ∨ k = b) → Q (.bool x) s) : wpAny (model prog w) A (compareOp .In (.int k t) (.ref T)) Q E s := by
  refine in_tuple_ints (News.isTup N (.head _)) (.cons a u (.cons b v .nil)) (h _ ?_)
  simp only [List.any_cons, List.any_nil, Bool.or_false, Bool.or_eq_true, beq_iff_eq]
  constructor
  · rintro (h | h)
    · exact .inl h.symm
    · exact .inr h.symm
  · rintro (h | h)
    · exact .inl h.symm
    · exact .inr h.symm
end Mine
namespace Mine
def HV (c : Prop) (H : PySem.Str) (r : Int) (v : Value) (q : Addr × Obj) : Prop := (c ∧ v = .none) ∨ (¬ c ∧ ∃ a t u n, v = .ref a ∧ q = (a, tupi H t r u n))
section
variable {w : World} {mean : ExcName → Option Value} {mg mb : Str → Option Value} {dp un : Nat} {gd : Option (List Code)} {cn : Str} {cs : Scope} {aa : Addr} {ccd : Value} {cl : List (Str × Addr)} {A₀ : Around} {h₀ : Heap} {L : Addr} {m : Str → Option Value} {s : Shared} {Q E : Value → Shared → Prop} {news : List (Addr × Obj)}
theorem u_heardX {c : Prop} {H R X Y mk bd : PySem.Str} {lf rt port : Int} {t u : Tok} {q0 : Addr × Obj} (B : Below A₀ h₀ [] h₀) (F : Fr h₀ L s.heap m) (XI : (Mine.hd.heap_39 w.params).In h₀) (N : News h₀ L s.heap news) (T : Top Mine.hd.view_39 (looseW Mine.hd.view_39 []) mean mg mb h₀) (hk : cs.kind = .function) (hd : dp + 3 < recursionLimit) (hu : un + 24 < cLine)
    (pk : PickS c H R X Y) (rep : Rep R lf rt mk bd port) (hq0 : q0 ∈ news)
    (hret : ∀ (q : Addr × Obj) (v : Value) (h' : Heap) (tk' : Nat), HV c H port v q → Fr h₀ L h' m → News h₀ L h' (q :: news) → (q = q0 ∨ ∀ p ∈ news, p.1 < q.1) → Q v { s with heap := h', toks := tk' }) :
    wpAny (model PySem.Challenge.rw_xo0002_01.row.prog w) (ktrTop dp un gd cn cs L aa ccd cl []) (call (.ref 100) [.str X t, .str Y u]) Q E s := by
  rcases pk with ⟨hc, rfl, rfl⟩ | ⟨hc, rfl, rfl⟩
  · exact u_heard0 B F XI N T hk hd hu fun h' tk' F' N' => hret q0 .none h' tk' (.inl ⟨hc, rfl⟩) F' (news_cons N' hq0) (.inl rfl)
  · exact u_heard B F XI N T hk hd hu rep fun D t0 t1 n h' tk' F' N' l => hret (D, _) _ h' tk' (.inr ⟨hc, D, t0, t1, n, rfl, rfl⟩) F' N' (.inr l)
end
section
open LCg
variable {h₀ h : Heap} {L I C D : Addr} {m : PySem.Str → Option Value} {oI oC oD : Obj} {old : List (Addr × Obj)} {tk : Nat}
theorem comp_end3 {s₁ : Shared} {S : List (Addr × Obj) → Prop} {rest : Value → List (Addr × Obj) → Prop} {y : Value} {q q0 : Addr × Obj} (N : News h₀ L h (q :: (I, oI) :: (C, oC) :: (D, oD) :: old)) (F : Fr h₀ L h m) (hq : q = q0 ∨ ∀ p ∈ (I, oI) :: (C, oC) :: (D, oD) :: old, p.1 < q.1) (hq0 : q0 ∈ old) (off : Off3 I C D old) (hS : S (q :: old)) (r : rest y (q :: old)) :
    CompEnd h₀ L m s₁ I oI C oC D oD S rest y { s₁ with heap := h, toks := tk } := by
  refine comp_end2 N F ⟨?_, off⟩ hS r
  rcases hq with rfl | l9
  · exact off.mem _ hq0
  · exact ⟨Ne.symm (Nat.ne_of_lt (l9 (I, oI) (.head _))), Ne.symm (Nat.ne_of_lt (l9 (C, oC) (.tail _ (.head _)))), Ne.symm (Nat.ne_of_lt (l9 (D, oD) (.tail _ (.tail _ (.head _)))))⟩
end
end Mine
namespace Mine
def WV (c : Prop) (w : Addr) (v : Value) : Prop := (c ∧ v = .none) ∨ (¬ c ∧ v = .ref w)
def PZ (c : Prop) (r : Int) (v : Value) : Prop := (c ∧ v = .none) ∨ (¬ c ∧ ∃ t, v = .int r t)
open Classical in
noncomputable def dK (c : Prop) (H : PySem.Str) (r : Int) : PyData := if c then .none else .tuple [.str H, .int r]
theorem lay_dK {c : Prop} {H : PySem.Str} {r : Int} (h : PyData.strOk H = true) : (dK c H r).canLay0 = true ∧ (dK c H r).depth ≤ 1 := by
  unfold dK
  by_cases hc : c
  · rw [if_pos hc]; exact lay_none
  · rw [if_neg hc]; exact lay_si h
theorem rd_hv {g h : Heap} {L : Addr} {led : List (Addr × Obj)} {c : Prop} {H : PySem.Str} {r : Int} {v : Value} {q : Addr × Obj} (N : News g L h led) (hv : HV c H r v q) (m : q ∈ led) : RdsA h v (dK c H r) := by
  unfold dK
  rcases hv with ⟨hc, rfl⟩ | ⟨hc, a, t, u, n, rfl, rfl⟩
  · rw [if_pos hc]; exact rd_none
  · rw [if_neg hc]; exact rd_si N m
theorem rd_wv {g h : Heap} {L w : Addr} {led : List (Addr × Obj)} {c : Prop} {H : PySem.Str} {r : Int} {v : Value} {t u : Tok} {n : Nat} (N : News g L h led) (hv : WV c w v) (m : (w, tupi H t r u n) ∈ led) : RdsA h v (dK c H r) := by
  unfold dK
  rcases hv with ⟨hc, rfl⟩ | ⟨hc, rfl⟩
  · rw [if_pos hc]; exact rd_none
  · rw [if_neg hc]; exact rd_si N m
theorem rd_ii {g h : Heap} {L w : Addr} {led : List (Addr × Obj)} {x y : Int} {t u : Tok} {n : Nat} (N : News g L h led) (m : (w, ({ cls := .type "tuple", data := .seq #[.int x t, .int y u] n } : Obj)) ∈ led) (hx : x = 0) (hy : y = 0) : RdsA h (.ref w) (.tuple [.int 0, .int 0]) := by
  subst hx hy
  exact ⟨_, reads_tuple_at (N.get m) rfl rfl (.cons (.int ..) (.cons (.int ..) .nil))⟩
/-- what holds of a turn's value, its frame and its ledger kept -/
def PV (h₀ : Heap) (L : Addr) (m : PySem.Str → Option Value) (s : Shared) (all : List (Addr × Obj)) (P : Value → Prop) (v : Value) (s₂ : Shared) : Prop :=
  ∃ h tk, s₂ = { s with heap := h, toks := tk } ∧ Fr h₀ L h m ∧ News h₀ L h all ∧ P v
section
open LCg
variable {M : Model} {A : Around} {E : Value → Shared → Prop} {s : Shared} {h₀ h : Heap} {L I C D T a p : Addr} {m : PySem.Str → Option Value} {oI oC oD oT : Obj} {all old : List (Addr × Obj)} {P : Value → Prop} {tk : Nat} {v : Value}
theorem PV.intro (F : Fr h₀ L h m) (N : News h₀ L h all) (hv : P v) : PV h₀ L m s all P v { s with heap := h, toks := tk } := ⟨h, tk, rfl, F, N, hv⟩
theorem pv2 {S : List (Addr × Obj) → Prop} {rest : Value → List (Addr × Obj) → Prop} {code : Sem Value} {k : Nat} (P : Nat → Value → Prop) (F : Fr h₀ L s.heap m) (N : News h₀ L s.heap ((I, oI) :: (C, oC) :: (D, oD) :: old)) (off : Off3 I C D old)
    (hc : wpAny M A code (fun v s₂ => PV h₀ L m s ((I, oI) :: (C, oC) :: (D, oD) :: old) (P k) v s₂) E s)
    (hS : S old) (hk : ∀ v, P k v → rest v old) :
    wpAny M A code (CompEnd h₀ L m s I oI C oC D oD S rest) E s := by
  refine wpAny_mono hc (fun v s₂ q => ?_) fun _ _ q => q
  obtain ⟨h, tk, rfl, F, N, hv⟩ := q
  exact comp_end0 N F off hS (hk v hv)
theorem hv_is {Q : Value → Shared → Prop} {c : Prop} {H : PySem.Str} {r : Int} {q : Addr × Obj} (hv : HV c H r v q) (h1 : c → v = .none → wpAny M A (compareOp .Is .none .none) Q E s) (h2 : ∀ a t u n, ¬ c → v = .ref a → q = (a, tupi H t r u n) → wpAny M A (compareOp .Is (.ref a) .none) Q E s) :
    wpAny M A (compareOp .Is v .none) Q E s := by
  rcases hv with ⟨hc, rfl⟩ | ⟨hc, a, t, u, n, rfl, rfl⟩
  · exact h1 hc rfl
  · exact h2 a t u n hc rfl rfl
end
theorem pa_of {c : Prop} {r i j : Int} {k : Nat} {v : Value} (h : PZ c r v) (hc : c ↔ ((k : Int) = i ∨ (k : Int) = j)) : PA i j k r v := by
  rcases h with ⟨h, rfl⟩ | ⟨h, t, rfl⟩
  · exact .inl ⟨hc.mp h, rfl⟩
  · exact .inr ⟨fun x => h (hc.mpr x), t, rfl⟩
theorem min_max {a b : Int} (ha : 0 ≤ a ∧ a < 6) (hb : 0 ≤ b ∧ b < 6) : ∃ i j : Int, 0 ≤ i ∧ i ≤ j ∧ j < 6 ∧ ∀ k : Int, (k = a ∨ k = b) ↔ (k = i ∨ k = j) := by
  by_cases h : a ≤ b
  · exact ⟨a, b, ha.1, h, hb.2, fun k => Iff.rfl⟩
  · exact ⟨b, a, hb.1, by omega, ha.2, fun k => or_comm⟩
section
variable {prog : Program} {w : World} {A : Around} {E : Value → Shared → Prop} {s : Shared} {g : Heap} {L a b : Addr} {led : List (Addr × Obj)} {Q : Value → Shared → Prop} {xs ys : Array Value} {n n' : Nat} {zs : List Int}
theorem eq_rows (N : News g L s.heap led) (ma : (a, listOf xs n) ∈ led) (mb : (b, listOf ys n') ∈ led) (hx : IntsAre xs.toList zs) (hy : IntsAre ys.toList zs) (hu : A.units + 64 < cLine) (h : Q (.bool true) s) : wpAny (model prog w) A (compareOp .Eq (.ref a) (.ref b)) Q E s := by
  refine ke_eq_ints (xs := xs.toList) (ys := ys.toList) ?_ ?_ hx hy hu ?_
  · exact ⟨_, (N _ ma).1, rfl, n, rfl⟩
  · exact ⟨_, (N _ mb).1, rfl, n', rfl⟩
  · rw [decide_eq_true rfl]; exact h
end
end Mine
namespace Mine
section
open LCg
variable {M : Model} {A : Around} {E : Value → Shared → Prop} {s : Shared} {h₀ h : Heap} {L I C D : Addr} {m m₂ : PySem.Str → Option Value} {oI oC oD : Obj} {old : List (Addr × Obj)} {tk : Nat}
theorem pvW {S : List (Addr × Obj) → Prop} {rest : Value → List (Addr × Obj) → Prop} {code : Sem Value} {kk : Int} {t : Tok} {c : Prop} {w : Addr} (ps : List (Prop × Addr)) (F : Fr h₀ L s.heap m) (N : News h₀ L s.heap ((I, oI) :: (C, oC) :: (D, oD) :: old)) (off : Off3 I C D old)
    (hx : m₂ (Str.ofString "place") = some (.int kk t)) (hp : ps[kk.toNat]? = some (c, w))
    (hc : wpAny M A code (fun v s₂ => PV h₀ L m s ((I, oI) :: (C, oC) :: (D, oD) :: old) (WV c w) v s₂) E s)
    (hS : S old) (hk : ∀ v, WV c w v → rest v old) : wpAny M A code (CompEnd h₀ L m s I oI C oC D oD S rest) E s := pv2 (k := 0) (fun _ => WV c w) F N off hc hS hk
theorem pvH {S : List (Addr × Obj) → Prop} {rest : Value → List (Addr × Obj) → Prop} {code : Sem Value} {c : Prop} {H : PySem.Str} {r : Int} {v0 : Value} {q : Addr × Obj} (F : Fr h₀ L s.heap m) (N : News h₀ L s.heap ((I, oI) :: (C, oC) :: (D, oD) :: old)) (off : Off3 I C D old)
    (hx : m₂ (Str.ofString "told") = some v0) (hv : HV c H r v0 q)
    (hc : wpAny M A code (fun v s₂ => PV h₀ L m s ((I, oI) :: (C, oC) :: (D, oD) :: old) (PZ c r) v s₂) E s)
    (hS : S old) (hk : ∀ v, PZ c r v → rest v old) : wpAny M A code (CompEnd h₀ L m s I oI C oC D oD S rest) E s := pv2 (k := 0) (fun _ => PZ c r) F N off hc hS hk
theorem wv_bad {all : List (Addr × Obj)} {c : Prop} {w : Addr} {q : Addr × Obj} (F : Fr h₀ L h m) (N : News h₀ L h (q :: all)) (hc : c) : PV h₀ L m s all (WV c w) .none { s with heap := h, toks := tk } := PV.intro F (news_tl N) (.inl ⟨hc, rfl⟩)
theorem wv_good {all : List (Addr × Obj)} {c : Prop} {w : Addr} {q : Addr × Obj} (F : Fr h₀ L h m) (N : News h₀ L h (q :: all)) (hc : ¬ c) : PV h₀ L m s all (WV c w) (.ref w) { s with heap := h, toks := tk } := PV.intro F (news_tl N) (.inr ⟨hc, rfl⟩)
end
end Mine
namespace Mine
theorem told1 {prog : Program} {w : World} {A : Around} {E : Value → Shared → Prop} {s : Shared} {g : Heap} {L a : Addr} {value slice : PySem.Expr} {led : List (Addr × Obj)} {Q : Value → Shared → Prop} {u : Tok} {H : PySem.Str} {t z : Tok} {r : Int} {n : Nat} {q : Addr × Obj}
    (N : News g L s.heap led) (hq : q = (a, tupi H t r z n)) (hm : q ∈ led) (h : Q (.int r z) s)
    (hs : subscripted slice false (.ref a) (.int 1 u) = operate [.ref a, .int 1 u] (getItem (.ref a) (.int 1 u)) := by with_unfolding_all rfl) :
    wpAny (model prog w) A (subscriptTail value slice (.ref a) (.int 1 u)) Q E s := by
  subst hq
  have ht : IsTup s.heap a #[.str H t, .int r z] := News.isTup N hm
  exact tail_any ht.typeIs slot_tuple_getitem.lookup (getItem_tuple ht (by decide) (by decide) (j := 1) rfl rfl h) hs
end Mine
namespace Mine
theorem news_keep13 {g h : Heap} {L : Addr} {x0 x1 x2 x3 x4 x5 x6 y0 y1 y2 y3 y4 y5 y6 : Addr × Obj} {r : List (Addr × Obj)} (N : News g L h (x0 :: x1 :: x2 :: x3 :: x4 :: x5 :: x6 :: y0 :: y1 :: y2 :: y3 :: y4 :: y5 :: y6 :: r)) : News g L h (x0 :: x1 :: x2 :: x3 :: x4 :: x5 :: x6 :: r) := fun q hq => by
  refine N q ?_
  simp only [List.mem_cons] at hq ⊢
  rcases hq with h | h | h | h | h | h | h | h <;> simp only [h, true_or, or_true]
end Mine
namespace Mine
def AllIn (led : List (Addr × Obj)) : List (Addr × Obj) → Prop
  | [] => True
  | p :: r => p ∈ led ∧ AllIn led r
theorem AllIn.of {led : List (Addr × Obj)} : ∀ {l : List (Addr × Obj)}, (∀ p ∈ l, p ∈ led) → AllIn led l
  | [], _ => trivial
  | _ :: _, h => ⟨h _ (.head _), AllIn.of fun p hp => h p (.tail _ hp)⟩
/-- a ledger behind a name: one entry in front, the rest by what lies in it -/
theorem open_led {g h : Heap} {L : Addr} {c : Addr × Obj} {l l' : List (Addr × Obj)} (N : News g L h l) (hc : c ∈ l) (hs : ∀ p ∈ l', p ∈ l) (hn : ∀ p ∈ l', p.1 ≠ c.1) :
    ∃ led, News g L h (c :: led) ∧ (∀ p ∈ led, p.1 ≠ c.1) ∧ AllIn led l' := by
  refine ⟨l', fun p hp => ?_, hn, AllIn.of fun p hp => hp⟩
  rcases List.mem_cons.mp hp with rfl | hp
  · exact N _ hc
  · exact N _ (hs _ hp)
theorem news_drop7 {g h : Heap} {L : Addr} {x0 x1 x2 x3 x4 x5 x6 y : Addr × Obj} {r : List (Addr × Obj)} (N : News g L h (x0 :: x1 :: x2 :: x3 :: x4 :: x5 :: x6 :: y :: r)) : News g L h (x0 :: x1 :: x2 :: x3 :: x4 :: x5 :: x6 :: r) := fun q hq => by
  refine N q ?_
  simp only [List.mem_cons] at hq ⊢
  rcases hq with h | h | h | h | h | h | h | h <;> simp only [h, true_or, or_true]
end Mine
end

section
open PySem PySem.W PyProof.Rows PySem.Spec PySem.Calls
set_option Elab.async false
set_option maxRecDepth 100000
set_option linter.unusedVariables false
namespace Mine
def chain3 (x y1 y2 : PySem.Str) (v0 v1 v2 : Option Value) (m : PySem.Str → Option Value) (z : PySem.Str) : Option Value :=
  if z = x then v0 else if z = y1 then v1 else if z = y2 then v2 else m z
theorem chain3_of {x y1 y2 : PySem.Str} {fm m : PySem.Str → Option Value} (hx : ∀ z, z ≠ x → z ≠ y1 → z ≠ y2 → fm z = m z) :
    ∃ v0 v1 v2, ∀ z, chain3 x y1 y2 v0 v1 v2 m z = fm z := by
  refine ⟨fm x, fm y1, fm y2, fun z => ?_⟩
  unfold chain3
  by_cases h0 : z = x
  · rw [if_pos h0, h0]
  rw [if_neg h0]
  by_cases h1 : z = y1
  · rw [if_pos h1, h1]
  rw [if_neg h1]
  by_cases h2 : z = y2
  · rw [if_pos h2, h2]
  rw [if_neg h2, hx z h0 h1 h2]
/-- what the pairs told so far are -/
def PrF (H : Nat → PySem.Str) (g : Nat → Tok) (rr : Nat → Int) (c : Nat → Prop) (i : Nat) (ys : Array Value) (led : List (Addr × Obj)) : Prop :=
  ys.size = i ∧ ∀ j, j < i → ∃ p R q, ys[j]? = some (.ref p) ∧ (p, tup2 (H j) (g j) R q 0) ∈ led ∧ Reply R (rr j) (c j)
def PrEnd (h₀ : Heap) (L : Addr) (s : Shared) (x y1 y2 : PySem.Str) (m₀ : PySem.Str → Option Value) (Pl I : Addr) (oI : Obj) (H : PySem.Str) (g : Tok) (r : Int) (c : Prop) (ys : Array Value) (cc : Nat) (led : List (Addr × Obj)) (fl : Flow) (s₂ : Shared) : Prop :=
  fl = .next ∧ ∃ h' tk' v0 v1 v2 p R q, s₂ = { s with heap := h', toks := tk' } ∧ Fr h₀ L h' (chain3 x y1 y2 v0 v1 v2 m₀) ∧ News h₀ L h' ((p, tup2 H g R q 0) :: (I, oI) :: (Pl, listOf (ys.push (.ref p)) (cc + 1)) :: led) ∧ @Ne Nat p I ∧ @Ne Nat p Pl ∧ Reply R r c
theorem PrEnd.intro {h₀ h' : Heap} {L : Addr} {s : Shared} {x y1 y2 : PySem.Str} {fm m₀ : PySem.Str → Option Value} {Pl I p : Addr} {oI : Obj} {H R : PySem.Str} {g q : Tok} {r : Int} {c : Prop} {ys : Array Value} {cc tk' : Nat} {led : List (Addr × Obj)} (F : Fr h₀ L h' fm)
    (hx : ∀ z, z ≠ x → z ≠ y1 → z ≠ y2 → fm z = m₀ z) (N : News h₀ L h' ((p, tup2 H g R q 0) :: (I, oI) :: (Pl, listOf (ys.push (.ref p)) (cc + 1)) :: led)) (h1 : @Ne Nat p I) (h2 : @Ne Nat p Pl) (hR : Reply R r c) :
    PrEnd h₀ L s x y1 y2 m₀ Pl I oI H g r c ys cc led .next { s with heap := h', toks := tk' } := by
  obtain ⟨v0, v1, v2, e⟩ := chain3_of hx
  exact ⟨rfl, h', tk', v0, v1, v2, p, R, q, rfl, fr_same F e, N, h1, h2, hR⟩
section
variable {prog : Program} {w : World} {A : Around} {E : Value → Shared → Prop} {s : Shared} {h₀ : Heap} {env : Env} {x y1 y2 : PySem.Str} {body : List Stmt} {Q : Flow → Shared → Prop}
theorem pairs_loop {r Pl : Addr} {a₀ b₀ : Int} {t₀ u₀ v₀ : Tok} {n c₀ : Nat} {m₀ : PySem.Str → Option Value} {led0 : List (Addr × Obj)} (H : Nat → PySem.Str) (g : Nat → Tok) (rr : Nat → Int) (c : Nat → Prop)
    (hh : A.handled = none) (hr : IsRange s.heap r a₀ b₀ 1 t₀ u₀ v₀) (hsmall : Builtin.Range.small a₀ b₀ 1 = true) (hn : Builtin.Range.rangeSize a₀ b₀ 1 = (n : Int)) (F : Fr h₀ env.locals s.heap m₀) (N : News h₀ env.locals s.heap ((Pl, listOf #[] c₀) :: led0)) (hn0 : ∀ p ∈ led0, p.1 ≠ Pl)
    (step : ∀ I (i : Nat) (ys : Array Value) cc led tx v1 v2 h tk, @LT.lt Nat _ Pl I → i < n → ys.size = i → (∀ p ∈ led, p.1 ≠ Pl) → (∀ p ∈ led0, p ∈ led) → Fr h₀ env.locals h (fun z => if z = x then some (.int (a₀ + (i : Int)) tx) else if z = y1 then v1 else if z = y2 then v2 else m₀ z) →
      News h₀ env.locals h ((I, itR (a₀ + ((i + 1 : Nat) : Int)) ((n : Int) - ((i + 1 : Nat) : Int))) :: (Pl, listOf ys cc) :: led) →
      wpAny (model prog w) A (execs body env) (PrEnd h₀ env.locals s x y1 y2 m₀ Pl I (itR (a₀ + ((i + 1 : Nat) : Int)) ((n : Int) - ((i + 1 : Nat) : Int))) (H i) (g i) (rr i) (c i) ys cc led) E { s with heap := h, toks := tk })
    (fin : ∀ h tk v0 v1 v2 ys cc led, PrF H g rr c n ys led → (∀ p ∈ led0, p ∈ led) → Fr h₀ env.locals h (chain3 x y1 y2 v0 v1 v2 m₀) → News h₀ env.locals h ((Pl, listOf ys cc) :: led) → Q .next { s with heap := h, toks := tk }) :
    wpAny (model prog w) A (pyIter (.ref r)) (fun it s₂ => LoopAtV prog w A h₀ env x body Q E it s₂) E s := by
  refine iter_rangeUnr hh hr hsmall hn F N fun I hI => ?_
  have hPI : @LT.lt Nat _ Pl I := hI _ (.head _)
  refine range_ind (fun k m nw => ∃ ys cc led v0 v1 v2, nw = (Pl, listOf ys cc) :: led ∧ PrF H g rr c k ys led ∧ (∀ p ∈ led, p.1 ≠ Pl) ∧ (∀ p ∈ led, p.1 ≠ I) ∧ (∀ p ∈ led0, p ∈ led) ∧ ∀ z, chain3 x y1 y2 v0 v1 v2 m₀ z = m z) ?_ ?_ n 0 m₀ _ (Nat.zero_add n) ?_
  · rintro i m nw t h tk hi ⟨ys, cc, led, v0, v1, v2, rfl, hP, hl1, hl2, hs, hm⟩ F₁ N₁
    refine wpAny_mono (step I i ys cc led t v1 v2 h tk hPI hi hP.1 hl1 hs (fr_same F₁ fun z => ?_) N₁) (fun fl s₂ q => ?_) fun _ _ q => q
    · by_cases h1 : z = x
      · rw [if_pos h1, if_pos h1]
      · rw [if_neg h1, if_neg h1, ← hm z, chain3, if_neg h1]
    · obtain ⟨rfl, h', tk', v0', v1', v2', p, R, q, rfl, F₂, N₂, np1, np2, hR⟩ := q
      refine ⟨rfl, h', tk', _, (Pl, listOf (ys.push (.ref p)) (cc + 1)) :: (p, tup2 (H i) (g i) R q 0) :: led, rfl, F₂, fun e he => ?_, fun e he => ?_, _, _, _, v0', v1', v2', rfl, ⟨?_, fun j hj => ?_⟩, ?_, ?_, fun e he => .tail _ (hs e he), fun z => rfl⟩
      · rcases List.mem_cons.mp he with rfl | he
        · exact N₂ _ (.tail _ (.head _))
        rcases List.mem_cons.mp he with rfl | he
        · exact N₂ _ (.tail _ (.tail _ (.head _)))
        rcases List.mem_cons.mp he with rfl | he
        · exact N₂ _ (.head _)
        · exact N₂ _ (.tail _ (.tail _ (.tail _ he)))
      · rcases List.mem_cons.mp he with rfl | he
        · exact Nat.ne_of_lt hPI
        rcases List.mem_cons.mp he with rfl | he
        · exact np1
        · exact hl2 e he
      · rw [Array.size_push, hP.1]
      · by_cases hji : j = i
        · subst hji
          exact ⟨p, R, q, by rw [← hP.1, Array.getElem?_push_size], .head _, hR⟩
        · obtain ⟨p', R', q', e1, e2, e3⟩ := hP.2 j (by omega)
          exact ⟨p', R', q', by rw [Array.getElem?_push_lt (by rw [hP.1]; omega), ← e1, Array.getElem?_eq_getElem], .tail _ e2, e3⟩
      · intro e he
        rcases List.mem_cons.mp he with rfl | he
        · exact np2
        · exact hl1 e he
      · intro e he
        rcases List.mem_cons.mp he with rfl | he
        · exact np1
        · exact hl2 e he
  · rintro m nw ⟨ys, cc, led, v0, v1, v2, rfl, hP, hl1, hl2, hs, hm⟩ h tk F₁ N₁
    exact fin h tk v0 v1 v2 ys cc led hP hs (fr_same F₁ hm) N₁
  · obtain ⟨v0, v1, v2, e⟩ := chain3_of (x := x) (y1 := y1) (y2 := y2) (fm := m₀) (m := m₀) (fun _ _ _ _ => rfl)
    exact ⟨#[], c₀, led0, v0, v1, v2, rfl, ⟨rfl, fun j hj => absurd hj (Nat.not_lt_zero j)⟩, hn0, fun p hp => Nat.ne_of_lt (hI p (.tail _ hp)), fun p hp => hp, e⟩
end
theorem AllIn.sub {led : List (Addr × Obj)} : ∀ {l : List (Addr × Obj)}, AllIn led l → ∀ p ∈ l, p ∈ led
  | [], _, _, h => nomatch h
  | _ :: _, x, p, h => by
    rcases List.mem_cons.mp h with rfl | h
    · exact x.1
    · exact AllIn.sub x.2 p h
/-- a ledger behind a name, by what lies in it -/
theorem absorb {g h : Heap} {L : Addr} {l : List (Addr × Obj)} (N : News g L h l) : ∃ led, News g L h led ∧ AllIn led l := ⟨l, N, AllIn.of fun p hp => hp⟩
/-- marks a join's inner goal -/
structure PjMk : Prop where mk ::
end Mine
end

section
open PySem PySem.W PyProof.Rows
set_option Elab.async false
namespace Mine
theorem u16_mod (n : Int) : U16 (Int.fmod n 65536) := ⟨fmod_lo _ (by decide), fmod_hi _ (by decide)⟩
end Mine
end

open PySem PySem.W PyProof.Rows PySem.Spec PySem.Calls
set_option Elab.async false
set_option maxRecDepth 100000
set_option linter.unusedVariables false
namespace Mine
abbrev St (s : Shared) (h : Heap) (tk : Nat) : Shared := { s with heap := h, toks := tk }
theorem six_of {ns : List Int} {ws : List Value} (h : IntsAre ws (List.take 6 ns ++ List.drop (((List.take 6 ns).length : Nat) : Int).toNat [32768, 1, 0, 3, 1, 4])) :
    ∃ n0 n1 n2 n3 n4 n5 t0 t1 t2 t3 t4 t5, ws = [Value.int n0 t0, Value.int n1 t1, Value.int n2 t2, Value.int n3 t3, Value.int n4 t4, Value.int n5 t5] := by
  have hl := h.length
  have h6 : ws.length = 6 := by
    rw [hl, List.length_append, List.length_drop, Int.toNat_natCast, List.length_take]
    simp only [List.length_cons, List.length_nil]
    omega
  revert h6 h
  generalize List.take 6 ns ++ List.drop (((List.take 6 ns).length : Nat) : Int).toNat [32768, 1, 0, 3, 1, 4] = zs
  intro h h6
  cases h with
  | nil => simp at h6
  | cons n0 t0 h => cases h with
    | nil => simp at h6
    | cons n1 t1 h => cases h with
      | nil => simp at h6
      | cons n2 t2 h => cases h with
        | nil => simp at h6
        | cons n3 t3 h => cases h with
          | nil => simp at h6
          | cons n4 t4 h => cases h with
            | nil => simp at h6
            | cons n5 t5 h => cases h with
              | nil => exact ⟨n0, n1, n2, n3, n4, n5, t0, t1, t2, t3, t4, t5, rfl⟩
              | cons _ _ _ => simp at h6
theorem nea_symm {a b : Nat} (h : a ≠ b) : NeA b a := fun e => h e.symm
theorem with_pass {M : Model} {A : Around} {E : Value → Shared → Prop} {env : Env} {stmts : List Stmt} {Q : Flow → Shared → Prop} {s : Shared} (hE : PassesOwn M A env E) (h : PassesOwn M A env E → wpAny M A (execs stmts env) Q E s) : wpAny M A (execs stmts env) Q E s := h hE
end Mine
open Mine
local macro_rules | `(tactic| walk_at "subscriptTail Name Slice ref ref") => `(tactic| (k_here; (k_dflt (k_extra "slice"))))
local macro_rules | `(tactic| walk_at "call builtin:len") => `(tactic| (k_here; (k_dflt (k_extra "len"))))
local macro_rules | `(tactic| walk_at "subscriptTail List") => `(tactic| walk_at "last subscriptTail")
local macro_rules | `(tactic| walk_at "subscriptTail Name Constant ref int") => `(tactic| (k_here; k_dflt (first | k_extra "told1" | (refine' item_ledL ?k1 ?k2 (by decide) (by decide) ?k5 ?_ ?k6; (case k1 => k_asm); (case k2 => k_mem); (case k5 => exact rfl); (case k6 => with_unfolding_all rfl); k_whole))))
local macro_rules | `(tactic| walk_at "exec For Name Call cons nil") => `(tactic| (k_here; (rename Fr _ _ _ _ => lF'); (refine' For_invVF lF' ?k1 ?k2 ?_ (hs := ?k3) (hE := ?k4); (case k1 => exact rfl); (case k2 => exact rfl); (case k3 => (intro _; rfl)); (case k4 => first | assumption | passes_own); k_whole)))
local macro_rules | `(tactic| walk_at "RangeRest") => `(tactic| (k_here; k_dflt (first | (refine RangeRest.succ (fun t' h' tk' F' N' => ?_); (dsimp only [envOfC] at F' N')) | (refine RangeRest.zero (fun h' tk' F' N' => ?_); (dsimp only [envOfC] at F' N')))))
local macro_rules | `(tactic| walk_at "subscriptTail Constant") => `(tactic| (k_here; (with_reducible show wpAny _ _ (subscriptTail _ _ (Value.str _ _) (Value.int _ _)) _ _ _); k_dflt (refine' KXi.item (n := 3) ?z1 ?z2 ?z3 (by decide) ?_; (case z1 => decide); (case z2 => exact Int.le_trans (by decide) (fmod_lo _ (by decide))); (case z3 => exact fmod_hi _ (by decide))); intro item_plain; clear item_plain))
local macro_rules | `(tactic| walk_at "storeName str") => `(tactic| (k_here; first | ((with_reducible refine mark_store ?_); intro mk0 mkA) | ((with_reducible refine ahead_store ?_); intro ah0 ahA)))
local macro_rules | `(tactic| walk_at "binaryOp Mult str int") => `(tactic| (k_here; ((refine' mul3 (by assumption) ?_); intro mu0 _ _ mu1 mu2)))
local macro_rules | `(tactic| walk_at "binaryOp Add str str") => `(tactic| (k_here; ((first | (with_reducible refine add1 (by assumption) (by assumption) ?_) | (with_reducible refine add2 (by assumption) (by assumption) ?_) | (with_reducible refine add3 (by assumption) (by assumption) ?_) | (with_reducible refine add4 (by assumption) ?_)); intro ad0 _ _ ad1 ad2)))
local macro_rules | `(tactic| walk_at "subscriptTail Name Name ref int") => `(tactic| (k_here; (k_dflt (first | k_extra "itemsym" | (refine' item_ledL ?k1 ?k2 (by decide) (by decide) ?k5 ?_ ?k6; (case k1 => k_asm); (case k2 => k_mem); (case k5 => exact rfl); (case k6 => with_unfolding_all rfl); k_whole)))))
local macro_rules | `(tactic| walk_at "call type:str cons nil") => `(tactic| (k_here; (refine' str16 (by assumption) ?_)))
local macro_rules | `(tactic| walk_at "eval IfExp") => `(tactic| (k_here; (k_dflt (k_extra "ifexp"))))
local macro_rules | `(tactic| walk_at "CompSrc") => `(tactic| (k_here; (k_dflt (k_extra "compsrc"))))
local macro_rules | `(tactic| walk_at "CompEnd") => `(tactic| (k_here; (k_dflt (k_extra "compend"))))
local macro_rules | `(tactic| walk_at "CompRestP") => `(tactic| k_extra "comprestp")
local macro_rules | `(tactic| walk_at "CompRest") => `(tactic| k_extra "comprest")
local macro_rules | `(tactic| walk_at "FinE") => `(tactic| (k_dflt (k_extra "fine")))
local macro_rules | `(tactic| walk_at "newTuple") => `(tactic| (k_here; k_dflt (k_extra "newtuple")))
local macro_rules | `(tactic| walk_at "compareOp NotEq ref ref") => `(tactic| (k_here; (k_dflt (k_extra "cmpne"))))
local macro_rules | `(tactic| walk_at "PJ") => `(tactic| (k_dflt (k_extra "pjend")))
local macro_rules | `(tactic| walk_at "compareOp In int ref") => `(tactic| (k_here; (k_dflt (k_extra "intwo"))))
local macro_rules | `(tactic| walk_at "FinA") => `(tactic| (k_dflt (k_extra "fina")))
local macro_rules | `(tactic| walk_at "PV") => `(tactic| (k_dflt (k_extra "pvend")))
local macro_rules | `(tactic| walk_at "compareOp Is") => `(tactic| (k_here; (k_dflt (k_extra "isnone"))))
local macro_rules | `(tactic| walk_at "compareOp Eq ref ref") => `(tactic| (k_here; (k_dflt (k_extra "cmpeq"))))
local macro_rules | `(tactic| walk_at "pyIter ref") => `(tactic| (k_here; (with_reducible show wpAny _ _ (pyIter (Value.ref _)) (fun it s₂ => LoopAtV _ _ _ _ _ _ _ _ _ it s₂) _ _); (k_dflt (k_extra "rangeiter"))))
local macro_rules | `(tactic| walk_at "KCj") => `(tactic| (k_dflt (k_extra "kcj")))
local macro_rules | `(tactic| walk_at "PrEnd") => `(tactic| (k_here; (k_dflt (k_extra "prend"))))
local macro_rules | `(tactic| walk_at "call builtin:list.append") => `(tactic| (k_here; (with_reducible show wpAny _ _ (call (Value.builtin _) [Value.ref _, _]) _ _ _); k_dflt (k_extra "append")))
local macro_rules | `(tactic| walk_at "exec Assign cons ListComp") => `(tactic| (k_here; k_dflt (k_extra "asg")))
local macro_rules | `(tactic| walk_at "eval ListComp") => `(tactic| (k_here; k_dflt (k_extra "elc")))
local macro_rules | `(tactic| k_mem) => `(tactic| first | with_reducible_and_instances assumption | k_extra "mem")
local macro_rules | `(tactic| k_all) => `(tactic| with_reducible assumption)
local macro_rules | `(tactic| k_ne) => `(tactic| first | (show NeA _ _; assumption) | (refine Ne.symm ?_; show NeA _ _; assumption))
local macro_rules | `(tactic| walk_at "call ref") => `(tactic| (k_here; (k_dflt (first
  | k_extra "callref"
  | (refine' u_row ?k1 ?k2 ?k3 ?k4 ?k5 ?kK ?kd ?ku ?kl ?ki ?_; (case k1 => k_asm); (case k2 => k_asm); (case k3 => k_asm); (case k4 => k_asm); (case k5 => k_asm); (case kK => first | exact rfl | assumption); (case kd => ktr_room); (case ku => ktr_units); (case kl => kmk_list); (case ki => k_extra "rowints"); intro D9 u0 u1 u2 u3 u4 u5 n9 h9 tk9 F9 N9 l9; (try dsimp only); (try k_lt l9); (try k_sweep); (try k_fold))))))
set_option maxHeartbeats 100000000 in
theorem Mine.law_walk : PySem.Challenge.rw_xo0002_01.Holds := Mine.hd (by
  k_go0
  (all_goals try k_fold)
  rename_i w s0 s1 mg mb G Y fa o pm doc ho hg KX X V GL T B TE TW a1 o1 M a2 a3 hcd ns hs hlay0 hL0 hr0 hl2 l1 l2 sa vs l3 hL ra w1 r0 hI hr hc1 hc2 K0 hD h1 tk1 F c6 c5 c4 c3 c2 c1 d6 d5 d4 d3 d2 d1 N0 X0
  have hend : ∀ h tk m, Fr s1.heap s1.heap.objs.size h m → qk (.ret (.bool true)) (St s1 h tk) := by
    intro h tk m F'
    k_unfold
    dsimp only
    kc_close
  have F0 : Fr s1.heap s1.heap.objs.size h1 (fun y => if y = Str.ofString "script" then some (.ref sa) else none) := fr_same F (fun y => rfl)
  have e6 : c6.data = .cell none := d6
  have e5 : c5.data = .cell none := d5
  have e4 : c4.data = .cell none := d4
  have e3 : c3.data = .cell none := d3
  have e2 : c2.data = .cell none := d2
  have e1 : c1.data = .cell none := d1
  clear F d6 d5 d4 d3 d2 d1 X0 hD hr w1 r0 ra hr0 hs hlay0 hl2 hcd M TW TE B GL V X G ho hg
  dsimp only
  refine with_pass (by passes_own) (fun hpass => ?_)
  clear_value qk ek
  generalize hL0d : s1.heap.objs.size = L0 at *
  refine seq_cut (fun s' => ∀ Cq9 : Prop, (∀ (D : Addr) (n0 n1 n2 n3 n4 n5 : Int) (t0 t1 t2 t3 t4 t5 : Tok) (h : Heap) (tk : Nat), s' = St s1 h tk → Fr s1.heap L0 h (fun y => if y = Str.ofString "numbers" then some (.ref D) else if y = Str.ofString "script" then some (.ref sa) else none) → News s1.heap L0 h ((D, listOf #[.int n0 t0, .int n1 t1, .int n2 t2, .int n3 t3, .int n4 t4, .int n5 t5] 0) :: [(L0 + 1 + 1 + 1 + 1 + 1 + 1, c6), (L0 + 1 + 1 + 1 + 1 + 1, c5), (L0 + 1 + 1 + 1 + 1, c4), (L0 + 1 + 1 + 1, c3), (L0 + 1 + 1, c2), (L0 + 1, c1)]) → @LT.lt Nat _ (L0 + 1 + 1 + 1 + 1 + 1 + 1) D → Cq9) → Cq9) ?_ ?_
  · with_reducible change wpAny _ _ _ _ _ _
    k_fold
    k_with_none
    w_top off
    have hszs : vs.toArray.size ≤ sizeLine := by rw [List.size_toArray, hI.length, PySem.sizeLine_eq]; omega
    k_with "slice" => ((refine' kmk_slice_ints ?yF ?yN ?yl ?yp ?yq ?yi ?ym ?yc ?_ ?ys ?yt ?yz; (case yF => k_asm); (case yN => k_asm); (case yl => kmk_list); (case yp => kmk_part); (case yq => kmk_part); (case yi => first | exact hI | (repeat constructor)); (case ym => first | exact kmk_upto hI (by decide) | exact kmk_from (by repeat constructor) (by omega) | kmk_nums); (case yc => exact rfl); (case ys => with_unfolding_all rfl); (case yt => kmk_pure); (case yz => first | exact hszs | exact Nat.le_of_ble_eq_true rfl)); intro D' ws' h' F' N' l1 hI' hC' hL'; (try simp only [Int.reduceToNat] at hI'); clear hC' hL'; (try k_lt l1); (try k_sweep))
    k_with "len" => ((refine' len_ints ?yl ?yi ?yf ?_); (case yl => kmk_list); (case yi => assumption); (case yf => (rw [List.length_take]; omega)))
    repeat' (first | (k_unfold; (try dsimp only)) | (k_end; kc_close) | walk1 | (dsimp only; walk1) | (leave1; walk_say "STEP leave1"; (try dsimp only)) | fail "no step")
    rename IntsAre _ (List.take 6 ns ++ _) => hz
    have hq := six_of hz
    obtain ⟨n0, n1, n2, n3, n4, n5, t0, t1, t2, t3, t4, t5, hq⟩ := hq
    subst hq
    rename (_ ∧ _ ∧ _ ∧ _ ∧ @LT.lt Nat _ (L0 + 1 + 1 + 1 + 1 + 1 + 1) _ ∧ _) => q9
    rename Fr _ L0 _ _ => kF
    refine CutEnd.intro (fun Cq9 kq9 => kq9 _ n0 n1 n2 n3 n4 n5 t0 t1 t2 t3 t4 t5 _ _ rfl kF ?_ q9.2.2.2.2.1)
    rename News s1.heap L0 _ _ => kN
    intro p hp
    refine kN p ?_
    rcases List.mem_cons.mp hp with rfl | hp
    · k_mem
    · exact .tail _ (.tail _ (.tail _ (.tail _ (.tail _ hp))))
  intro s' hM9
  refine hM9 _ ?_
  clear hM9
  rintro D n0 n1 n2 n3 n4 n5 t0 t1 t2 t3 t4 t5 h2 tk2 rfl F2 N2 lt2
  clear F0 N0 hI hL hc1 hc2 hL0
  refine seq_cut (fun s' => ∀ Cq9 : Prop, (∀ (r0 r1 r2 r3 r4 r5 : Int) (u0 u1 u2 u3 u4 u5 : Tok) (Rw : Addr) (rn : Nat) (cr : Obj) (h : Heap) (tk : Nat), s' = St s1 h tk → (U16 r0 ∧ U16 r1 ∧ U16 r2 ∧ U16 r3 ∧ U16 r4 ∧ U16 r5) → sumP r0 r1 r2 r3 r4 r5 = 0 → sumF r0 r1 r2 r3 r4 r5 = 0 → cr.data = .cell (some (.ref Rw)) → Fr s1.heap L0 h (fun y => if y = Str.ofString "numbers" then some (.ref D) else if y = Str.ofString "script" then some (.ref sa) else none) → News s1.heap L0 h ((Rw, listOf #[.int r0 u0, .int r1 u1, .int r2 u2, .int r3 u3, .int r4 u4, .int r5 u5] rn) :: [(D, listOf #[.int n0 t0, .int n1 t1, .int n2 t2, .int n3 t3, .int n4 t4, .int n5 t5] 0), (L0 + 1 + 1 + 1 + 1 + 1 + 1, c6), (L0 + 1 + 1 + 1 + 1 + 1, c5), (L0 + 1 + 1 + 1 + 1, c4), (L0 + 1 + 1 + 1, c3), (L0 + 1 + 1, c2), (L0 + 1, cr)]) → @LT.lt Nat _ D Rw → Cq9) → Cq9) ?_ ?_
  · with_reducible change wpAny _ _ _ _ _ _
    k_fold
    k_with_none
    w_top off
    k_with "slice" => ((refine' kmk_slice_ints (ns := [n0, n1, n2, n3, n4, n5]) (ms := [n0, n1, n2, n3]) ?yF ?yN ?yl ?yp ?yq ?yi ?ym ?yc ?_ ?ys ?yt ?yz; (case yF => k_asm); (case yN => k_asm); (case yl => kmk_list); (case yp => kmk_part); (case yq => kmk_part); (case yi => repeat constructor); (case ym => exact kmk_upto (ns := [n0, n1, n2, n3, n4, n5]) (by repeat constructor) (by decide)); (case yc => exact rfl); (case ys => with_unfolding_all rfl); (case yt => kmk_pure); (case yz => exact Nat.le_of_ble_eq_true rfl)); intro D' ws' h' F' N' l1 hI' hC' hL'; (try k_lt l1); (try k_sweep))
    k_with "rowints" => (show IntsAre _ [Int.fmod n0 65536, Int.fmod n1 65536, Int.fmod n2 65536, Int.fmod n3 65536]; assumption)
    repeat' (first | (k_unfold; (try dsimp only)) | (k_end; kc_close) | walk1 | (dsimp only; walk1) | (leave1; walk_say "STEP leave1"; (try dsimp only)) | fail "no step")
    rename News _ L0 _ _ => kN
    rename Fr _ L0 _ _ => kF
    rename (_ ∧ _ ∧ @LT.lt Nat _ D _ ∧ _) => q9
    rename _ = Data.cell (some _) => d9
    obtain ⟨hu, hp, hf⟩ := rows_ok' (u16_mod n0) (u16_mod n1) (u16_mod n2) (u16_mod n3)
    refine CutEnd.intro (fun Cq9 kq9 => kq9 _ _ _ _ _ _ _ _ _ _ _ _ _ _ _ _ _ rfl hu hp hf d9 kF (news_drop2 kN) q9.2.2.1)
  intro s' hM9
  refine hM9 _ ?_
  clear hM9
  rintro r0 r1 r2 r3 r4 r5 u0 u1 u2 u3 u4 u5 Rw rn cr h3 tk3 rfl hu hP hF dR F3 N3 lt3
  clear F2 N2 e1
  refine seq_cut (fun s' => ∀ Cq9 : Prop, (∀ (o1 o2 : Int) (v1 v2 : Tok) (x2 x3 : Obj) (h : Heap) (tk : Nat), s' = St s1 h tk → (0 ≤ o1 ∧ o1 < 6) → (0 ≤ o2 ∧ o2 < 6) → x2.data = .cell (some (.int o1 v1)) → x3.data = .cell (some (.int o2 v2)) → Fr s1.heap L0 h (fun y => if y = Str.ofString "numbers" then some (.ref D) else if y = Str.ofString "script" then some (.ref sa) else none) → News s1.heap L0 h [(Rw, listOf #[.int r0 u0, .int r1 u1, .int r2 u2, .int r3 u3, .int r4 u4, .int r5 u5] rn), (D, listOf #[.int n0 t0, .int n1 t1, .int n2 t2, .int n3 t3, .int n4 t4, .int n5 t5] 0), (L0 + 1 + 1 + 1 + 1 + 1 + 1, c6), (L0 + 1 + 1 + 1 + 1 + 1, c5), (L0 + 1 + 1 + 1 + 1, c4), (L0 + 1 + 1 + 1, x3), (L0 + 1 + 1, x2), (L0 + 1, cr)] → Cq9) → Cq9) ?_ ?_
  · with_reducible change wpAny _ _ _ _ _ _
    k_fold
    k_with_none
    w_top off
    repeat' (first | (k_unfold; (try dsimp only)) | (k_end; kc_close) | walk1 | (dsimp only; walk1) | (leave1; walk_say "STEP leave1"; (try dsimp only)) | fail "no step")
    rename News _ L0 _ _ => kN
    rename Fr _ L0 _ _ => kF
    rename _ = Data.cell (some (Value.int (Int.fmod n4 6) _)) => dA
    rename _ = Data.cell (some (Value.int (Int.fmod n5 6) _)) => dB
    exact CutEnd.intro (fun Cq9 kq9 => kq9 _ _ _ _ _ _ _ _ rfl (⟨fmod_lo _ (by decide), fmod_hi _ (by decide)⟩) (⟨fmod_lo _ (by decide), fmod_hi _ (by decide)⟩) dA dB kF (news_tl kN))
  intro s' hM9
  refine hM9 _ ?_
  clear hM9
  rintro o1 o2 v1 v2 x2 x3 h4 tk4 rfl ho1 ho2 dx2 dx3 F4 N4
  clear F3 N3 e2 e3
  refine seq_cut (fun s' => ∀ Cq9 : Prop, (∀ (H0 H1 H2 H3 H4 H5 : PySem.Str) (g0 g1 g2 g3 g4 g5 : Tok) (Hs : Addr) (hn : Nat) (x4 : Obj) (h : Heap) (tk : Nat), s' = St s1 h tk → x4.data = .cell (some (.ref Hs)) → Fr s1.heap L0 h (fun y => if y = Str.ofString "numbers" then some (.ref D) else if y = Str.ofString "script" then some (.ref sa) else none) → News s1.heap L0 h [(Hs, listOf #[.str H0 g0, .str H1 g1, .str H2 g2, .str H3 g3, .str H4 g4, .str H5 g5] hn), (Rw, listOf #[.int r0 u0, .int r1 u1, .int r2 u2, .int r3 u3, .int r4 u4, .int r5 u5] rn), (D, listOf #[.int n0 t0, .int n1 t1, .int n2 t2, .int n3 t3, .int n4 t4, .int n5 t5] 0), (L0 + 1 + 1 + 1 + 1 + 1 + 1, c6), (L0 + 1 + 1 + 1 + 1 + 1, c5), (L0 + 1 + 1 + 1 + 1, x4), (L0 + 1 + 1 + 1, x3), (L0 + 1 + 1, x2), (L0 + 1, cr)] → NeA Hs Rw → NeA Hs D → NeA Hs (L0 + 1 + 1 + 1 + 1 + 1 + 1) → NeA Hs (L0 + 1 + 1 + 1 + 1 + 1) → PyData.strOk H0 = true → PyData.strOk H1 = true → PyData.strOk H2 = true → PyData.strOk H3 = true → PyData.strOk H4 = true → PyData.strOk H5 = true → Cq9) → Cq9) ?_ ?_
  · with_reducible change wpAny _ _ _ _ _ _
    k_fold
    k_with_none
    w_top off
    k_with "compsrc" => (refine LCg.CompSrc.range (by rfl) (by k_asm) (by k_asm) (by assumption) (by first | decide | rfl) (by first | rfl | decide) (by first | size_fits | exact Nat.le_of_ble_eq_true rfl) ?_; intro g9; refine comp_ind (n := 6) (fun k ys nw => nw = [(Rw, listOf #[.int r0 u0, .int r1 u1, .int r2 u2, .int r3 u3, .int r4 u4, .int r5 u5] rn), (D, listOf #[.int n0 t0, .int n1 t1, .int n2 t2, .int n3 t3, .int n4 t4, .int n5 t5] 0), (L0 + 1 + 1 + 1 + 1 + 1 + 1, c6), (L0 + 1 + 1 + 1 + 1 + 1, c5), (L0 + 1 + 1 + 1 + 1, c4), (L0 + 1 + 1 + 1, x3), (L0 + 1 + 1, x2), (L0 + 1, cr)] ∧ ∃ ss, StrsAre ys ss ∧ ss.length = k ∧ ∀ y ∈ ss, PyData.strOk y = true) ?_ ?_ 6 0 [] _ rfl ⟨rfl, [], .nil, rfl, fun y hy => nomatch hy⟩; (intro k ys nw v I oI C oC Dy m₂ h tk E' hk6 hI9 hv hC hx F9 N9 off9 ne9; obtain ⟨rfl, ss, hss, hsl, hso⟩ := hI9; obtain ⟨t9, rfl⟩ := hv); rotate_left; (intro ys nw hI9; obtain ⟨rfl, ss, hss, hsl, hso⟩ := hI9; obtain ⟨H0, H1, H2, H3, H4, H5, g0, g1, g2, g3, g4, g5, rfl, rfl⟩ := six_strs hss hsl; intro D9 h9 tk9 F9 N9 off9; obtain ⟨ne1, ne2, ne3, ne4, ne5, ne6, ne7, ne8, -⟩ := off9; (replace ne3 := nea_symm ne3); (replace ne4 := nea_symm ne4); (replace ne5 := nea_symm ne5); (replace ne6 := nea_symm ne6); (replace ne7 := nea_symm ne7); (replace ne8 := nea_symm ne8); (replace ne1 := nea_symm ne1); (replace ne2 := nea_symm ne2)); rotate_left)
    k_with "compend" => (refine LCg.CompEnd.intro (by assumption) (by assumption) _ (fun _ hp => hp) off9 trivial ⟨rfl, _, strs_snoc hss _, by rw [List.length_append, hsl]; rfl, ok_snoc hso (by repeat' (first | apply strOk_app | exact strOk_of _))⟩)
    repeat' (first | (k_unfold; (try dsimp only)) | (k_end; kc_close) | walk1 | (dsimp only; walk1) | (leave1; walk_say "STEP leave1"; (try dsimp only)) | fail "no step")
    rename News _ L0 _ _ => kN
    rename Fr _ L0 _ _ => kF
    rename _ = Data.cell (some _) => dA
    exact CutEnd.intro (fun Cq9 kq9 => kq9 _ _ _ _ _ _ _ _ _ _ _ _ _ _ _ _ _ rfl dA kF kN ne1 ne2 ne3 ne4 (hso _ (by simp)) (hso _ (by simp)) (hso _ (by simp)) (hso _ (by simp)) (hso _ (by simp)) (hso _ (by simp)))
  intro s' hM9
  refine hM9 _ ?_
  clear hM9
  rintro H0 H1 H2 H3 H4 H5 g0 g1 g2 g3 g4 g5 Hs hn x4 h5 tk5 rfl dx4 F5 N5 neH1 neH2 neH3 neH4 hok0 hok1 hok2 hok3 hok4 hok5
  clear F4 N4 e4
  refine seq_cut (fun s' => ∀ Cq9 : Prop, (∀ (Pl : Addr) (x5 : Obj) (h : Heap) (tk : Nat), s' = St s1 h tk → x5.data = .cell (some (.ref Pl)) → Fr s1.heap L0 h (fun y => if y = Str.ofString "numbers" then some (.ref D) else if y = Str.ofString "script" then some (.ref sa) else none) → News s1.heap L0 h ((Pl, listOf #[] 0) :: [(Hs, listOf #[.str H0 g0, .str H1 g1, .str H2 g2, .str H3 g3, .str H4 g4, .str H5 g5] hn), (Rw, listOf #[.int r0 u0, .int r1 u1, .int r2 u2, .int r3 u3, .int r4 u4, .int r5 u5] rn), (D, listOf #[.int n0 t0, .int n1 t1, .int n2 t2, .int n3 t3, .int n4 t4, .int n5 t5] 0), (L0 + 1 + 1 + 1 + 1 + 1 + 1, c6), (L0 + 1 + 1 + 1 + 1 + 1, x5), (L0 + 1 + 1 + 1 + 1, x4), (L0 + 1 + 1 + 1, x3), (L0 + 1 + 1, x2), (L0 + 1, cr)]) → @LT.lt Nat _ Hs Pl → @LT.lt Nat _ Rw Pl → @LT.lt Nat _ D Pl → Cq9) → Cq9) ?_ ?_
  · with_reducible change wpAny _ _ _ _ _ _
    k_fold
    k_with_none
    w_top off
    repeat' (first | (k_unfold; (try dsimp only)) | (k_end; kc_close) | walk1 | (dsimp only; walk1) | (leave1; walk_say "STEP leave1"; (try dsimp only)) | fail "no step")
    rename News _ L0 _ _ => kN
    rename Fr _ L0 _ _ => kF
    rename _ = Data.cell (some _) => dA
    rename (_ ∧ _ ∧ _ ∧ _ ∧ _ ∧ _ ∧ _ ∧ _ ∧ _) => q9
    exact CutEnd.intro (fun Cq9 kq9 => kq9 _ _ _ _ rfl dA kF kN q9.1 q9.2.1 q9.2.2.1)
  intro s' hM9
  refine hM9 _ ?_
  clear hM9
  rintro Pl x5 h6 tk6 rfl dx5 F6 N6 ltH ltR ltD
  clear F5 N5 e5
  refine seq_cut (fun s' => ∀ Cq9 : Prop, (∀ (p0 p1 p2 p3 p4 p5 : Addr) (R0 R1 R2 R3 R4 R5 : PySem.Str) (q0 q1 q2 q3 q4 q5 : Tok) (mB : PySem.Str → Option Value) (pn : Nat) (h : Heap) (tk : Nat), s' = St s1 h tk → Fr s1.heap L0 h mB → News s1.heap L0 h [(p5, tup2 H5 g5 R5 q5 0), (p4, tup2 H4 g4 R4 q4 0), (p3, tup2 H3 g3 R3 q3 0), (p2, tup2 H2 g2 R2 q2 0), (p1, tup2 H1 g1 R1 q1 0), (p0, tup2 H0 g0 R0 q0 0), (Pl, listOf #[.ref p0, .ref p1, .ref p2, .ref p3, .ref p4, .ref p5] pn), (Hs, listOf #[.str H0 g0, .str H1 g1, .str H2 g2, .str H3 g3, .str H4 g4, .str H5 g5] hn), (Rw, listOf #[.int r0 u0, .int r1 u1, .int r2 u2, .int r3 u3, .int r4 u4, .int r5 u5] rn), (D, listOf #[.int n0 t0, .int n1 t1, .int n2 t2, .int n3 t3, .int n4 t4, .int n5 t5] 0), (L0 + 1 + 1 + 1 + 1 + 1 + 1, c6), (L0 + 1 + 1 + 1 + 1 + 1, x5), (L0 + 1 + 1 + 1 + 1, x4), (L0 + 1 + 1 + 1, x3), (L0 + 1 + 1, x2), (L0 + 1, cr)] → Reply R0 r0 ((0 : Int) = o1 ∨ (0 : Int) = o2) → Reply R1 r1 ((1 : Int) = o1 ∨ (1 : Int) = o2) → Reply R2 r2 ((2 : Int) = o1 ∨ (2 : Int) = o2) → Reply R3 r3 ((3 : Int) = o1 ∨ (3 : Int) = o2) → Reply R4 r4 ((4 : Int) = o1 ∨ (4 : Int) = o2) → Reply R5 r5 ((5 : Int) = o1 ∨ (5 : Int) = o2) → Cq9) → Cq9) ?_ ?_
  · obtain ⟨uu0, uu1, uu2, uu3, uu4, uu5⟩ := hu
    obtain ⟨led0, N6q, hn0, mHs, mRw, mD, mc6, mx5, mx4, mx3, mx2, mcr, -⟩ := open_led (c := (Pl, listOf #[] 0)) (l' := [(Hs, listOf #[.str H0 g0, .str H1 g1, .str H2 g2, .str H3 g3, .str H4 g4, .str H5 g5] hn), (Rw, listOf #[.int r0 u0, .int r1 u1, .int r2 u2, .int r3 u3, .int r4 u4, .int r5 u5] rn), (D, listOf #[.int n0 t0, .int n1 t1, .int n2 t2, .int n3 t3, .int n4 t4, .int n5 t5] 0), (L0 + 1 + 1 + 1 + 1 + 1 + 1, c6), (L0 + 1 + 1 + 1 + 1 + 1, x5), (L0 + 1 + 1 + 1 + 1, x4), (L0 + 1 + 1 + 1, x3), (L0 + 1 + 1, x2), (L0 + 1, cr)]) N6 (by k_mem) (by k_dflt lcg_sub) (List.forall_mem_cons.mpr ⟨(show @Ne Nat Hs Pl from Nat.ne_of_lt ltH), List.forall_mem_cons.mpr ⟨(show @Ne Nat Rw Pl from Nat.ne_of_lt ltR), List.forall_mem_cons.mpr ⟨(show @Ne Nat D Pl from Nat.ne_of_lt ltD), List.forall_mem_cons.mpr ⟨(show @Ne Nat (L0 + 1 + 1 + 1 + 1 + 1 + 1) Pl by omega), List.forall_mem_cons.mpr ⟨(show @Ne Nat (L0 + 1 + 1 + 1 + 1 + 1) Pl by omega), List.forall_mem_cons.mpr ⟨(show @Ne Nat (L0 + 1 + 1 + 1 + 1) Pl by omega), List.forall_mem_cons.mpr ⟨(show @Ne Nat (L0 + 1 + 1 + 1) Pl by omega), List.forall_mem_cons.mpr ⟨(show @Ne Nat (L0 + 1 + 1) Pl by omega), List.forall_mem_cons.mpr ⟨(show @Ne Nat (L0 + 1) Pl by omega), List.forall_mem_nil _⟩⟩⟩⟩⟩⟩⟩⟩⟩)
    clear N6
    have N6 := N6q
    clear N6q
    have hatH : ∀ k : Nat, k < 6 → [Value.str H0 g0, Value.str H1 g1, Value.str H2 g2, Value.str H3 g3, Value.str H4 g4, Value.str H5 g5][k]? = some (.str ([H0, H1, H2, H3, H4, H5].getD k H0) ([g0, g1, g2, g3, g4, g5].getD k g0)) := by
      intro k hk
      have h9 : k = 0 ∨ k = 1 ∨ k = 2 ∨ k = 3 ∨ k = 4 ∨ k = 5 := by omega
      rcases h9 with rfl | rfl | rfl | rfl | rfl | rfl <;> rfl
    have hatR : ∀ k : Nat, k < 6 → [Value.int r0 u0, Value.int r1 u1, Value.int r2 u2, Value.int r3 u3, Value.int r4 u4, Value.int r5 u5][k]? = some (.int ([r0, r1, r2, r3, r4, r5].getD k r0) ([u0, u1, u2, u3, u4, u5].getD k u0)) := by
      intro k hk
      have h9 : k = 0 ∨ k = 1 ∨ k = 2 ∨ k = 3 ∨ k = 4 ∨ k = 5 := by omega
      rcases h9 with rfl | rfl | rfl | rfl | rfl | rfl <;> rfl
    have hatN : ∀ k : Nat, k < 6 → [Value.int n0 t0, Value.int n1 t1, Value.int n2 t2, Value.int n3 t3, Value.int n4 t4, Value.int n5 t5][k]? = some (.int ([n0, n1, n2, n3, n4, n5].getD k n0) ([t0, t1, t2, t3, t4, t5].getD k t0)) := by
      intro k hk
      have h9 : k = 0 ∨ k = 1 ∨ k = 2 ∨ k = 3 ∨ k = 4 ∨ k = 5 := by omega
      rcases h9 with rfl | rfl | rfl | rfl | rfl | rfl <;> rfl
    have hatU : ∀ k : Nat, k < 6 → U16 ([r0, r1, r2, r3, r4, r5].getD k r0) := by
      intro k hk
      have h9 : k = 0 ∨ k = 1 ∨ k = 2 ∨ k = 3 ∨ k = 4 ∨ k = 5 := by omega
      rcases h9 with rfl | rfl | rfl | rfl | rfl | rfl <;> assumption
    dsimp only [Mine.St]
    with_reducible change wpAny _ _ _ _ _ _
    k_fold
    k_with_none
    w_top off
    k_with "ifexp" => ((fail_if_success (rename KPfMark => hM')); (rename Fr _ _ _ _ => cF'); (rename News _ _ _ _ => cN'); (refine' kcj (fun (b : PySem.Str) (t : Tok) => Value.str b t) ?_ cF' cN' (fun u' hMark' => ?_) ?_); rotate_left; k_fold)
    k_with "rangeiter" => ((rename Fr _ _ _ _ => lF'); (rename News _ _ _ _ => lN'); (rename IsRange _ _ _ _ _ _ _ _ => rgX); ((refine' pairs_loop (y1 := Str.ofString "mark") (y2 := Str.ofString "ahead") (fun k => [H0, H1, H2, H3, H4, H5].getD k H0) (fun k => [g0, g1, g2, g3, g4, g5].getD k g0) (fun k => [r0, r1, r2, r3, r4, r5].getD k r0) (fun k => ((k : Int) = o1 ∨ (k : Int) = o2)) (by rfl) rgX (by exact small_one (by decide) (by decide) (by decide) (by decide)) (by exact rangeSize_nat _ _) lF' lN' hn0 ?_ ?_)); (intro I9 k9 ys9 c9 led9 tx9 v19 v29 h9 tk9 lt9 hk9 hz9 hl9 hs9 F9 N9); (have mHs9 := hs9 _ mHs); (have mRw9 := hs9 _ mRw); (have mD9 := hs9 _ mD); (have mc69 := hs9 _ mc6); (have mx59 := hs9 _ mx5); (have mx49 := hs9 _ mx4); (have mx39 := hs9 _ mx3); (have mx29 := hs9 _ mx2); (have mcr9 := hs9 _ mcr); (have hk6 : k9 < 6 := hk9); (have hu9 := hatU k9 hk6); rotate_left; (intro h9 tk9 v09 v19 v29 ys9 c9 led9 hP9 hs9 F9 N9); rotate_left)
    k_with "kcj" => (kpf_tidy; first | done | ((refine kcj_end ?kcE9 (by with_unfolding_all rfl) rfl (by assumption) (by assumption) (fun _ hp => hp)); (case kcE9 => kpf_eq)) | ((refine kcj_end (t := (0 : Nat)) ?kcE9 (by with_unfolding_all rfl) rfl (by assumption) (by assumption) (fun _ hp => hp)); (case kcE9 => kpf_eq)))
    k_with "itemsym" => first
      | (refine' item_ledL (l := Hs) (vs := [Value.str H0 g0, Value.str H1 g1, Value.str H2 g2, Value.str H3 g3, Value.str H4 g4, Value.str H5 g5]) (n := hn) ?z1 ?z2 ?z3 ?z4 ?z5 ?_ ?z6; (case z1 => k_asm); (case z2 => k_mem); (case z3 => omega); (case z4 => omega); (case z5 => (rw [show (0 + (k9 : Int)).toNat = k9 by omega]; exact hatH k9 hk6)); (case z6 => with_unfolding_all rfl); k_whole)
      | (refine' item_ledL (l := Rw) (vs := [Value.int r0 u0, Value.int r1 u1, Value.int r2 u2, Value.int r3 u3, Value.int r4 u4, Value.int r5 u5]) (n := rn) ?z1 ?z2 ?z3 ?z4 ?z5 ?_ ?z6; (case z1 => k_asm); (case z2 => k_mem); (case z3 => omega); (case z4 => omega); (case z5 => (rw [show (0 + (k9 : Int)).toNat = k9 by omega]; exact hatR k9 hk6)); (case z6 => with_unfolding_all rfl); k_whole)
      | (refine' item_ledL (l := D) (vs := [Value.int n0 t0, Value.int n1 t1, Value.int n2 t2, Value.int n3 t3, Value.int n4 t4, Value.int n5 t5]) (n := 0) ?z1 ?z2 ?z3 ?z4 ?z5 ?_ ?z6; (case z1 => k_asm); (case z2 => k_mem); (case z3 => omega); (case z4 => omega); (case z5 => (rw [show (0 + (k9 : Int)).toNat = k9 by omega]; exact hatN k9 hk6)); (case z6 => with_unfolding_all rfl); k_whole)
    k_with "newtuple" => ((refine' newTuple_K2 ?F ?N ?_ ?z; (case F => k_asm); (case N => k_asm); (case z => kmk_size)); intro T9 h9 F9 N9 l9 l2; (have lI9 : @LT.lt Nat _ I9 T9 := l9 _ (.head _)); (have lP9 : @LT.lt Nat _ Pl T9 := l9 _ (.tail _ (.head _))); clear l9 l2; (try k_sweep))
    k_with "append" => ((rename Fr _ _ _ _ => aF); (rename News _ _ _ _ => aN); (refine' append_K aF aN ?aU ?_ ?az); (case aU => k_upd); (case az => (rw [hz9, PySem.sizeLine_eq]; omega)); k_whole; intro h8 F8 N8; (try k_sweep))
    k_with "prend" => ((refine' PrEnd.intro ?qF ?qx ?qN ?q1 ?q2 ?qR); (case qN => assumption); (case qF => assumption); (case qx => (intro y e0 e1 e2; simp only [if_neg e0, if_neg e1, if_neg e2])); (case q1 => exact Ne.symm (Nat.ne_of_lt lI9)); (case q2 => exact Ne.symm (Nat.ne_of_lt lP9)); (case qR => (refine reply_ok2 (by with_reducible assumption) (by with_reducible assumption) (by with_reducible assumption) (by with_reducible assumption) (by with_reducible assumption) rfl (by with_reducible assumption) (by with_reducible assumption) (by with_reducible assumption) ?_; (show (_ ∨ _) = ((k9 : Int) = o1 ∨ (k9 : Int) = o2)); rw [Int.zero_add])))
    repeat' (first | (k_unfold; (try dsimp only)) | (k_end; kc_close) | walk1 | (dsimp only; walk1) | (leave1; walk_say "STEP leave1"; (try dsimp only)) | fail "no step")
    obtain ⟨hz, hf⟩ := (show PrF _ _ _ _ 6 ys9 led9 from hP9)
    obtain ⟨p0, R0, q0, e0', m0, b0⟩ := hf 0 (by decide)
    obtain ⟨p1, R1, q1, e1', m1, b1⟩ := hf 1 (by decide)
    obtain ⟨p2, R2, q2, e2', m2, b2⟩ := hf 2 (by decide)
    obtain ⟨p3, R3, q3, e3', m3, b3⟩ := hf 3 (by decide)
    obtain ⟨p4, R4, q4, e4', m4, b4⟩ := hf 4 (by decide)
    obtain ⟨p5, R5, q5, e5', m5, b5⟩ := hf 5 (by decide)
    have m0' : (p0, tup2 H0 g0 R0 q0 0) ∈ led9 := m0
    have m1' : (p1, tup2 H1 g1 R1 q1 0) ∈ led9 := m1
    have m2' : (p2, tup2 H2 g2 R2 q2 0) ∈ led9 := m2
    have m3' : (p3, tup2 H3 g3 R3 q3 0) ∈ led9 := m3
    have m4' : (p4, tup2 H4 g4 R4 q4 0) ∈ led9 := m4
    have m5' : (p5, tup2 H5 g5 R5 q5 0) ∈ led9 := m5
    have mHs9 := hs9 _ mHs
    have mRw9 := hs9 _ mRw
    have mD9 := hs9 _ mD
    have mc69 := hs9 _ mc6
    have mx59 := hs9 _ mx5
    have mx49 := hs9 _ mx4
    have mx39 := hs9 _ mx3
    have mx29 := hs9 _ mx2
    have mcr9 := hs9 _ mcr
    have hy := six_arr hz e0' e1' e2' e3' e4' e5'
    subst hy
    rename News _ L0 _ _ => kN
    rename Fr _ L0 _ _ => kF
    refine CutEnd.intro (fun Cq9 kq9 => kq9 p0 p1 p2 p3 p4 p5 R0 R1 R2 R3 R4 R5 q0 q1 q2 q3 q4 q5 _ c9 _ _ rfl kF (fun q hq => kN q ?_) b0 b1 b2 b3 b4 b5)
    revert q hq
    k_dflt lcg_sub
  intro s' hM9
  refine hM9 _ ?_
  clear hM9
  rintro p0 p1 p2 p3 p4 p5 R0 R1 R2 R3 R4 R5 q0 q1 q2 q3 q4 q5 mB pn h7 tk7 rfl F7 N7 b0 b1 b2 b3 b4 b5
  clear F6 N6
  obtain ⟨led0, N7q, hn0, mp5, mp4, mp3, mp2, mp1, mp0, mPl, mHs, mRw, mD, mx5, mx4, mx3, mx2, mcr, -⟩ := open_led (c := (L0 + 1 + 1 + 1 + 1 + 1 + 1, c6)) (l' := [(p5, tup2 H5 g5 R5 q5 0), (p4, tup2 H4 g4 R4 q4 0), (p3, tup2 H3 g3 R3 q3 0), (p2, tup2 H2 g2 R2 q2 0), (p1, tup2 H1 g1 R1 q1 0), (p0, tup2 H0 g0 R0 q0 0), (Pl, listOf #[.ref p0, .ref p1, .ref p2, .ref p3, .ref p4, .ref p5] pn), (Hs, listOf #[.str H0 g0, .str H1 g1, .str H2 g2, .str H3 g3, .str H4 g4, .str H5 g5] hn), (Rw, listOf #[.int r0 u0, .int r1 u1, .int r2 u2, .int r3 u3, .int r4 u4, .int r5 u5] rn), (D, listOf #[.int n0 t0, .int n1 t1, .int n2 t2, .int n3 t3, .int n4 t4, .int n5 t5] 0), (L0 + 1 + 1 + 1 + 1 + 1, x5), (L0 + 1 + 1 + 1 + 1, x4), (L0 + 1 + 1 + 1, x3), (L0 + 1 + 1, x2), (L0 + 1, cr)]) N7 (by k_mem) (by k_dflt lcg_sub) (List.forall_mem_cons.mpr ⟨(ne_cell N7 (a := p5) (by k_mem) (by k_mem) rfl e6), List.forall_mem_cons.mpr ⟨(ne_cell N7 (a := p4) (by k_mem) (by k_mem) rfl e6), List.forall_mem_cons.mpr ⟨(ne_cell N7 (a := p3) (by k_mem) (by k_mem) rfl e6), List.forall_mem_cons.mpr ⟨(ne_cell N7 (a := p2) (by k_mem) (by k_mem) rfl e6), List.forall_mem_cons.mpr ⟨(ne_cell N7 (a := p1) (by k_mem) (by k_mem) rfl e6), List.forall_mem_cons.mpr ⟨(ne_cell N7 (a := p0) (by k_mem) (by k_mem) rfl e6), List.forall_mem_cons.mpr ⟨(ne_cell N7 (a := Pl) (by k_mem) (by k_mem) rfl e6), List.forall_mem_cons.mpr ⟨(ne_cell N7 (a := Hs) (by k_mem) (by k_mem) rfl e6), List.forall_mem_cons.mpr ⟨(ne_cell N7 (a := Rw) (by k_mem) (by k_mem) rfl e6), List.forall_mem_cons.mpr ⟨(ne_cell N7 (a := D) (by k_mem) (by k_mem) rfl e6), List.forall_mem_cons.mpr ⟨(show @Ne Nat (L0 + 1 + 1 + 1 + 1 + 1) (L0 + 1 + 1 + 1 + 1 + 1 + 1) by omega), List.forall_mem_cons.mpr ⟨(show @Ne Nat (L0 + 1 + 1 + 1 + 1) (L0 + 1 + 1 + 1 + 1 + 1 + 1) by omega), List.forall_mem_cons.mpr ⟨(show @Ne Nat (L0 + 1 + 1 + 1) (L0 + 1 + 1 + 1 + 1 + 1 + 1) by omega), List.forall_mem_cons.mpr ⟨(show @Ne Nat (L0 + 1 + 1) (L0 + 1 + 1 + 1 + 1 + 1 + 1) by omega), List.forall_mem_cons.mpr ⟨(show @Ne Nat (L0 + 1) (L0 + 1 + 1 + 1 + 1 + 1 + 1) by omega), List.forall_mem_nil _⟩⟩⟩⟩⟩⟩⟩⟩⟩⟩⟩⟩⟩⟩⟩)
  clear N7
  have N7 := N7q
  clear N7q
  refine seq_cut (fun s' => ∀ Cq9 : Prop, (∀ (Wl : Addr) (w0 w1 w2 w3 w4 w5 : Addr) (yy zz : Nat → Tok) (mm : Nat → Nat) (wn : Nat) (x6 : Obj) (h : Heap) (tk : Nat), s' = St s1 h tk → x6.data = .cell (some (.ref Wl)) → Fr s1.heap L0 h mB → News s1.heap L0 h ((Wl, listOf #[.ref w0, .ref w1, .ref w2, .ref w3, .ref w4, .ref w5] wn) :: (w5, tupi H5 (yy 5) r5 (zz 5) (mm 5)) :: (w4, tupi H4 (yy 4) r4 (zz 4) (mm 4)) :: (w3, tupi H3 (yy 3) r3 (zz 3) (mm 3)) :: (w2, tupi H2 (yy 2) r2 (zz 2) (mm 2)) :: (w1, tupi H1 (yy 1) r1 (zz 1) (mm 1)) :: (w0, tupi H0 (yy 0) r0 (zz 0) (mm 0)) :: (L0 + 1 + 1 + 1 + 1 + 1 + 1, x6) :: led0) → Cq9) → Cq9) ?_ ?_
  · obtain ⟨⟨lf0, rt0, mk0, bd0, rp0⟩, -⟩ := b0
    obtain ⟨⟨lf1, rt1, mk1, bd1, rp1⟩, -⟩ := b1
    obtain ⟨⟨lf2, rt2, mk2, bd2, rp2⟩, -⟩ := b2
    obtain ⟨⟨lf3, rt3, mk3, bd3, rp3⟩, -⟩ := b3
    obtain ⟨⟨lf4, rt4, mk4, bd4, rp4⟩, -⟩ := b4
    obtain ⟨⟨lf5, rt5, mk5, bd5, rp5⟩, -⟩ := b5
    dsimp only [Mine.St]
    with_reducible change wpAny _ _ _ _ _ _
    k_fold
    k_with_none
    w_top off
    k_with "mem" => exact mPl
    k_with "asg" => walk_at "exec Assign"
    k_with "elc" => (lcp_look; lcg_calm; k_dflt (refine LCp.ListComp_P (F₀ := by k_asm) (by with_unfolding_all rfl) (by decide) (by rfl) (by decide) (by rfl) (by rfl) (by decide) ?_); k_dflt lcp_toSrc)
    k_with "callref" => ((refine' u_heard ?k1 ?k2 ?k3 ?k4 ?k5 ?kK ?kd ?ku ?kr ?_; (case k1 => k_asm); (case k2 => k_asm); (case k3 => k_asm); (case k4 => k_asm); (case k5 => k_asm); (case kK => first | exact rfl | assumption); (case kd => ktr_room); (case ku => ktr_units); (case kr => with_reducible first | exact rp0 | exact rp1 | exact rp2 | exact rp3 | exact rp4 | exact rp5)); intro D9 t90 t91 n9 h9 tk9 F9 N9 l9; (try dsimp only); (try k_sweep); (try k_fold))
    k_with "comprestp" => (with_unfolding_all first | (refine LCp.CompRestP.succ ?_; intro v' hv'; lcg_open hv'; refine ⟨_, _, _, _, _, rfl, by k_mem, rfl, rfl, ?_⟩; intro I9 oI9 C9 oC9 Da9 m9 h9 tk9 E9 hC9 hx9 hy9 F9 N9 off9 ne9; (with_reducible change wpAny _ _ _ _ _ _); k_fold) | refine LCp.CompRestP.zero ?_)
    k_with "compend" => (refine comp_end1 N9 F9 l9 off9 (.inr ⟨_, by k_mem, rfl, _, rfl⟩) ?_; clear l9 off9)
    k_with "fine" => (unfold LCg.FinE; intro Dw9 h9 tk9 F9 N9 off9; (try simp only [List.nil_append, List.cons_append] at N9); (have zW := ne_cell N9 (.head _) (by k_mem) rfl e6); (have zw5 := ne_cell N9 (.tail _ (.head _)) (by k_mem) rfl e6); (have zw4 := ne_cell N9 (.tail _ (.tail _ (.head _))) (by k_mem) rfl e6); (have zw3 := ne_cell N9 (.tail _ (.tail _ (.tail _ (.head _)))) (by k_mem) rfl e6); (have zw2 := ne_cell N9 (.tail _ (.tail _ (.tail _ (.tail _ (.head _))))) (by k_mem) rfl e6); (have zw1 := ne_cell N9 (.tail _ (.tail _ (.tail _ (.tail _ (.tail _ (.head _)))))) (by k_mem) rfl e6); (have zw0 := ne_cell N9 (.tail _ (.tail _ (.tail _ (.tail _ (.tail _ (.tail _ (.head _))))))) (by k_mem) rfl e6); clear off9; (try dsimp only))
    repeat' (first | (k_unfold; (try dsimp only)) | (k_end; kc_close) | walk1 | (dsimp only; walk1) | (leave1; walk_say "STEP leave1"; (try dsimp only)) | fail "no step")
    rename News _ L0 _ _ => kN
    rename Fr _ L0 _ _ => kF
    rename _ = Data.cell (some _) => dA
    exact CutEnd.intro (fun Cq9 kq9 => kq9 _ _ _ _ _ _ _ (fun k => [_, _, _, _, _, _].getD k 0) (fun k => [_, _, _, _, _, _].getD k 0) (fun k => [_, _, _, _, _, _].getD k 0) _ _ _ _ rfl dA kF kN)
  intro s' hM9
  refine hM9 _ ?_
  clear hM9
  rintro Wl w0 w1 w2 w3 w4 w5 yy zz mm wn x6 h8 tk8 rfl dx6 F8 N8
  clear F7 N7 e6
  obtain ⟨led1, N8q, mWl, mw5, mw4, mw3, mw2, mw1, mw0, mx6, hs1⟩ := absorb N8
  clear N8
  have N8 := N8q
  clear N8q
  replace mp5 := hs1.sub _ mp5
  replace mp4 := hs1.sub _ mp4
  replace mp3 := hs1.sub _ mp3
  replace mp2 := hs1.sub _ mp2
  replace mp1 := hs1.sub _ mp1
  replace mp0 := hs1.sub _ mp0
  replace mPl := hs1.sub _ mPl
  replace mHs := hs1.sub _ mHs
  replace mRw := hs1.sub _ mRw
  replace mx5 := hs1.sub _ mx5
  replace mx4 := hs1.sub _ mx4
  replace mx3 := hs1.sub _ mx3
  replace mx2 := hs1.sub _ mx2
  replace mcr := hs1.sub _ mcr
  clear hs1 hn0 mD
  refine seq_cut (fun s' => ∀ Cq9 : Prop, (∀ (h : Heap) (tk : Nat), s' = St s1 h tk → Fr s1.heap L0 h mB → News s1.heap L0 h (led1) → Cq9) → Cq9) ?_ ?_
  · dsimp only [Mine.St]
    with_reducible change wpAny _ _ _ _ _ _
    k_fold
    k_with_none
    w_top off
    k_with "compsrc" => (refine LCg.CompSrc.range (by rfl) (by k_asm) (by k_asm) (by assumption) (by first | decide | rfl) (by first | rfl | decide) (by first | size_fits | exact Nat.le_of_ble_eq_true rfl) ?_; intro g9; lcg_lit)
    k_with "comprest" => (with_unfolding_all first | (refine LCg.CompRest.succ ?_; intro v' I9 oI9 C9 oC9 Da9 m9 h9 tk9 E9 hv' hC9 hx9 F9 N9 off9 ne9; (obtain ⟨t9', hv9'⟩ := hv'; subst hv9'); (with_reducible change wpAny _ _ _ _ _ _); k_fold) | refine LCg.CompRest.zero ?_)
    k_with "newtuple" => ((refine' newTuple_K2 ?F ?N ?_ ?z; (case F => k_asm); (case N => k_asm); (case z => kmk_size)); intro T9 h9 F9 N9 l9 l2; clear l2; (try k_sweep))
    k_with "compend" => (refine comp_end1 N9 F9 l9 off9 trivial ?_; clear l9 off9)
    k_with "fine" => (unfold LCg.FinE; intro Dw9 h9 tk9 F9 N9 off9; (try simp only [List.nil_append, List.cons_append] at N9); clear off9; (try dsimp only))
    k_with "cmpne" => (refine ne_same (rd_six N9 (by k_mem) (rd_si N9 (by k_mem)) (rd_si N9 (by k_mem)) (rd_si N9 (by k_mem)) (rd_si N9 (by k_mem)) (rd_si N9 (by k_mem)) (rd_si N9 (by k_mem))) (rd_six N9 (by k_mem) (rd_si N9 (by k_mem)) (rd_si N9 (by k_mem)) (rd_si N9 (by k_mem)) (rd_si N9 (by k_mem)) (rd_si N9 (by k_mem)) (rd_si N9 (by k_mem))) (shaped6 (lay_si hok0) (lay_si hok1) (lay_si hok2) (lay_si hok3) (lay_si hok4) (lay_si hok5)) (by ke_room) ?_)
    repeat' (first | (k_unfold; (try dsimp only)) | (k_end; kc_close) | walk1 | (dsimp only; walk1) | (leave1; walk_say "STEP leave1"; (try dsimp only)) | fail "no step")
    rename News _ L0 _ _ => kN
    rename Fr _ L0 _ _ => kF
    exact CutEnd.intro (fun Cq9 kq9 => kq9 _ _ rfl kF ((fun q hq => kN q (by repeat (first | exact hq | refine List.Mem.tail _ ?_)))))
  intro s' hM9
  refine hM9 _ ?_
  clear hM9
  rintro h9 tk9 rfl F9 N9
  clear F8 N8
  refine seq_cut (fun s' => ∀ Cq9 : Prop, (∀ (Gv : Addr) (gn : Nat) (h : Heap) (tk : Nat), s' = St s1 h tk → Fr s1.heap L0 h (fun y => if y = Str.ofString "given" then some (.ref Gv) else mB y) → News s1.heap L0 h ((Gv, listOf #[.ref p0, .ref p1, .ref p2, .ref p3, .ref p4, .ref p5] gn) :: led1) → Cq9) → Cq9) ?_ ?_
  · dsimp only [Mine.St]
    with_reducible change wpAny _ _ _ _ _ _
    k_fold
    k_with_none
    w_top off
    repeat' (first | (k_unfold; (try dsimp only)) | (k_end; kc_close) | walk1 | (dsimp only; walk1) | (leave1; walk_say "STEP leave1"; (try dsimp only)) | fail "no step")
    rename News _ L0 _ _ => kN
    rename Fr _ L0 _ _ => kF
    exact CutEnd.intro (fun Cq9 kq9 => kq9 _ _ _ _ rfl kF kN)
  intro s' hM9
  refine hM9 _ ?_
  clear hM9
  rintro Gv gn h10 tk10 rfl F10 N10
  clear F9 N9
  refine seq_cut (fun s' => ∀ Cq9 : Prop, (∀ (Kl a0 a1 a2 a3 a4 a5 : Addr) (X0 X1 X2 X3 X4 X5 Y0 Y1 Y2 Y3 Y4 Y5 : PySem.Str) (ee ff : Nat → Tok) (dd : Nat → Nat) (kn : Nat) (h : Heap) (tk : Nat), s' = St s1 h tk → Fr s1.heap L0 h (fun y => if y = Str.ofString "kept" then some (.ref Kl) else if y = Str.ofString "given" then some (.ref Gv) else mB y) → News s1.heap L0 h ((Kl, listOf #[.ref a0, .ref a1, .ref a2, .ref a3, .ref a4, .ref a5] kn) :: (a0, tup2 X0 (ee 0) Y0 (ff 0) (dd 0)) :: (a1, tup2 X1 (ee 1) Y1 (ff 1) (dd 1)) :: (a2, tup2 X2 (ee 2) Y2 (ff 2) (dd 2)) :: (a3, tup2 X3 (ee 3) Y3 (ff 3) (dd 3)) :: (a4, tup2 X4 (ee 4) Y4 (ff 4) (dd 4)) :: (a5, tup2 X5 (ee 5) Y5 (ff 5) (dd 5)) :: (Gv, listOf #[.ref p0, .ref p1, .ref p2, .ref p3, .ref p4, .ref p5] gn) :: led1) → PickS ((0 : Int) = o1 ∨ (0 : Int) = o2) H0 R0 X0 Y0 → PickS ((1 : Int) = o1 ∨ (1 : Int) = o2) H1 R1 X1 Y1 → PickS ((2 : Int) = o1 ∨ (2 : Int) = o2) H2 R2 X2 Y2 → PickS ((3 : Int) = o1 ∨ (3 : Int) = o2) H3 R3 X3 Y3 → PickS ((4 : Int) = o1 ∨ (4 : Int) = o2) H4 R4 X4 Y4 → PickS ((5 : Int) = o1 ∨ (5 : Int) = o2) H5 R5 X5 Y5 → Cq9) → Cq9) ?_ ?_
  · dsimp only [Mine.St]
    with_reducible change wpAny _ _ _ _ _ _
    k_fold
    k_with_none
    w_top off
    k_with "callref" => ((refine' u_post ?k1 ?k2 ?k3 ?k4 ?k5 ?kK ?kd ?ku ?ks ?_; (case k1 => k_asm); (case k2 => k_asm); (case k3 => k_asm); (case k4 => k_asm); (case k5 => k_asm); (case kK => first | exact rfl | assumption); (case kd => ktr_room); (case ku => ktr_units); (case ks => lcg_sub)); intro D9 a90 a91 a92 a93 a94 a95 u90 u91 u92 u93 u94 u95 v90 v91 v92 v93 v94 v95 d90 d91 d92 d93 d94 d95 n9 h9 tk9 F9 N9 l9 ne90 ne91 ne92 ne93 ne94 ne95; clear l9 ne90 ne91 ne92 ne93 ne94 ne95; (try dsimp only); (try k_sweep); (try k_fold))
    repeat' (first | (k_unfold; (try dsimp only)) | (k_end; kc_close) | walk1 | (dsimp only; walk1) | (leave1; walk_say "STEP leave1"; (try dsimp only)) | fail "no step")
    rename News _ L0 _ _ => kN
    rename Fr _ L0 _ _ => kF
    exact CutEnd.intro (fun Cq9 kq9 => kq9 _ _ _ _ _ _ _ _ _ _ _ _ _ _ _ _ _ _ _ (fun k => [_, _, _, _, _, _].getD k 0) (fun k => [_, _, _, _, _, _].getD k 0) (fun k => [_, _, _, _, _, _].getD k 0) _ _ _ rfl kF kN (pickS_of b0.2.1) (pickS_of b1.2.1) (pickS_of b2.2.1) (pickS_of b3.2.1) (pickS_of b4.2.1) (pickS_of b5.2.1))
  intro s' hM9
  refine hM9 _ ?_
  clear hM9
  rintro Kl a0 a1 a2 a3 a4 a5 X0 X1 X2 X3 X4 X5 Y0 Y1 Y2 Y3 Y4 Y5 ee ff dd kn h11 tk11 rfl F11 N11 pk0 pk1 pk2 pk3 pk4 pk5
  clear F10 N10
  obtain ⟨led2, N11q, mKl, ma0, ma1, ma2, ma3, ma4, ma5, mGv, hs2⟩ := absorb N11
  clear N11
  have N11 := N11q
  clear N11q
  replace mp5 := hs2.sub _ mp5
  replace mp4 := hs2.sub _ mp4
  replace mp3 := hs2.sub _ mp3
  replace mp2 := hs2.sub _ mp2
  replace mp1 := hs2.sub _ mp1
  replace mp0 := hs2.sub _ mp0
  replace mPl := hs2.sub _ mPl
  replace mHs := hs2.sub _ mHs
  replace mRw := hs2.sub _ mRw
  replace mx5 := hs2.sub _ mx5
  replace mx4 := hs2.sub _ mx4
  replace mx3 := hs2.sub _ mx3
  replace mx2 := hs2.sub _ mx2
  replace mcr := hs2.sub _ mcr
  replace mWl := hs2.sub _ mWl
  replace mw5 := hs2.sub _ mw5
  replace mw4 := hs2.sub _ mw4
  replace mw3 := hs2.sub _ mw3
  replace mw2 := hs2.sub _ mw2
  replace mw1 := hs2.sub _ mw1
  replace mw0 := hs2.sub _ mw0
  replace mx6 := hs2.sub _ mx6
  clear hs2
  refine seq_cut (fun s' => ∀ Cq9 : Prop, (∀ (h : Heap) (tk : Nat), s' = St s1 h tk → Fr s1.heap L0 h (fun y => if y = Str.ofString "kept" then some (.ref Kl) else if y = Str.ofString "given" then some (.ref Gv) else mB y) → News s1.heap L0 h (led2) → Cq9) → Cq9) ?_ ?_
  · dsimp only [Mine.St]
    with_reducible change wpAny _ _ _ _ _ _
    k_fold
    k_with_none
    w_top off
    have kx0 := pickS_ok pk0 hok0 b0.2.2
    have kx1 := pickS_ok pk1 hok1 b1.2.2
    have kx2 := pickS_ok pk2 hok2 b2.2.2
    have kx3 := pickS_ok pk3 hok3 b3.2.2
    have kx4 := pickS_ok pk4 hok4 b4.2.2
    have kx5 := pickS_ok pk5 hok5 b5.2.2
    k_with "compsrc" => (refine LCg.CompSrc.range (by rfl) (by k_asm) (by k_asm) (by assumption) (by first | decide | rfl) (by first | rfl | decide) (by first | size_fits | exact Nat.le_of_ble_eq_true rfl) ?_; intro g9; lcg_lit)
    k_with "comprest" => (with_unfolding_all first | (refine LCg.CompRest.succ ?_; intro v' I9 oI9 C9 oC9 Da9 m9 h9 tk9 E9 hv' hC9 hx9 F9 N9 off9 ne9; (obtain ⟨t9', hv9'⟩ := hv'; subst hv9'); (with_reducible change wpAny _ _ _ _ _ _); k_fold) | refine LCg.CompRest.zero ?_)
    k_with "newtuple" => ((refine' newTuple_K2 ?F ?N ?_ ?z; (case F => k_asm); (case N => k_asm); (case z => kmk_size)); intro T9 h9 F9 N9 l9 l2; clear l2; (try k_sweep))
    k_with "ifexp" => ((fail_if_success (rename PjMk => hPj9)); (refine' pj2 [(X0, Y0), (X1, Y1), (X2, Y2), (X3, Y3), (X4, Y4), (X5, Y5)] F9 N9 hx9 (by exact rfl) ?_ ?_); (have hPjm9 : PjMk := PjMk.mk); (with_reducible change wpAny _ _ _ _ _ _); k_fold; rotate_left; (intro a9 t9 u9 c9 h9 tk9 F9 N9 off9; (try dsimp only); (try k_sweep)); rotate_left)
    k_with "intwo" => (refine in_two N9 ?_; intro bo9 hB9)
    k_with "pjend" => first | (refine pj_bad pk0 (hB9.mp (by assumption)) N9 F9 l9 off9) | (refine pj_bad pk1 (hB9.mp (by assumption)) N9 F9 l9 off9) | (refine pj_bad pk2 (hB9.mp (by assumption)) N9 F9 l9 off9) | (refine pj_bad pk3 (hB9.mp (by assumption)) N9 F9 l9 off9) | (refine pj_bad pk4 (hB9.mp (by assumption)) N9 F9 l9 off9) | (refine pj_bad pk5 (hB9.mp (by assumption)) N9 F9 l9 off9) | (refine pj_good pk0 (fun e9 => Bool.false_ne_true ((show _ = false by assumption).symm.trans (hB9.mpr e9))) (by k_mem) N9 F9 off9) | (refine pj_good pk1 (fun e9 => Bool.false_ne_true ((show _ = false by assumption).symm.trans (hB9.mpr e9))) (by k_mem) N9 F9 off9) | (refine pj_good pk2 (fun e9 => Bool.false_ne_true ((show _ = false by assumption).symm.trans (hB9.mpr e9))) (by k_mem) N9 F9 off9) | (refine pj_good pk3 (fun e9 => Bool.false_ne_true ((show _ = false by assumption).symm.trans (hB9.mpr e9))) (by k_mem) N9 F9 off9) | (refine pj_good pk4 (fun e9 => Bool.false_ne_true ((show _ = false by assumption).symm.trans (hB9.mpr e9))) (by k_mem) N9 F9 off9) | (refine pj_good pk5 (fun e9 => Bool.false_ne_true ((show _ = false by assumption).symm.trans (hB9.mpr e9))) (by k_mem) N9 F9 off9)
    k_with "compend" => (refine comp_end2 N9 F9 off9 trivial ?_; clear off9)
    k_with "fine" => (unfold LCg.FinE; intro Dw9 h9 tk9 F9 N9 off9; (try simp only [List.nil_append, List.cons_append] at N9); clear off9; (try dsimp only))
    k_with "cmpne" => ((rename News _ _ _ _ => cN'); first | (refine ne_same (rd_six cN' (by k_mem) (rd_ss cN' (by k_mem)) (rd_ss cN' (by k_mem)) (rd_ss cN' (by k_mem)) (rd_ss cN' (by k_mem)) (rd_ss cN' (by k_mem)) (rd_ss cN' (by k_mem))) (rd_six cN' (by k_mem) (rd_ss cN' (by k_mem)) (rd_ss cN' (by k_mem)) (rd_ss cN' (by k_mem)) (rd_ss cN' (by k_mem)) (rd_ss cN' (by k_mem)) (rd_ss cN' (by k_mem))) ?sh (by ke_room) ?_; (case sh => first | exact shaped6 (lay_ss hok0 b0.2.2) (lay_ss hok1 b1.2.2) (lay_ss hok2 b2.2.2) (lay_ss hok3 b3.2.2) (lay_ss hok4 b4.2.2) (lay_ss hok5 b5.2.2) | exact shaped6 (lay_ss kx0.1 kx0.2) (lay_ss kx1.1 kx1.2) (lay_ss kx2.1 kx2.2) (lay_ss kx3.1 kx3.2) (lay_ss kx4.1 kx4.2) (lay_ss kx5.1 kx5.2))))
    repeat' (first | (k_unfold; (try dsimp only)) | (k_end; kc_close) | walk1 | (dsimp only; walk1) | (leave1; walk_say "STEP leave1"; (try dsimp only)) | fail "no step")
    rename News _ L0 _ _ => kN
    rename Fr _ L0 _ _ => kF
    exact CutEnd.intro (fun Cq9 kq9 => kq9 _ _ rfl kF ((fun q hq => kN q (by repeat (first | exact hq | refine List.Mem.tail _ ?_)))))
  intro s' hM9
  refine hM9 _ ?_
  clear hM9
  rintro h12 tk12 rfl F12 N12
  clear F11 N11
  refine seq_cut (fun s' => ∀ Cq9 : Prop, (∀ (Hd : Addr) (k0 k1 k2 k3 k4 k5 : Value) (j0 j1 j2 j3 j4 j5 : Addr × Obj) (hdn : Nat) (h : Heap) (tk : Nat), s' = St s1 h tk → Fr s1.heap L0 h (fun y => if y = Str.ofString "heard" then some (.ref Hd) else if y = Str.ofString "kept" then some (.ref Kl) else if y = Str.ofString "given" then some (.ref Gv) else mB y) → News s1.heap L0 h ((Hd, listOf #[k0, k1, k2, k3, k4, k5] hdn) :: j5 :: j4 :: j3 :: j2 :: j1 :: j0 :: led2) → HV ((0 : Int) = o1 ∨ (0 : Int) = o2) H0 r0 k0 j0 → HV ((1 : Int) = o1 ∨ (1 : Int) = o2) H1 r1 k1 j1 → HV ((2 : Int) = o1 ∨ (2 : Int) = o2) H2 r2 k2 j2 → HV ((3 : Int) = o1 ∨ (3 : Int) = o2) H3 r3 k3 j3 → HV ((4 : Int) = o1 ∨ (4 : Int) = o2) H4 r4 k4 j4 → HV ((5 : Int) = o1 ∨ (5 : Int) = o2) H5 r5 k5 j5 → Cq9) → Cq9) ?_ ?_
  · obtain ⟨⟨lf0, rt0, mk0, bd0, rp0⟩, -⟩ := b0
    obtain ⟨⟨lf1, rt1, mk1, bd1, rp1⟩, -⟩ := b1
    obtain ⟨⟨lf2, rt2, mk2, bd2, rp2⟩, -⟩ := b2
    obtain ⟨⟨lf3, rt3, mk3, bd3, rp3⟩, -⟩ := b3
    obtain ⟨⟨lf4, rt4, mk4, bd4, rp4⟩, -⟩ := b4
    obtain ⟨⟨lf5, rt5, mk5, bd5, rp5⟩, -⟩ := b5
    dsimp only [Mine.St]
    with_reducible change wpAny _ _ _ _ _ _
    k_fold
    k_with_none
    w_top off
    k_with "callref" => ((refine' u_heardX ?k1 ?k2 ?k3 ?k4 ?k5 ?kK ?kd ?ku ?kp ?kr ?kq ?_; (case k1 => k_asm); (case k2 => k_asm); (case k3 => k_asm); (case k4 => k_asm); (case k5 => k_asm); (case kK => first | exact rfl | assumption); (case kd => ktr_room); (case ku => ktr_units); (case kp => with_reducible first | exact pk0 | exact pk1 | exact pk2 | exact pk3 | exact pk4 | exact pk5); (case kr => with_reducible first | exact rp0 | exact rp1 | exact rp2 | exact rp3 | exact rp4 | exact rp5); (case kq => first | exact .tail _ (.tail _ (.tail _ (mKl))) | exact .tail _ (.tail _ (.tail _ (.tail _ (mKl)))) | exact .tail _ (.tail _ (.tail _ (.tail _ (.tail _ (mKl))))) | exact .tail _ (.tail _ (.tail _ (.tail _ (.tail _ (.tail _ (mKl)))))) | exact .tail _ (.tail _ (.tail _ (.tail _ (.tail _ (.tail _ (.tail _ (mKl))))))) | exact .tail _ (.tail _ (.tail _ (.tail _ (.tail _ (.tail _ (.tail _ (.tail _ (mKl)))))))) | exact .tail _ (.tail _ (.tail _ (.tail _ (.tail _ (.tail _ (.tail _ (.tail _ (.tail _ (mKl))))))))))); intro q9 v9 h9 tk9 hv9 F9 N9 l9; (try dsimp only); (try k_sweep); (try k_fold))
    k_with "comprestp" => (with_unfolding_all first | (refine LCp.CompRestP.succ ?_; intro v' hv'; lcg_open hv'; refine ⟨_, _, _, _, _, rfl, by k_mem, rfl, rfl, ?_⟩; intro I9 oI9 C9 oC9 Da9 m9 h9 tk9 E9 hC9 hx9 hy9 F9 N9 off9 ne9; (with_reducible change wpAny _ _ _ _ _ _); k_fold) | refine LCp.CompRestP.zero ?_)
    k_with "compend" => (refine comp_end3 N9 F9 l9 (by k_mem) off9 (.inr ⟨_, by k_mem, rfl, _, rfl⟩) ?_; clear l9 off9)
    k_with "fina" => (unfold LCg.FinA; intro Dw9 h9 tk9 F9 N9 off9; (try simp only [List.nil_append, List.cons_append] at N9); clear off9; (try dsimp only))
    repeat' (first | (k_unfold; (try dsimp only)) | (k_end; kc_close) | walk1 | (dsimp only; walk1) | (leave1; walk_say "STEP leave1"; (try dsimp only)) | fail "no step")
    rename News _ L0 _ _ => kN
    rename Fr _ L0 _ _ => kF
    exact CutEnd.intro (fun Cq9 kq9 => kq9 _ _ _ _ _ _ _ _ _ _ _ _ _ _ _ _ rfl kF kN (by with_reducible assumption) (by with_reducible assumption) (by with_reducible assumption) (by with_reducible assumption) (by with_reducible assumption) (by with_reducible assumption))
  intro s' hM9
  refine hM9 _ ?_
  clear hM9
  rintro Hd k0 k1 k2 k3 k4 k5 j0 j1 j2 j3 j4 j5 hdn h13 tk13 rfl F13 N13 hv0 hv1 hv2 hv3 hv4 hv5
  clear F12 N12
  obtain ⟨led3, N13q, mHd, mj5, mj4, mj3, mj2, mj1, mj0, hs3⟩ := absorb N13
  clear N13
  have N13 := N13q
  clear N13q
  replace mp5 := hs3.sub _ mp5
  replace mp4 := hs3.sub _ mp4
  replace mp3 := hs3.sub _ mp3
  replace mp2 := hs3.sub _ mp2
  replace mp1 := hs3.sub _ mp1
  replace mp0 := hs3.sub _ mp0
  replace mPl := hs3.sub _ mPl
  replace mHs := hs3.sub _ mHs
  replace mRw := hs3.sub _ mRw
  replace mx5 := hs3.sub _ mx5
  replace mx4 := hs3.sub _ mx4
  replace mx3 := hs3.sub _ mx3
  replace mx2 := hs3.sub _ mx2
  replace mcr := hs3.sub _ mcr
  replace mWl := hs3.sub _ mWl
  replace mw5 := hs3.sub _ mw5
  replace mw4 := hs3.sub _ mw4
  replace mw3 := hs3.sub _ mw3
  replace mw2 := hs3.sub _ mw2
  replace mw1 := hs3.sub _ mw1
  replace mw0 := hs3.sub _ mw0
  replace mx6 := hs3.sub _ mx6
  replace mKl := hs3.sub _ mKl
  replace mGv := hs3.sub _ mGv
  clear hs3
  refine seq_cut (fun s' => ∀ Cq9 : Prop, (∀ (h : Heap) (tk : Nat), s' = St s1 h tk → Fr s1.heap L0 h (fun y => if y = Str.ofString "heard" then some (.ref Hd) else if y = Str.ofString "kept" then some (.ref Kl) else if y = Str.ofString "given" then some (.ref Gv) else mB y) → News s1.heap L0 h (led3) → Cq9) → Cq9) ?_ ?_
  · dsimp only [Mine.St]
    with_reducible change wpAny _ _ _ _ _ _
    k_fold
    k_with_none
    w_top off
    k_with "compsrc" => (refine LCg.CompSrc.range (by rfl) (by k_asm) (by k_asm) (by assumption) (by first | decide | rfl) (by first | rfl | decide) (by first | size_fits | exact Nat.le_of_ble_eq_true rfl) ?_; intro g9; lcg_lit)
    k_with "comprest" => (with_unfolding_all first | (refine LCg.CompRest.succ ?_; intro v' I9 oI9 C9 oC9 Da9 m9 h9 tk9 E9 hv' hC9 hx9 F9 N9 off9 ne9; (obtain ⟨t9', hv9'⟩ := hv'; subst hv9'); (with_reducible change wpAny _ _ _ _ _ _); k_fold) | refine LCg.CompRest.zero ?_)
    k_with "newtuple" => ((refine' newTuple_K2 ?F ?N ?_ ?z; (case F => k_asm); (case N => k_asm); (case z => kmk_size)); intro T9 h9 F9 N9 l9 l2; clear l2; (try k_sweep))
    k_with "ifexp" => ((fail_if_success (rename PjMk => hPj9)); (refine' pvW [(((0 : Int) = o1 ∨ (0 : Int) = o2), w0), (((1 : Int) = o1 ∨ (1 : Int) = o2), w1), (((2 : Int) = o1 ∨ (2 : Int) = o2), w2), (((3 : Int) = o1 ∨ (3 : Int) = o2), w3), (((4 : Int) = o1 ∨ (4 : Int) = o2), w4), (((5 : Int) = o1 ∨ (5 : Int) = o2), w5)] F9 N9 off9 hx9 (by exact rfl) ?_ trivial ?_); (have hPjm9 : PjMk := PjMk.mk); (with_reducible change wpAny _ _ _ _ _ _); k_fold; rotate_left; (intro v9 hv9; clear off9); rotate_left)
    k_with "intwo" => (refine in_two N9 ?_; intro bo9 hB9)
    k_with "pvend" => first | (refine wv_bad F9 N9 (hB9.mp (by assumption))) | (refine wv_good F9 N9 (fun e9 => Bool.false_ne_true ((show _ = false by assumption).symm.trans (hB9.mpr e9))))
    k_with "fine" => (unfold LCg.FinE; intro Dw9 h9 tk9 F9 N9 off9; (try simp only [List.nil_append, List.cons_append] at N9); clear off9; (try dsimp only))
    k_with "cmpne" => ((rename News _ _ _ _ => cN'); (refine ne_same (rd_six cN' (by k_mem) (rd_hv cN' hv0 (by k_mem)) (rd_hv cN' hv1 (by k_mem)) (rd_hv cN' hv2 (by k_mem)) (rd_hv cN' hv3 (by k_mem)) (rd_hv cN' hv4 (by k_mem)) (rd_hv cN' hv5 (by k_mem))) (rd_six cN' (by k_mem) (rd_wv cN' (by with_reducible assumption) (by k_mem)) (rd_wv cN' (by with_reducible assumption) (by k_mem)) (rd_wv cN' (by with_reducible assumption) (by k_mem)) (rd_wv cN' (by with_reducible assumption) (by k_mem)) (rd_wv cN' (by with_reducible assumption) (by k_mem)) (rd_wv cN' (by with_reducible assumption) (by k_mem))) (shaped6 (lay_dK hok0) (lay_dK hok1) (lay_dK hok2) (lay_dK hok3) (lay_dK hok4) (lay_dK hok5)) (by ke_room) ?_))
    repeat' (first | (k_unfold; (try dsimp only)) | (k_end; kc_close) | walk1 | (dsimp only; walk1) | (leave1; walk_say "STEP leave1"; (try dsimp only)) | fail "no step")
    rename News _ L0 _ _ => kN
    rename Fr _ L0 _ _ => kF
    exact CutEnd.intro (fun Cq9 kq9 => kq9 _ _ rfl kF ((fun q hq => kN q (by repeat (first | exact hq | refine List.Mem.tail _ ?_)))))
  intro s' hM9
  refine hM9 _ ?_
  clear hM9
  rintro h14 tk14 rfl F14 N14
  clear F13 N13
  refine seq_cut (fun s' => ∀ Cq9 : Prop, (∀ (h : Heap) (tk : Nat), s' = St s1 h tk → Fr s1.heap L0 h (fun y => if y = Str.ofString "heard" then some (.ref Hd) else if y = Str.ofString "kept" then some (.ref Kl) else if y = Str.ofString "given" then some (.ref Gv) else mB y) → News s1.heap L0 h (led3) → Cq9) → Cq9) ?_ ?_
  · obtain ⟨uu0, uu1, uu2, uu3, uu4, uu5⟩ := hu
    dsimp only [Mine.St]
    with_reducible change wpAny _ _ _ _ _ _
    k_fold
    k_with_none
    w_top off
    k_with "compsrc" => (refine LCg.CompSrc.ledger (by rfl) (by k_asm) (by k_asm) (by k_mem) (by first | size_fits | exact Nat.le_of_ble_eq_true rfl) ?_; intro g9; lcg_lit)
    k_with "told1" => (refine' told1 (q := (_, tupi _ _ _ _ _)) ?nn1 rfl ?nn2 ?_ ?nn4; (case nn1 => k_asm); (case nn2 => k_mem); (case nn4 => with_unfolding_all rfl); k_whole)
    k_with "comprest" => (with_unfolding_all first | (refine LCg.CompRest.succ ?_; intro v' I9 oI9 C9 oC9 Da9 m9 h9 tk9 E9 hv' hC9 hx9 F9 N9 off9 ne9; lcg_open hv'; (with_reducible change wpAny _ _ _ _ _ _); k_fold) | refine LCg.CompRest.zero ?_)
    k_with "newtuple" => ((refine' newTuple_K2 ?F ?N ?_ ?z; (case F => k_asm); (case N => k_asm); (case z => kmk_size)); intro T9 h9 F9 N9 l9 l2; clear l2 l9; (try k_sweep))
    k_with "compend" => (refine comp_end0 N9 F9 off9 (.inr ⟨_, by k_mem, rfl, _, rfl⟩) ?_; clear off9)
    k_with "fine" => (unfold LCg.FinE; intro Dw9 h9 tk9 F9 N9 off9; (try simp only [List.nil_append, List.cons_append] at N9); clear off9; (try dsimp only))
    k_with "callref" => ((refine' u_sums (p0 := r0) (p1 := r1) (p2 := r2) (p3 := r3) (p4 := r4) (p5 := r5) ?k1 ?k2 ?k3 ?k4 ?k5 ?kK ?kd ?ku ?kl ?i0 ?i1 ?i2 ?i3 ?i4 ?i5 uu0 uu1 uu2 uu3 uu4 uu5 ?_; (case k1 => k_asm); (case k2 => k_asm); (case k3 => k_asm); (case k4 => k_asm); (case k5 => k_asm); (case kK => first | exact rfl | assumption); (case kd => ktr_room); (case ku => ktr_units); (case kl => exact news_isList N9 (by k_mem)); (case i0 => exact .inr ⟨_, rfl⟩); (case i1 => exact .inr ⟨_, rfl⟩); (case i2 => exact .inr ⟨_, rfl⟩); (case i3 => exact .inr ⟨_, rfl⟩); (case i4 => exact .inr ⟨_, rfl⟩); (case i5 => exact .inr ⟨_, rfl⟩)); intro D9 t91 t92 n9 h9 tk9 F9 N9 l9; clear l9; (try dsimp only); (try k_sweep); (try k_fold))
    k_with "cmpne" => ((rename News _ _ _ _ => cN'); (refine ne_same (rd_ii cN' (by k_mem) hP hF) (rd_ii cN' (by k_mem) rfl rfl) (by decide) (by ke_room) ?_))
    repeat' (first | (k_unfold; (try dsimp only)) | (k_end; kc_close) | walk1 | (dsimp only; walk1) | (leave1; walk_say "STEP leave1"; (try dsimp only)) | fail "no step")
    rename News _ L0 _ _ => kN
    rename Fr _ L0 _ _ => kF
    exact CutEnd.intro (fun Cq9 kq9 => kq9 _ _ rfl kF ((fun q hq => kN q (by repeat (first | exact hq | refine List.Mem.tail _ ?_)))))
  intro s' hM9
  refine hM9 _ ?_
  clear hM9
  rintro h15 tk15 rfl F15 N15
  clear F14 N14
  obtain ⟨uu0, uu1, uu2, uu3, uu4, uu5⟩ := hu
  obtain ⟨ix, jx, hi0, hij, hj6, hcc⟩ := min_max ho1 ho2
  dsimp only [Mine.St]
  k_with_none
  w_top off
  k_with "compsrc" => (refine LCg.CompSrc.ledger (by rfl) (by k_asm) (by k_asm) (by k_mem) (by first | size_fits | exact Nat.le_of_ble_eq_true rfl) ?_; intro g9; lcg_lit)
  k_with "comprest" => (with_unfolding_all first | (refine LCg.CompRest.succ ?_; intro v' I9 oI9 C9 oC9 Da9 m9 h9 tk9 E9 hv' hC9 hx9 F9 N9 off9 ne9; lcg_open hv'; (with_reducible change wpAny _ _ _ _ _ _); k_fold) | refine LCg.CompRest.zero ?_)
  k_with "ifexp" => ((fail_if_success (rename PjMk => hPj9)); (first | (refine' pvH F9 N9 off9 hx9 hv0 ?_ (.inr ⟨_, by k_mem, rfl, _, rfl⟩) ?_) | (refine' pvH F9 N9 off9 hx9 hv1 ?_ (.inr ⟨_, by k_mem, rfl, _, rfl⟩) ?_) | (refine' pvH F9 N9 off9 hx9 hv2 ?_ (.inr ⟨_, by k_mem, rfl, _, rfl⟩) ?_) | (refine' pvH F9 N9 off9 hx9 hv3 ?_ (.inr ⟨_, by k_mem, rfl, _, rfl⟩) ?_) | (refine' pvH F9 N9 off9 hx9 hv4 ?_ (.inr ⟨_, by k_mem, rfl, _, rfl⟩) ?_) | (refine' pvH F9 N9 off9 hx9 hv5 ?_ (.inr ⟨_, by k_mem, rfl, _, rfl⟩) ?_)); (have hPjm9 : PjMk := PjMk.mk); (with_reducible change wpAny _ _ _ _ _ _); k_fold; rotate_left; (intro v9 hv9; clear off9); rotate_left)
  k_with "isnone" => ((first | (refine hv_is hv0 (fun hb9 e9 => ?_) (fun a9 t9 u9 n9 hb9 e9 e9' => ?_)) | (refine hv_is hv1 (fun hb9 e9 => ?_) (fun a9 t9 u9 n9 hb9 e9 e9' => ?_)) | (refine hv_is hv2 (fun hb9 e9 => ?_) (fun a9 t9 u9 n9 hb9 e9 e9' => ?_)) | (refine hv_is hv3 (fun hb9 e9 => ?_) (fun a9 t9 u9 n9 hb9 e9 e9' => ?_)) | (refine hv_is hv4 (fun hb9 e9 => ?_) (fun a9 t9 u9 n9 hb9 e9 e9' => ?_)) | (refine hv_is hv5 (fun hb9 e9 => ?_) (fun a9 t9 u9 n9 hb9 e9 e9' => ?_))); (all_goals subst e9))
  k_with "told1" => (refine' told1 ?n1 e9' ?n2 ?_ ?n4; (case n1 => k_asm); (case n2 => k_mem); (case n4 => with_unfolding_all rfl); k_whole)
  k_with "pvend" => first | (refine PV.intro (by k_asm) (by k_asm) (.inl ⟨by assumption, rfl⟩)) | (refine PV.intro (by k_asm) (by k_asm) (.inr ⟨by assumption, _, rfl⟩))
  k_with "callref" => ((refine' u_mended (i := ix) (j := jx) ?k1 ?k2 ?k3 ?k4 ?k5 ?kK ?kd ?ku ?ks uu0 uu1 uu2 uu3 uu4 uu5 hi0 hij hj6 ?q0 ?q1 ?q2 ?q3 ?q4 ?q5 hP hF ?_; (case k1 => k_asm); (case k2 => k_asm); (case k3 => k_asm); (case k4 => k_asm); (case k5 => k_asm); (case kK => first | exact rfl | assumption); (case kd => ktr_room); (case ku => ktr_units); (case ks => lcg_sub); (case q0 => exact pa_of (by with_reducible assumption) (hcc 0)); (case q1 => exact pa_of (by with_reducible assumption) (hcc 1)); (case q2 => exact pa_of (by with_reducible assumption) (hcc 2)); (case q3 => exact pa_of (by with_reducible assumption) (hcc 3)); (case q4 => exact pa_of (by with_reducible assumption) (hcc 4)); (case q5 => exact pa_of (by with_reducible assumption) (hcc 5)); intro D9 ws9 n9 h9 tk9 is9 F9 N9 l9; clear l9; (try dsimp only); (try k_sweep); (try k_fold)))
  k_with "cmpeq" => (refine eq_rows N9 (.head _) (by k_mem) is9 (by repeat constructor) (by ke_room) ?_)
  k_with "fine" => (unfold LCg.FinE; intro Dw9 h9 tk9 F9 N9 off9; (try simp only [List.nil_append, List.cons_append] at N9); clear off9; (try dsimp only))
  repeat' (first | (k_unfold; (try dsimp only)) | (k_end; kc_close) | walk1 | (dsimp only; walk1) | (leave1; walk_say "STEP leave1"; (try dsimp only)) | fail "no step")
  rename Fr _ L0 _ _ => kF
  exact hend _ _ _ kF
)

theorem PySem.Challenge.cw_xo0002_01_holds : PySem.Challenge.rw_xo0002_01.Holds := by
  exact Mine.law_walk
