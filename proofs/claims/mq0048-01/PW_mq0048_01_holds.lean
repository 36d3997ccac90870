import PyProof.Rows.All
import Wide.All
import OpenK.AllK
import Wide.FinOn
import PySem.Challenge.RW_mq0048_01
set_option Elab.async false
set_option maxRecDepth 100000
set_option maxHeartbeats 8000000
set_option linter.unusedVariables false
set_option linter.unusedSimpArgs false
open PySem PySem.W PyProof.Rows PySem.Calls
namespace Mine
open_top hd for PySem.Challenge.rw_mq0048_01
-- Base
/-- everything that stood stands still -/
abbrev Keeps (h h' : Heap) : Prop := ∀ b o, h.get? b = some o → h'.get? b = some o

noncomputable abbrev KK (w : World) : Frag := hd.heap_39 w.params
abbrev PR : Program := Challenge.rw_mq0048_01.row.prog
abbrev Lv (d u : Nat) (gd : Option (List Code)) (cn : Str) (cs : Scope) (L a : Addr) (ccd : Value) (cl : List (Str × Addr)) (outer : List Env) : Around :=
  { handled := none, depth := d, frames := some (envX cn cs L a ccd cl :: outer), guards := gd, units := u }

theorem in_le {Γ : Ctx} {A A' : Around} (h : Γ.In A) (hh : A.handled = A'.handled) (hd : A.depth ≤ A'.depth) (hf : A'.frames = A.frames) (hg : A'.guards = A.guards) (hu : A.units ≤ A'.units) : Γ.In A' :=
  ⟨h.1.trans hh, Nat.le_trans h.2.1 hd, fun l hl => h.2.2.1 l (hf ▸ hl), fun g hl => h.2.2.2.1 g (hg ▸ hl), Nat.le_trans h.2.2.2.2 hu⟩
theorem wpAny_le {α : Type} {M : Model} {A A' : Around} {t : Sem α} {Q : α → Shared → Prop} {E : Value → Shared → Prop} {s : Shared} (h : wpAny M A' t Q E s)
    (hh : A.handled = A'.handled) (hd : A.depth ≤ A'.depth) (hf : A'.frames = A.frames) (hg : A'.guards = A.guards) (hu : A.units ≤ A'.units) : wpAny M A t Q E s :=
  fun Γ p hΓ => h Γ p (in_le hΓ hh hd hf hg hu)

section
variable {prog : Program} {w : World} {A₀ A : Around} {s : Shared} {base h₀ : Heap} {outer : List Env} {L : Addr} {m mg mb : Str → Option Value} {env : Env} {K : Frag}
  {R : Result → Shared → Prop} {name qual : Str} {params : Arguments} {body : List Stmt} {scope : Scope} {dV kV doc pm cdv ct oc : Value} {an od : Option Addr} {osl : Array (Option Value)} {f : Addr} {args : Args} {binds : List (Str × Value)}
  {p : Program} {loose : List Str} {mean : ExcName → Option Value}

/-- a def is entered, the whole heap as it stands is the ground -/
theorem enter_plain (B : Below A₀ base outer h₀) (F : Fr h₀ L s.heap m) (X₀ : K.In h₀) (T : Top p loose mean mg mb h₀) (hA : A.frames = some (env :: outer)) (hf : env.frame = some L) (hke : env.scope.kind = .function)
    (ho : K.lookup f = some ⟨oc, od, .func (fnOf name qual params body scope dV kV doc pm an cdv ct), osl⟩) (hcd : codeIn K cdv qual = true) (hroom : A.depth < recursionLimit)
    (hbind : BindsTo s (fnOf name qual params body scope dV kV doc pm an cdv ct) args binds) (hloc : ∀ y ∈ binds, scope.names.lookup y.1 = some .local)
    (h : ∀ h₁, Fr s.heap s.heap.objs.size h₁ (fun y => binds.reverse.lookup y) → News s.heap s.heap.objs.size h₁ [] → Below A base (env :: outer) s.heap → K.In s.heap → Top p loose mean mg mb s.heap →
      wpAny (model prog w) (A.deeper (envOf qual scope s.heap.objs.size f cdv)) (execs body (envOf qual scope s.heap.objs.size f cdv))
        (fun fl s' => R (.ok (.ret (match fl with | .ret v => v | _ => .none))) s')
        (fun e s' => wpAny (model prog w) (A.deeper (envOf qual scope s.heap.objs.size f cdv)) (leaving (envOf qual scope s.heap.objs.size f cdv) e) (fun _ s'' => R (.error e) s'') (fun e' s'' => R (.error e') s'') s')
        { s with heap := h₁, toks := s.toks + binds.length })
    (hco : scope.isCoroutine = false) (hgen : scope.isGenerator = false) (hk : scope.kind = .function)
    (hcell : ∀ x ∈ scope.names, x.2 ≠ .cell) : codeAny (model prog w) A (.call (.ref f) args) R s := by
  obtain ⟨_, BG, _, _⟩ := groundX (R := R) B F (News.nil) hA hf hke
  refine codeAny_call_def (fd := fnOf name qual params body scope dV kV doc pm an cdv ct) (body := body) (binds := binds) hroom ((X₀.keeps F.keep) _ _ ho) rfl (T.nolimit.keeps F.keep) (codeRec_of (X₀.keeps F.keep) hcd) rfl hbind hcell hloc (fun h₁ hns hk₁ => ?_) hco hgen hk
  exact h h₁ ⟨hns, hk₁, Nat.le_refl _⟩ News.nil BG (X₀.keeps F.keep) (T.keeps F.keep)

/-- the same for a def with cells -/
theorem enter_cells (B : Below A₀ base outer h₀) (F : Fr h₀ L s.heap m) (X₀ : K.In h₀) (T : Top p loose mean mg mb h₀) (hA : A.frames = some (env :: outer)) (hf : env.frame = some L) (hke : env.scope.kind = .function)
    (ho : K.lookup f = some ⟨oc, od, .func (fnOf name qual params body scope dV kV doc pm an cdv ct), osl⟩) (hcd : codeIn K cdv qual = true) (hroom : A.depth < recursionLimit)
    (hbind : BindsTo s (fnOf name qual params body scope dV kV doc pm an cdv ct) args binds) (hkind : (binds.all fun y => scope.names.lookup y.1 == some .local || scope.names.lookup y.1 == some .cell) = true)
    (hnd : ((cellsFrom 0 scope.names []).map (·.1)).Nodup)
    (h : ∀ h₁ tk cells, Fr s.heap s.heap.objs.size h₁ (bindL (envOfC qual scope s.heap.objs.size f cdv).kindOf binds fun _ => none) → News s.heap s.heap.objs.size h₁ cells →
      CellsAre (bindC (envOfC qual scope s.heap.objs.size f cdv).kindOf binds fun _ => none) (cellsFrom (s.heap.objs.size + 1) scope.names []) cells → Below A base (env :: outer) s.heap → K.In s.heap → Top p loose mean mg mb s.heap →
      wpAny (model prog w) (A.deeper (envOfC qual scope s.heap.objs.size f cdv)) (execs body (envOfC qual scope s.heap.objs.size f cdv))
        (fun fl s' => R (.ok (.ret (match fl with | .ret v => v | _ => .none))) s')
        (fun e s' => wpAny (model prog w) (A.deeper (envOfC qual scope s.heap.objs.size f cdv)) (leaving (envOfC qual scope s.heap.objs.size f cdv) e) (fun _ s'' => R (.error e) s'') (fun e' s'' => R (.error e') s'') s')
        { s with heap := h₁, toks := tk })
    (hco : scope.isCoroutine = false) (hgen : scope.isGenerator = false) (hk : scope.kind = .function) : codeAny (model prog w) A (.call (.ref f) args) R s := by
  obtain ⟨_, BG, _, _⟩ := groundX (R := R) B F (News.nil) hA hf hke
  refine codeAny_call_function hroom ((X₀.keeps F.keep) _ _ ho) rfl hco hgen rfl (codeRec_of (X₀.keeps F.keep) hcd) (hbind _ _ _ _ ?_)
  refine wpAny_newFunctionEnv_cells hk (kindsX hkind _) fun env' he s' x => ?_
  subst he
  refine ⟨(T.nolimit.keeps F.keep).keeps x.toInCall.keep, codeAny_func ?_⟩
  obtain ⟨h₁, tk, rfl, _⟩ := x.done
  have hk₁ := x.toInCall.keep
  obtain ⟨cells, NC, Y⟩ := Cl.news (h₀ := s.heap) (Nat.le_refl _) fun n c hm => ⟨x.cell n c (lookup_of_mem_nodup (cellsFrom_names scope.names 0 (s.heap.objs.size + 1) [] [] rfl ▸ hnd) hm), x.above n c hm⟩
  exact h h₁ tk cells ⟨x.toInCall.ns, hk₁, Nat.le_refl _⟩ NC Y BG (X₀.keeps F.keep) (T.keeps F.keep)
end
-- C1
/-- what _law_choices reckons -/
def chF (n k : Int) : Int := (List.foldl (fun (σ : Int × Unit) k => ((σ.fst * (n - k)).fdiv (k + 1), ())) (1, ()) (rangeInts 0 1 (k - 0).toNat)).fst
local macro_rules | `(tactic| walk_at "mine fill") => `(tactic| ((rename Frag.In _ _ => X9); (unfold KK at X9); (unfold PR); (revert X9); k_fill; (intro X9)))
local macro_rules | `(tactic| walk_at "mine enter") => `(tactic| (refine wpAny_call ?_; refine' enter_plain (by assumption) (by assumption) (by assumption) (by assumption) rfl rfl (by assumption) ?k6 ?k7 ?k8 ?k9 ?kB ?_ ?c2 ?c3 ?c4 ?c5; (case k6 => k_is); (case k7 => k_is); (case k8 => exact Nat.le_of_ble_eq_true rfl); (case k9 => exact BindsTo.of_eq rfl); (case kB => exact locs rfl); (case c2 => exact rfl); (case c3 => exact rfl); (case c4 => exact rfl); (case c5 => decide); intro h₁ F' N' B' X' T'; (try dsimp only); (try k_fold)))
theorem choices_spec {w : World} {p : Program} {loose : List Str} {mean : ExcName → Option Value} {mg mb : Str → Option Value} {gd : Option (List Code)} {cn : Str} {cs : Scope} {a : Addr} {ccd : Value} {cl : List (Str × Addr)} {outer : List Env}
    {A₀ : Around} {base h₀ : Heap} {L : Addr} {m : Str → Option Value} {s : Shared} {Q E : Value → Shared → Prop} {n k : Int} {t1 t2 : Tok}
    (B : Below A₀ base outer h₀) (F : Fr h₀ L s.heap m) (X : (KK w).In h₀) (T : Top p loose mean mg mb h₀) (hck : cs.kind = .function)
    (hn : 0 ≤ n) (hn2 : n ≤ 20) (hk : 0 ≤ k) (hk2 : k ≤ 5)
    (ret : ∀ t h' tk', Keeps s.heap h' → Q (.int (chF n k) t) { s with heap := h', toks := tk' }) :
    wpAny (model PR w) (Lv 700 700 gd cn cs L a ccd cl outer) (call (.ref 78) [.int n t1, .int k t2]) Q E s := by
  w_top off
  walk_at "mine fill"
  walk_at "mine enter"
  k_steps
  all_goals (refine ret _ _ _ (Fr.keep (by assumption)))
-- C2
local macro_rules | `(tactic| walk_at "call ref") => `(tactic| (k_here; (with_reducible show wpAny _ _ (call (Value.ref 78) _) _ _ _); k_dflt (refine wpAny_le (A' := Lv 700 700 _ _ _ _ _ _ _ _) (choices_spec (by assumption) (by assumption) (by assumption) (by assumption) (by first | rfl | assumption) ?h1 ?h2 ?h3 ?h4 ?_) rfl ?hd rfl rfl ?hu; (case hd => exact Nat.le_of_ble_eq_true rfl); (case hu => exact Nat.le_of_ble_eq_true rfl); (case h1 => omega); (case h2 => omega); (case h3 => omega); (case h4 => omega)); intro t9 h9 tk9 hK9; (rename Fr _ _ _ _ => F8); (rename News _ _ _ _ => N8); (have F9 := Fr.keeps F8 hK9); (have N9 := News.grown N8 hK9); (clear F8 N8); (try dsimp only)))
def topN (m k : Int) : Nat → Int → Int
  | 0, n => n
  | f + 1, n => if chF (n + 1) k ≤ m then topN m k f (n + 1) else n
def leF : Nat → Int → Int
  | 0, _ => 0
  | k + 1, m => if m ≤ 0 then 0 else chF (topN m (k + 1) 20 (k + 1)) k + leF k (m - chF (topN m (k + 1) 20 (k + 1)) (k + 1))

def ltI (a b : Int) : Bool := decide (a < b)

theorem chF_big : ∀ k : Fin 5, ∀ n : Fin 14, 1 ≤ k.val → chF ((n.val : Int) + 1) k.val ≤ 10 → n.val + 1 ≤ 12 := by decide +kernel
theorem chF_bigI {k n m : Int} (hk : 1 ≤ k) (hk2 : k ≤ 4) (hn : 0 ≤ n) (hn2 : n ≤ 13) (hm : m ≤ 10) (h : chF (n + 1) k ≤ m) : n + 1 ≤ 12 := by
  have := chF_big ⟨k.toNat, by omega⟩ ⟨n.toNat, by omega⟩ (by simp only; omega)
  have e1 : ((k.toNat : Nat) : Int) = k := by omega
  have e2 : ((n.toNat : Nat) : Int) = n := by omega
  simp only [e1, e2] at this
  omega


theorem le_inner {m k n : Int} (h1 : k ≤ n) (h2 : n ≤ 13) (h3 : topN m k (20 - (n - k)).toNat n = topN m k 20 k) (h4 : chF (n + 1) k ≤ m) (hm : m ≤ 10) (hm0 : 0 < m → 1 ≤ k) (hm1 : 0 < m) (hk : k ≤ 4) :
    k ≤ n + 1 ∧ n + 1 ≤ 13 ∧ topN m k (20 - (n + 1 - k)).toNat (n + 1) = topN m k 20 k := by
  have hb := chF_bigI (hm0 hm1) hk (by have := hm0 hm1; omega) h2 hm h4
  refine ⟨by omega, by omega, ?_⟩
  have e : (20 - (n - k)).toNat = (20 - (n + 1 - k)).toNat + 1 := by have := hm0 hm1; omega
  rw [e, topN, if_pos h4] at h3
  exact h3
theorem le_innerStart {m k : Int} (h2 : k ≤ 4) : k ≤ k ∧ k ≤ 13 ∧ topN m k (20 - (k - k)).toNat k = topN m k 20 k := by
  refine ⟨by omega, by omega, ?_⟩
  have e : (20 - (k - k)).toNat = 20 := by omega
  rw [e]
theorem le_top : ∀ k : Fin 5, ∀ m : Fin 11, 1 ≤ k.val → 1 ≤ m.val → chF (topN m.val k.val 20 k.val) k.val ≤ m.val ∧ 0 ≤ chF (topN m.val k.val 20 k.val) k.val ∧ (k.val = 1 → chF (topN m.val k.val 20 k.val) k.val = m.val) := by decide +kernel
theorem le_outer {m k n l v : Int} (h0 : 0 ≤ m) (h1 : m ≤ 10) (h2 : 0 ≤ k) (h3 : k ≤ 4) (h4 : 0 < m → 1 ≤ k) (h5 : l + leF k.toNat m = v) (h6 : 0 < m) (h7 : k ≤ n) (h8 : n ≤ 13) (h9 : topN m k (20 - (n - k)).toNat n = topN m k 20 k) (h10 : ¬ chF (n + 1) k ≤ m) :
    0 ≤ m - chF n k ∧ m - chF n k ≤ 10 ∧ 0 ≤ k - 1 ∧ k - 1 ≤ 4 ∧ (0 < m - chF n k → 1 ≤ k - 1) ∧ l + chF n (k - 1) + leF (k - 1).toNat (m - chF n k) = v := by
  have hk := h4 h6
  have e : (20 - (n - k)).toNat = (20 - (n - k)).toNat - 1 + 1 := by omega
  rw [e, topN, if_neg h10] at h9
  have ht := le_top ⟨k.toNat, by omega⟩ ⟨m.toNat, by omega⟩ (by simp only; omega) (by simp only; omega)
  have e1 : ((k.toNat : Nat) : Int) = k := by omega
  have e2 : ((m.toNat : Nat) : Int) = m := by omega
  simp only [e1, e2] at ht
  rw [← h9] at ht
  obtain ⟨a, b, c⟩ := ht
  refine ⟨by omega, by omega, by omega, by omega, fun hp => ?_, ?_⟩
  · rcases Int.lt_or_le 1 k with q | q
    · omega
    · have := c (by omega); omega
  · obtain ⟨j, hj⟩ : ∃ j, k.toNat = j + 1 := ⟨k.toNat - 1, by omega⟩
    have ej : (k - 1).toNat = j := by omega
    have ej2 : ((j : Nat) : Int) + 1 = k := by omega
    have ej3 : ((j : Nat) : Int) = k - 1 := by omega
    rw [hj, leF, if_neg (by omega), ej2, ← h9, ej3] at h5
    rw [ej]; omega
theorem le_outerStart {m k : Int} (h0 : 0 ≤ m) (h1 : m ≤ 10) (h2 : 1 ≤ k) (h3 : k ≤ 4) : 0 ≤ m ∧ m ≤ 10 ∧ 0 ≤ k ∧ k ≤ 4 ∧ (0 < m → 1 ≤ k) ∧ 0 + leF k.toNat m = leF k.toNat m := by
  refine ⟨h0, h1, by omega, h3, fun _ => h2, by omega⟩
theorem leF_nil {m l v : Int} {k : Nat} (h : l + leF k m = v) (h0 : 0 ≤ m) (h1 : ¬ 0 < m) : l = v := by
  have e : leF k m = 0 := by
    cases k with
    | zero => rfl
    | succ k => rw [leF, if_pos (by omega)]
  omega
theorem least_spec {w : World} {p : Program} {loose : List Str} {mean : ExcName → Option Value} {mg mb : Str → Option Value} {gd : Option (List Code)} {cn : Str} {cs : Scope} {a : Addr} {ccd : Value} {cl : List (Str × Addr)} {outer : List Env}
    {A₀ : Around} {base h₀ : Heap} {L : Addr} {m : Str → Option Value} {s : Shared} {Q E : Value → Shared → Prop} {mm k : Int} {t1 t2 : Tok}
    (B : Below A₀ base outer h₀) (F : Fr h₀ L s.heap m) (X : (KK w).In h₀) (T : Top p loose mean mg mb h₀) (hck : cs.kind = .function)
    (hm : 0 ≤ mm) (hm2 : mm ≤ 10) (hk : 1 ≤ k) (hk2 : k ≤ 4)
    (ret : ∀ t h' tk', Keeps s.heap h' → Q (.int (leF k.toNat mm) t) { s with heap := h', toks := tk' }) :
    wpAny (model PR w) (Lv 600 600 gd cn cs L a ccd cl outer) (call (.ref 85) [.int mm t1, .int k t2]) Q E s := by
  w_top off
  walk_at "mine fill"
  walk_at "mine enter"
  k_with "exec While Compare cons nil" => (first
    | ((with_reducible show wpAny _ _ (exec (Stmt.While (Expr.Compare (Expr.Name _ _) _ _ _) _ _ _) _) _ _ _); k_while_given ["m!", "k!"] (fun m₀ k₀ script m k least => 0 ≤ m ∧ m ≤ 10 ∧ 0 ≤ k ∧ k ≤ 4 ∧ (0 < m → 1 ≤ k) ∧ least + leF k.toNat m = leF k₀.toNat m₀) (fun m₀ k₀ script m k least => k.toNat) "m" "k" "least")
    | k_while_given ["m", "k"] (fun m k script n => k ≤ n ∧ n ≤ 13 ∧ topN m k (20 - (n - k)).toNat n = topN m k 20 k) (fun m k script n => (20 - n).toNat) "n")
  k_with "state" => (first | exact le_inner (by assumption) (by assumption) (by assumption) (by assumption) (by assumption) (by assumption) (by assumption) (by assumption) | exact le_innerStart (by assumption) | exact le_outerStart (by assumption) (by assumption) (by assumption) (by assumption) | exact le_outer (by assumption) (by assumption) (by assumption) (by assumption) (by assumption) (by assumption) (by assumption) (by assumption) (by assumption) (by assumption) (by assumption))
  k_steps
  all_goals (have e9 := leF_nil (by assumption) (by assumption) (by assumption); subst e9; exact ret _ _ _ (Fr.keep (by assumption)))
-- SetCmp
section
variable {prog : Program} {w : World} {A : Around} {E : Value → Shared → Prop} {s : Shared} {a b : Addr}

theorem quiet_of {x : Value} (hx : x.scannable = true) {Q : Bool → Shared → Prop} (h : Q true s) : wpAny (model prog w) A (Builtin.Frozenset.quietEq x) Q E s := by
  cases x <;> first | exact wpAny_pure h | (cases hx; done)

theorem forIn_quiet {α : Type} {g : Sem (List α)} {Q : (Option (List α) × Unit) → Shared → Prop} : ∀ (l : List (Int × Value)), (∀ e ∈ l, e.2.scannable = true) → Q (none, ()) s →
    wpAny (model prog w) A (forIn l ((none : Option (List α)), ()) fun x _ => match x with
      | (_, x) => do
        let q ← Builtin.Frozenset.quietEq x
        if (!q) = true then do let r ← g; pure (ForInStep.done (some r, ())) else pure (ForInStep.yield (none, ()))) Q E s
  | [], _, h => by rw [List.forIn_nil]; exact wpAny_pure h
  | e :: l, hl, h => by
    rw [List.forIn_cons]
    refine wpAny_bind ?_
    obtain ⟨k, x⟩ := e
    refine wpAny_bind (quiet_of (hl _ (.head _)) ?_)
    simp only [Bool.not_true, Bool.false_eq_true, if_false]
    exact wpAny_pure (forIn_quiet l (fun e he => hl e (.tail _ he)) h)

variable {S S' : Int → Bool} {n n' : Nat}
/-- the elements' keys -/
theorem elem_key {es : List (Int × Value)} (hel : ElemsOf (intKind prog w) es) {e : Int × Value} (he : e ∈ es) : ∃ k : Int, (intKind prog w).is k e.2 = true ∧ e.1 = (intKind prog w).hash k ∧ e.2.scannable = true :=
  let ⟨⟨k, h1, h2⟩, h3⟩ := hel e he; ⟨k, h1, h2, h3⟩

theorem forIn_sub {id : String} {o : Obj} {es₀ : Array (Int × Value)} {ep : Nat} {t : SetTable} (ho : s.heap.get? a = some o) (hd : o.data = .set es₀ ep t) (hf : t.fits es₀.size = true)
    (hB : s.heap.SetOf (intKind prog w) b S' n') {Q : (Option Bool × Unit) → Shared → Prop} : ∀ (l : List (Int × Value)), ElemsOf (intKind prog w) l →
    (∀ r : Bool, (r = true ↔ ∀ k : Int, (∃ e ∈ l, (intKind prog w).is k e.2 = true) → S' k = true) → Q (if r then (none, ()) else (some false, ())) s) →
    wpAny (model prog w) A (forIn l ((none : Option Bool), ()) fun x _ => match x with
      | (h, x) => do
        let r ← holding [x] (setFind b x h)
        if r.isNone = true then pure (ForInStep.done (some false, ()))
        else do
          Builtin.Frozenset.unchanged id a ep
          pure (ForInStep.yield (none, ()))) Q E s
  | [], _, h => by rw [List.forIn_nil]; exact wpAny_pure (by simpa using h true (by simp))
  | e :: l, hl, h => by
    rw [List.forIn_cons]
    refine wpAny_bind ?_
    obtain ⟨k, hk, hh, hs⟩ := elem_key hl (e := e) (.head _)
    obtain ⟨q, x⟩ := e
    simp only at hk hh hs
    subst hh
    refine wpAny_bind (wpAny_holding (wpAny_setFind_of hk hs hB fun r hr => ?_))
    have uniq : ∀ k', (intKind prog w).is k' x = true → k' = k := fun k' h' => (intKind prog w).inj x k' k h' hk
    cases hS : S' k with
    | false =>
      rw [hS] at hr
      have : r.isNone = true := by cases r <;> simp_all
      rw [if_pos this]
      refine wpAny_pure (wpAny_pure ?_)
      have := h false (by
        constructor
        · intro q; cases q
        · intro q; have := q k ⟨_, .head _, hk⟩; rw [hS] at this; cases this)
      simpa using this
    | true =>
      rw [hS] at hr
      have : ¬ r.isNone = true := by cases r <;> simp_all
      rw [if_neg this]
      refine wpAny_bind ?_
      unfold Builtin.Frozenset.unchanged
      refine wpAny_bind (wpAny_setEpoch_of ho hd hf ?_)
      simp only [bne_self_eq_false, Bool.false_eq_true, if_false]
      refine wpAny_pure (wpAny_pure ?_)
      refine forIn_sub ho hd hf hB l hl.tail fun r' hr' => ?_
      refine h r' (hr'.trans ?_)
      constructor
      · rintro q k' ⟨e', he', hk'⟩
        rcases List.mem_cons.mp he' with rfl | he'
        · rw [uniq k' hk']; exact hS
        · exact q k' ⟨e', he', hk'⟩
      · rintro q k' ⟨e', he', hk'⟩
        exact q k' ⟨e', .tail _ he', hk'⟩

theorem sizeOf_set {Q : Nat → Shared → Prop} (hA : s.heap.SetOf (intKind prog w) a S n) (h : Q n s) : wpAny (model prog w) A (Builtin.Frozenset.sizeOf a) Q E s := by
  obtain ⟨o, es, ep, t, ho, _, hd, _, _, _, hf, hn⟩ := hA
  unfold Builtin.Frozenset.sizeOf
  refine wpAny_bind (wpAny_setEntries_of ho hd hf (wpAny_pure ?_))
  rw [hn]; exact h

theorem subsetOf_set {id : String} {Q : Bool → Shared → Prop} (hA : s.heap.SetOf (intKind prog w) a S n) (hB : s.heap.SetOf (intKind prog w) b S' n') (hle : n ≤ n')
    (h : ∀ r : Bool, (r = true ↔ ∀ k, S k = true → S' k = true) → Q r s) : wpAny (model prog w) A (Builtin.Frozenset.subsetOf id a b) Q E s := by
  unfold Builtin.Frozenset.subsetOf
  refine wpAny_bind (sizeOf_set hA (wpAny_bind (sizeOf_set hB ?_)))
  rw [if_neg (by omega)]
  obtain ⟨o, es, ep, t, ho, _, hd, hel, hmem, _, hf, hn⟩ := _root_.id hA
  obtain ⟨o', es', ep', t', ho', _, hd', hel', _, _, hf', _⟩ := _root_.id hB
  refine wpAny_bind (wpAny_setEpoch_of ho hd hf (wpAny_bind ?_))
  unfold Builtin.Frozenset.walkUnseen
  refine wpAny_bind (wpAny_setEntries_of ho hd hf (wpAny_bind (wpAny_setEntries_of ho' hd' hf' (wpAny_bind ?_))))
  refine forIn_quiet _ ?_ ?_
  · intro e he
    rcases List.mem_append.mp he with he | he
    · exact (hel e he).2
    · exact (hel' e he).2
  refine wpAny_pure (wpAny_bind ?_)
  refine forIn_sub ho hd hf hB _ hel fun r hr => ?_
  have hr' : r = true ↔ ∀ k, S k = true → S' k = true := hr.trans ⟨fun q k hk => q k ((hmem k).mp hk), fun q k hk => q k ((hmem k).mpr hk)⟩
  cases r
  · exact wpAny_pure (h false hr')
  · exact wpAny_pure (h true hr')

theorem entry_set_gt : entryFor table "set.__gt__" = some Builtin.«frozenset.__gt__» := entryFor_alias (id' := "frozenset.__gt__") (by kernel_rfl) rfl (by decide +kernel) (by kernel_rfl)
theorem entry_set_lt : entryFor table "set.__lt__" = some Builtin.«frozenset.__lt__» := entryFor_alias (id' := "frozenset.__lt__") (by kernel_rfl) rfl (by decide +kernel) (by kernel_rfl)

theorem isAnySet_set {Q : Bool → Shared → Prop} (hA : s.heap.SetOf (intKind prog w) a S n) (h : Q true s) : wpAny (model prog w) A (Builtin.Frozenset.isAnySet (.ref a)) Q E s := by
  unfold Builtin.Frozenset.isAnySet
  refine wpAny_bind (wpAny_isInstance hA.typeIs sub_set_self ?_)
  exact wpAny_pure h

theorem set_gt {Q : Value → Shared → Prop} (hA : s.heap.SetOf (intKind prog w) a S n) (hB : s.heap.SetOf (intKind prog w) b S' n') (hu : A.units < cLine)
    (h : ∀ r : Bool, (r = true ↔ n' < n ∧ ∀ k, S' k = true → S k = true) → Q (.bool r) s) : wpAny (model prog w) A (compareOp .Gt (.ref a) (.ref b)) Q E s := by
  refine cmp_ofGt (wpAny_richCompare_same_room hA.typeIs hB.typeIs F.slot_set_gt (wpAny_call_entry F.slot_set_gt hA.typeIs entry_set_gt ?_ (F.args_set_gt_2 _ _)) hu)
  unfold Builtin.«frozenset.__gt__»
  refine wpAny_bind (wpAny_pure ?_)
  refine wpAny_bind (isAnySet_set hB ?_)
  simp only [Bool.not_true, Bool.false_eq_true, if_false]
  refine wpAny_bind (wpAny_pure (wpAny_bind (wpAny_pure ?_)))
  refine wpAny_bind (sizeOf_set hA (wpAny_bind (sizeOf_set hB ?_)))
  by_cases hle : n ≤ n'
  · rw [if_pos hle]
    exact wpAny_pure ⟨_, rfl, (by intro q; cases q), h false ⟨fun q => (by cases q), fun q => absurd q.1 (by omega)⟩⟩
  · rw [if_neg hle]
    refine wpAny_bind (subsetOf_set hB hA (by omega) fun r hr => ?_)
    exact wpAny_pure ⟨_, rfl, (by intro q; cases q), h r (hr.trans ⟨fun q => ⟨by omega, q⟩, fun q => q.2⟩)⟩

theorem set_lt {Q : Value → Shared → Prop} (hA : s.heap.SetOf (intKind prog w) a S n) (hB : s.heap.SetOf (intKind prog w) b S' n') (hu : A.units < cLine)
    (h : ∀ r : Bool, (r = true ↔ n < n' ∧ ∀ k, S k = true → S' k = true) → Q (.bool r) s) : wpAny (model prog w) A (compareOp .Lt (.ref a) (.ref b)) Q E s := by
  refine cmp_ofLt (wpAny_richCompare_same_room hA.typeIs hB.typeIs F.slot_set_lt (wpAny_call_entry F.slot_set_lt hA.typeIs entry_set_lt ?_ (F.args_set_lt_2 _ _)) hu)
  unfold Builtin.«frozenset.__lt__»
  refine wpAny_bind (wpAny_pure ?_)
  refine wpAny_bind (isAnySet_set hB ?_)
  simp only [Bool.not_true, Bool.false_eq_true, if_false]
  refine wpAny_bind (wpAny_pure (wpAny_bind (wpAny_pure ?_)))
  refine wpAny_bind (sizeOf_set hA (wpAny_bind (sizeOf_set hB ?_)))
  by_cases hle : n ≥ n'
  · rw [if_pos hle]
    exact wpAny_pure ⟨_, rfl, (by intro q; cases q), h false ⟨fun q => (by cases q), fun q => absurd q.1 (by omega)⟩⟩
  · rw [if_neg hle]
    refine wpAny_bind (subsetOf_set hA hB (by omega) fun r hr => ?_)
    exact wpAny_pure ⟨_, rfl, (by intro q; cases q), h r (hr.trans ⟨fun q => ⟨by omega, q⟩, fun q => q.2⟩)⟩
end
-- Loop
section
open PySem.Spec
section
variable {prog : Program} {w : World} {A : Around} {E : Value → Shared → Prop} {s : Shared} {env : Env} {h₀ : Heap} {target : Expr} {body : List Stmt} {Q : Flow → Shared → Prop}

/-- a turn's end -/
def TEnd (h₀ : Heap) (L : Addr) (J : (Str → Option Value) → List (Addr × Obj) → Prop) (I : Addr) (oI : Obj) (s₁ s₂ : Shared) : Prop :=
  ∃ h' tk m' news', s₂ = { s₁ with heap := h', toks := tk } ∧ Fr h₀ L h' m' ∧ News h₀ L h' ((I, oI) :: news') ∧ (∀ p ∈ news', p.1 ≠ I) ∧ J m' news'
def TPost (h₀ : Heap) (L : Addr) (J : (Str → Option Value) → List (Addr × Obj) → Prop) (I : Addr) (oI : Obj) (s₁ : Shared) (Q : Flow → Shared → Prop) (f : Flow) (s₂ : Shared) : Prop :=
  match f with
  | .ret v => Q (.ret v) s₂
  | .brk => Q .next s₂
  | .next => TEnd h₀ L J I oI s₁ s₂
  | .cont => TEnd h₀ L J I oI s₁ s₂
theorem TEnd.intro {L : Addr} {J : (Str → Option Value) → List (Addr × Obj) → Prop} {I : Addr} {oI : Obj} {s₁ : Shared} {h' : Heap} {tk : Nat} {m' : Str → Option Value} {news' all : List (Addr × Obj)} (F : Fr h₀ L h' m') (N : News h₀ L h' all)
    (hI : (I, oI) ∈ all) (hs : ∀ p ∈ news', p ∈ all) (off : ∀ p ∈ news', p.1 ≠ I) (hj : J m' news') : TEnd h₀ L J I oI s₁ { s₁ with heap := h', toks := tk } :=
  ⟨h', tk, m', news', rfl, F, fun p hp => by
    rcases List.mem_cons.mp hp with rfl | hp
    · exact N _ hI
    · exact N p (hs p hp), off, hj⟩

theorem iter_list {l : Addr} {vs : List Value} {m₀ : Str → Option Value} {news : List (Addr × Obj)} (J : Nat → (Str → Option Value) → List (Addr × Obj) → Prop)
    (hh : A.handled = none) (hl : h₀.IsList l vs.toArray) (F : Fr h₀ env.locals s.heap m₀) (N : News h₀ env.locals s.heap news) (hj : J 0 m₀ news)
    (turn : ∀ i v m₁ news₁ h tk I oI, vs[i]? = some v → J i m₁ news₁ → (∀ p ∈ news₁, p.1 ≠ I) → Fr h₀ env.locals h m₁ → News h₀ env.locals h ((I, oI) :: news₁) →
      wpAny (model prog w) A (assign target env v) (fun _ s₃ => wpAny (model prog w) A (execs body env) (TPost h₀ env.locals (J (i + 1)) I oI { s with heap := h, toks := tk } Q) E s₃) E { s with heap := h, toks := tk })
    (done : ∀ m₁ news₁ h tk, J vs.length m₁ news₁ → Fr h₀ env.locals h m₁ → News h₀ env.locals h news₁ → Q .next { s with heap := h, toks := tk }) :
    wpAny (model prog w) A (pyIter (.ref l)) (fun it s₂ => TurnsAt prog w A h₀ env target body Q E it s₂) E s := by
  have hls : s.heap.IsList l vs.toArray := hl.at fun o e => F.keep l o e
  obtain ⟨ol, hol, _⟩ := _root_.id hl
  have hlt : l < h₀.objs.size := Heap.lt_size hol
  have hne : l ≠ s.heap.objs.size := Nat.ne_of_lt (Nat.lt_trans (Nat.lt_of_lt_of_le hlt F.above) F.ns.lt)
  refine wpAny_pyIter_list hls ?_
  have W := KTurns.ofWalks (target := target) (Walks.list (prog := prog) (w := w) hh s.heap.objs.size l hne vs.toArray) (fun i v s' Q' E' st hQ' => letGo_listiter st.1 hQ')
  have hlen : vs.toArray.size = vs.length := by simp
  rw [hlen] at W
  refine ⟨_, _, _, vs.length, _, _, _, m₀, news, J, rfl, W, ?_, ?_, ?_, ⟨⟨_, Heap.get?_push_size _ rfl, rfl, rfl⟩, hls.at fun o e => Heap.get?_push_of_some _ e⟩, F.push _, (fun p hp => ⟨Heap.get?_push_of_some _ (N p hp).1, (N p hp).2⟩), hj, ?_, ?_⟩
  · intro hm
    rcases List.mem_cons.mp hm with e | hm
    · exact absurd F.ns.lt (e ▸ Nat.lt_irrefl _)
    · exact absurd (Nat.lt_of_lt_of_le hlt F.above) ((List.mem_singleton.mp hm) ▸ Nat.lt_irrefl _)
  · intro b hb
    rw [List.mem_singleton.mp hb]
    exact next_is_new F
  · intro p hp hI
    exact absurd (Heap.lt_size (N p hp).1) ((List.mem_singleton.mp hI) ▸ Nat.lt_irrefl _)
  · rintro i v m₁ news₁ h₁ tk₁ own hin hP hJ hoff hown hat hall hst F₁ N₁
    obtain ⟨oI, hoI, _⟩ := _root_.id hst.1
    have hIown : (s.heap.objs.size, oI) ∈ own := hall _ (.head _) (next_is_new F) _ hoI
    have off' : ∀ p ∈ news₁, p.1 ≠ s.heap.objs.size := fun p hp e => hoff p hp (by rw [e]; exact .head _)
    refine wpAny_mono (turn i v m₁ news₁ h₁ tk₁ s.heap.objs.size oI (by simpa using hP) hJ off' F₁ (fun p hp => ?_)) (fun _ s₃ h₃ => wpAny_mono h₃ (fun f s₄ h₄ => ?_) fun _ _ e => e) fun _ _ e => e
    · rcases List.mem_cons.mp hp with rfl | hp
      · exact N₁ _ (List.mem_append_left _ hIown)
      · exact N₁ p (List.mem_append_right _ hp)
    · have fin : TEnd h₀ env.locals (J (i + 1)) s.heap.objs.size oI { s with heap := h₁, toks := tk₁ } s₄ → LoopStepU h₀ env.locals [s.heap.objs.size] own (J (i + 1)) { s with heap := h₁, toks := tk₁ } .next s₄ := by
        rintro ⟨h', tk, m', news', e, F', N', off2, hj'⟩
        refine ⟨rfl, h', tk, m', news', e, F', fun p hp => ?_, fun p hp hq => off2 p hp (List.mem_singleton.mp hq), hj'⟩
        rcases List.mem_append.mp hp with hp | hp
        · have h1 := hown p hp
          rcases List.mem_cons.mp h1 with h2 | h2
          · have h3 := hat p hp
            rw [h2, hoI] at h3
            have h4 : p = (s.heap.objs.size, oI) := by
              obtain ⟨p1, p2⟩ := p
              simp only at h2 h3
              exact Prod.ext h2 (Option.some.inj h3).symm
            rw [h4]
            exact N' _ (.head _)
          · have h3 := (N₁ p (List.mem_append_left _ hp)).2.2
            rw [List.mem_singleton.mp h2, hol] at h3
            cases h3
        · exact N' p (.tail _ hp)
      cases f with
      | ret v => exact .ret h₄
      | brk => exact .brk h₄
      | next => exact .next (fin h₄)
      | cont => exact .cont (fin h₄)
  · rintro h' tk m' news' F' N' _ hJ
    exact done m' news' h' tk hJ F' N'

theorem iter_range {r : Addr} {a b : Int} {t u v : Tok} {n : Nat} {x : Str} {px : Pos} {m₀ : Str → Option Value} {news : List (Addr × Obj)} (J : Nat → (Str → Option Value) → List (Addr × Obj) → Prop)
    (hh : A.handled = none) (hr : IsRange s.heap r a b 1 t u v) (hsm : Builtin.Range.small a b 1 = true) (hn : Builtin.Range.rangeSize a b 1 = ((n : Nat) : Int)) (F : Fr h₀ env.locals s.heap m₀) (N : News h₀ env.locals s.heap news) (hj : J 0 m₀ news)
    (turn : ∀ i t m₁ news₁ h tk I oI, i < n → J i m₁ news₁ → (∀ p ∈ news₁, p.1 ≠ I) → Fr h₀ env.locals h m₁ → News h₀ env.locals h ((I, oI) :: news₁) →
      wpAny (model prog w) A (assign (.Name x px) env (.int (a + (i : Int)) t)) (fun _ s₃ => wpAny (model prog w) A (execs body env) (TPost h₀ env.locals (J (i + 1)) I oI { s with heap := h, toks := tk } Q) E s₃) E { s with heap := h, toks := tk })
    (done : ∀ m₁ news₁ h tk, J n m₁ news₁ → Fr h₀ env.locals h m₁ → News h₀ env.locals h news₁ → Q .next { s with heap := h, toks := tk }) :
    wpAny (model prog w) A (pyIter (.ref r)) (fun it s₂ => TurnsAt prog w A h₀ env (.Name x px) body Q E it s₂) E s := by
  refine wpAny_pyIter_range hr hsm ?_
  have W := KTurns.ofWalks (target := (.Name x px)) (LCg.range_walks (prog := prog) (w := w) (I := s.heap.objs.size) hh a n) (fun i v s' Q' E' st hQ' => wpAny_pure hQ')
  refine ⟨_, _, _, n, _, _, _, m₀, news, J, rfl, W, ?_, ?_, ?_, ?_, F.push _, (fun p hp => ⟨Heap.get?_push_of_some _ (N p hp).1, (N p hp).2⟩), hj, ?_, ?_⟩
  · intro hm
    exact absurd F.ns.lt ((List.mem_singleton.mp hm) ▸ Nat.lt_irrefl _)
  · intro b hb
    rw [List.mem_singleton.mp hb]
    exact next_is_new F
  · intro p hp hI
    exact absurd (Heap.lt_size (N p hp).1) ((List.mem_singleton.mp hI) ▸ Nat.lt_irrefl _)
  · show IsRangeIter _ _ _ _ _
    rw [hn]; simpa using Heap.get?_push_size _ rfl
  · rintro i v m₁ news₁ h₁ tk₁ own hin hP hJ hoff hown hat hall hst F₁ N₁
    obtain ⟨t', rfl⟩ := hP
    obtain ⟨oI, hoI⟩ : ∃ oI, h₁.get? s.heap.objs.size = some oI := ⟨_, hst⟩
    have hIown : (s.heap.objs.size, oI) ∈ own := hall _ (.head _) (next_is_new F) _ hoI
    have off' : ∀ p ∈ news₁, p.1 ≠ s.heap.objs.size := fun p hp e => hoff p hp (by rw [e]; exact .head _)
    refine wpAny_mono (turn i t' m₁ news₁ h₁ tk₁ s.heap.objs.size oI hin hJ off' F₁ (fun p hp => ?_)) (fun _ s₃ h₃ => wpAny_mono h₃ (fun f s₄ h₄ => ?_) fun _ _ e => e) fun _ _ e => e
    · rcases List.mem_cons.mp hp with rfl | hp
      · exact N₁ _ (List.mem_append_left _ hIown)
      · exact N₁ p (List.mem_append_right _ hp)
    · have fin : TEnd h₀ env.locals (J (i + 1)) s.heap.objs.size oI { s with heap := h₁, toks := tk₁ } s₄ → LoopStepU h₀ env.locals [s.heap.objs.size] own (J (i + 1)) { s with heap := h₁, toks := tk₁ } .next s₄ := by
        rintro ⟨h', tk, m', news', e, F', N', off2, hj'⟩
        refine ⟨rfl, h', tk, m', news', e, F', fun p hp => ?_, fun p hp hq => off2 p hp (List.mem_singleton.mp hq), hj'⟩
        rcases List.mem_append.mp hp with hp | hp
        · have h2 := List.mem_singleton.mp (hown p hp)
          have h3 := hat p hp
          rw [h2, hoI] at h3
          have h4 : p = (s.heap.objs.size, oI) := by
            obtain ⟨p1, p2⟩ := p
            simp only at h2 h3
            exact Prod.ext h2 (Option.some.inj h3).symm
          rw [h4]
          exact N' _ (.head _)
        · exact N' p (.tail _ hp)
      cases f with
      | ret v => exact .ret h₄
      | brk => exact .brk h₄
      | next => exact .next (fin h₄)
      | cont => exact .cont (fin h₄)
  · rintro h' tk m' news' F' N' _ hJ
    exact done m' news' h' tk hJ F' N'
end
theorem fr_stored {h₀ h : Heap} {L : Addr} {m₁ m₀ : Str → Option Value} {stored : List Str} (F : Fr h₀ L h m₁) (hm : ∀ z, stored.contains z = false → m₁ z = m₀ z) : Fr h₀ L h (fun z => if stored.contains z = true then m₁ z else m₀ z) := by
  have e : (fun z => if stored.contains z = true then m₁ z else m₀ z) = m₁ := by
    funext z
    cases q : stored.contains z with
    | true => simp
    | false => simp only [Bool.false_eq_true, if_false]; exact (hm z q).symm
  rw [e]; exact F
section
variable {prog : Program} {w : World} {A : Around} {E : Value → Shared → Prop} {s : Shared} {env : Env} {h₀ : Heap} {target : Expr} {body : List Stmt} {Q : Flow → Shared → Prop}
/-- as iter_list; the names that a turn stores are listed, the others stand -/
theorem iter_listS {l : Addr} {vs : List Value} {m₀ : Str → Option Value} {news : List (Addr × Obj)} (stored : List Str) (P : Nat → (Str → Option Value) → List (Addr × Obj) → Prop)
    (hl : h₀.IsList l vs.toArray) (F : Fr h₀ env.locals s.heap m₀) (N : News h₀ env.locals s.heap news) (hh : A.handled = none) (hj : P 0 m₀ news)
    (turn : ∀ i v u news₁ h tk I oI, vs[i]? = some v → P i u news₁ → (∀ p ∈ news₁, p.1 ≠ I) → Fr h₀ env.locals h (fun z => if stored.contains z = true then u z else m₀ z) → News h₀ env.locals h ((I, oI) :: news₁) →
      wpAny (model prog w) A (assign target env v) (fun _ s₃ => wpAny (model prog w) A (execs body env) (TPost h₀ env.locals (fun m nw => (∀ z, stored.contains z = false → m z = m₀ z) ∧ P (i + 1) m nw) I oI { s with heap := h, toks := tk } Q) E s₃) E { s with heap := h, toks := tk })
    (done : ∀ u news₁ h tk, P vs.length u news₁ → Fr h₀ env.locals h (fun z => if stored.contains z = true then u z else m₀ z) → News h₀ env.locals h news₁ → Q .next { s with heap := h, toks := tk }) :
    wpAny (model prog w) A (pyIter (.ref l)) (fun it s₂ => TurnsAt prog w A h₀ env target body Q E it s₂) E s :=
  iter_list (fun i m nw => (∀ z, stored.contains z = false → m z = m₀ z) ∧ P i m nw) hh hl F N ⟨fun _ _ => rfl, hj⟩
    (fun i v m₁ news₁ h tk I oI hv hJ off F₁ N₁ => turn i v m₁ news₁ h tk I oI hv hJ.2 off (fr_stored F₁ hJ.1) N₁)
    fun m₁ news₁ h tk hJ F₁ N₁ => done m₁ news₁ h tk hJ.2 (fr_stored F₁ hJ.1) N₁
theorem iter_rangeS {r : Addr} {a b : Int} {t u v : Tok} {n : Nat} {x : Str} {px : Pos} {m₀ : Str → Option Value} {news : List (Addr × Obj)} (stored : List Str) (P : Nat → (Str → Option Value) → List (Addr × Obj) → Prop)
    (hr : IsRange s.heap r a b 1 t u v) (F : Fr h₀ env.locals s.heap m₀) (N : News h₀ env.locals s.heap news) (hsm : Builtin.Range.small a b 1 = true) (hn : Builtin.Range.rangeSize a b 1 = ((n : Nat) : Int)) (hh : A.handled = none) (hj : P 0 m₀ news)
    (turn : ∀ i t u news₁ h tk I oI, i < n → P i u news₁ → (∀ p ∈ news₁, p.1 ≠ I) → Fr h₀ env.locals h (fun z => if stored.contains z = true then u z else m₀ z) → News h₀ env.locals h ((I, oI) :: news₁) →
      wpAny (model prog w) A (assign (.Name x px) env (.int (a + (i : Int)) t)) (fun _ s₃ => wpAny (model prog w) A (execs body env) (TPost h₀ env.locals (fun m nw => (∀ z, stored.contains z = false → m z = m₀ z) ∧ P (i + 1) m nw) I oI { s with heap := h, toks := tk } Q) E s₃) E { s with heap := h, toks := tk })
    (done : ∀ u news₁ h tk, P n u news₁ → Fr h₀ env.locals h (fun z => if stored.contains z = true then u z else m₀ z) → News h₀ env.locals h news₁ → Q .next { s with heap := h, toks := tk }) :
    wpAny (model prog w) A (pyIter (.ref r)) (fun it s₂ => TurnsAt prog w A h₀ env (.Name x px) body Q E it s₂) E s :=
  iter_range (fun i m nw => (∀ z, stored.contains z = false → m z = m₀ z) ∧ P i m nw) hh hr hsm hn F N ⟨fun _ _ => rfl, hj⟩
    (fun i t m₁ news₁ h tk I oI hi hJ off F₁ N₁ => turn i t m₁ news₁ h tk I oI hi hJ.2 off (fr_stored F₁ hJ.1) N₁)
    fun m₁ news₁ h tk hJ F₁ N₁ => done m₁ news₁ h tk hJ.2 (fr_stored F₁ hJ.1) N₁
theorem TEnd.introS {L : Addr} {stored : List Str} {m₀ : Str → Option Value} {P : (Str → Option Value) → List (Addr × Obj) → Prop} {I : Addr} {oI : Obj} {s₁ : Shared} {h' : Heap} {tk : Nat} {m' : Str → Option Value} {all : List (Addr × Obj)} (news' : List (Addr × Obj)) (F : Fr h₀ L h' m') (N : News h₀ L h' all)
    (hI : (I, oI) ∈ all) (hs : ∀ p ∈ news', p ∈ all) (off : ∀ p ∈ news', p.1 ≠ I) (hm : ∀ z, stored.contains z = false → m' z = m₀ z) (hj : P m' news') : TEnd h₀ L (fun m nw => (∀ z, stored.contains z = false → m z = m₀ z) ∧ P m nw) I oI s₁ { s₁ with heap := h', toks := tk } :=
  TEnd.intro F N hI hs off ⟨hm, hj⟩
end
section
variable {prog : Program} {w : World} {A : Around} {E : Value → Shared → Prop} {Q : Flow → Shared → Prop} {s : Shared} {env : Env} {h₀ : Heap} {L : Addr}
/-- a while's turn has come to its end; no line of the walk knows this word -/
def MPost {σ : Type} (h₀ : Heap) (L : Addr) (s : Shared) (Led : σ → List (Addr × Obj)) (ps : σ → List (Str × Value)) (stored : List Str) (m₀ : Str → Option Value) (P : σ → Prop) (μ : σ → Nat) (Q : Flow → Shared → Prop) (c : σ) (f : Flow) (s₂ : Shared) : Prop :=
  KswPost h₀ L s Led ps (fun _ => True) stored m₀ P μ Q c f s₂
theorem my_while {σ : Type} {test : PySem.Expr} {body : List Stmt} {pos : Pos} {m₀ : Str → Option Value} (Led : σ → List (Addr × Obj)) (ps : σ → List (Str × Value)) (stored : List Str) (P : σ → Prop) (μ : σ → Nat) (c₀ : σ)
    (F : Fr h₀ L s.heap m₀) (N : News h₀ L s.heap (Led c₀)) (hk : ∀ p ∈ ps c₀, m₀ p.1 = some p.2) (hp : P c₀)
    (turn : ∀ (c : σ) (u : Str → Option Value) h tk, P c → Fr h₀ L h (kstB (fun z => if stored.contains z then u z else m₀ z) (ps c)) → News h₀ L h (Led c) →
      wpAny (model prog w) A (isTrue test env (eval test env)) (fun b s₂ =>
        if b = true then wpAny (model prog w) A (execs body env) (MPost h₀ L s Led ps stored m₀ P μ Q c) E s₂ else Q .next s₂) E { s with heap := h, toks := tk })
    (hE : PassesOwn (model prog w) A env E := by passes_own) :
    wpAny (model prog w) A (exec (.While test body [] pos) env) Q E s :=
  ksw_while Led ps (fun _ => True) stored P μ c₀ F N trivial hk hp (fun c u h tk _ hp F N => turn c u h tk hp F N) hE
theorem my_end {σ : Type} {Led : σ → List (Addr × Obj)} {ps : σ → List (Str × Value)} {stored : List Str} {m₀ m' : Str → Option Value} {P : σ → Prop} {μ : σ → Nat} {c : σ} {h' : Heap} {tk : Nat} {news' : List (Addr × Obj)} (c' : σ)
    (F : Fr h₀ L h' m') (N : News h₀ L h' news') (hn : ∀ p ∈ Led c', p ∈ news') (hk : ∀ p ∈ ps c', m' p.1 = some p.2) (hr : ∀ z, (∀ p ∈ ps c', z ≠ p.1) → stored.contains z = false → m' z = m₀ z) (hp : P c') (hm : μ c' < μ c) :
    MPost h₀ L s Led ps stored m₀ P μ Q c .next { s with heap := h', toks := tk } := ksw_end c' F N hn trivial hk hr hp hm
end
end
-- Defs
section
open PySem.Spec
/-- a card: its row of figures and its number -/
structure Crd where
  row : List Int
  val : Int
def memRow (row : List Int) (k : Int) : Bool := decide (0 ≤ k) && (row[k.toNat]? == some 1)
def subRow (r r' : List Int) : Bool := (List.range r.length).all fun i => r[i]? != some 1 || r'[i]? == some 1
theorem subRow_iff {r r' : List Int} : subRow r r' = true ↔ ∀ k, memRow r k = true → memRow r' k = true := by
  unfold subRow memRow
  rw [List.all_eq_true]
  constructor
  · intro h k hk
    simp only [Bool.and_eq_true, decide_eq_true_eq, beq_iff_eq] at hk ⊢
    refine ⟨hk.1, ?_⟩
    have hlt : k.toNat < r.length := by
      rcases Nat.lt_or_ge k.toNat r.length with q | q
      · exact q
      · rw [List.getElem?_eq_none q] at hk; cases hk.2
    have := h k.toNat (List.mem_range.mpr hlt)
    rw [hk.2] at this
    simpa using this
  · intro h i hi
    have := h (i : Int)
    simp only [Bool.and_eq_true, decide_eq_true_eq, beq_iff_eq, Int.toNat_natCast] at this
    by_cases q : r[i]? = some 1
    · simp [(this ⟨Int.natCast_nonneg i, q⟩).2]
    · simp [q]

/-- three_way_cmp of two sets -/
def setCmp (r r' : List Int) : Int := b2i (decide (r'.count 1 < r.count 1) && subRow r' r) - b2i (decide (r.count 1 < r'.count 1) && subRow r r')

def RowAt (h : Heap) (v : Value) (row : List Int) : Prop := ∃ a vs, v = .ref a ∧ IsTup h a vs.toArray ∧ IntsAre vs row
def SetAt (w : World) (h : Heap) (v : Value) (row : List Int) : Prop := ∃ a, v = .ref a ∧ h.SetOf (intKind PR w) a (memRow row) (row.count 1)
def CardAt (w : World) (h : Heap) (v : Value) (c : Crd) : Prop := ∃ a rv sv t, v = .ref a ∧ IsTup h a #[rv, sv, .int c.val t] ∧ RowAt h rv c.row ∧ SetAt w h sv c.row
def CardsAt (w : World) (h : Heap) (vs : List Value) (cs : List Crd) : Prop := vs.length = cs.length ∧ ∀ (i : Nat) (v : Value), vs[i]? = some v → ∃ c, cs[i]? = some c ∧ CardAt w h v c
def PairsAt (h : Heap) (us : List Value) (sel : List (Int × Int)) : Prop := us.length = sel.length ∧ ∀ (i : Nat) (u : Value), us[i]? = some u → ∃ (p : Int × Int) (a : Addr) (t1 t2 : Tok), sel[i]? = some p ∧ u = .ref a ∧ IsTup h a #[.int p.1 t1, .int p.2 t2]

theorem isTup_keeps {h h' : Heap} {a : Addr} {its : Array Value} (k : Keeps h h') (x : IsTup h a its) : IsTup h' a its := let ⟨o, e, r⟩ := x; ⟨o, k _ _ e, r⟩
theorem isList_keeps {h h' : Heap} {a : Addr} {its : Array Value} (k : Keeps h h') (x : h.IsList a its) : h'.IsList a its := let ⟨o, e, r⟩ := x; ⟨o, k _ _ e, r⟩
theorem setOf_keeps {prog : Program} {w : World} {h h' : Heap} {a : Addr} {S : Int → Bool} {n : Nat} (k : Keeps h h') (x : h.SetOf (intKind prog w) a S n) : h'.SetOf (intKind prog w) a S n :=
  let ⟨o, es, ep, t, e, r⟩ := x; ⟨o, es, ep, t, k _ _ e, r⟩
theorem RowAt.keeps {h h' : Heap} {v : Value} {row : List Int} (x : RowAt h v row) (k : Keeps h h') : RowAt h' v row := let ⟨a, vs, e, t, i⟩ := x; ⟨a, vs, e, isTup_keeps k t, i⟩
theorem SetAt.keeps {w : World} {h h' : Heap} {v : Value} {row : List Int} (x : SetAt w h v row) (k : Keeps h h') : SetAt w h' v row := let ⟨a, e, t⟩ := x; ⟨a, e, setOf_keeps k t⟩
theorem CardAt.keeps {w : World} {h h' : Heap} {v : Value} {c : Crd} (x : CardAt w h v c) (k : Keeps h h') : CardAt w h' v c := let ⟨a, rv, sv, t, e, q, r, z⟩ := x; ⟨a, rv, sv, t, e, isTup_keeps k q, r.keeps k, z.keeps k⟩
theorem CardsAt.keeps {w : World} {h h' : Heap} {vs : List Value} {cs : List Crd} (x : CardsAt w h vs cs) (k : Keeps h h') : CardsAt w h' vs cs := ⟨x.1, fun i v e => let ⟨c, a, b⟩ := x.2 i v e; ⟨c, a, b.keeps k⟩⟩
theorem PairsAt.keeps {h h' : Heap} {us : List Value} {sel : List (Int × Int)} (x : PairsAt h us sel) (k : Keeps h h') : PairsAt h' us sel :=
  ⟨x.1, fun i u e => let ⟨p, a, t1, t2, q, r, z⟩ := x.2 i u e; ⟨p, a, t1, t2, q, r, isTup_keeps k z⟩⟩

/-- TupleComp.compare -/
def cmpF (r r' : List Int) : List (Int × Int) → Int
  | [] => 0
  | (c, d) :: rest => if r.getD c.toNat 0 < r'.getD c.toNat 0 then -d else if r'.getD c.toNat 0 < r.getD c.toNat 0 then d else cmpF r r' rest

section
variable {prog : Program} {w : World} {A : Around} {E : Value → Shared → Prop} {s : Shared} {h₀ : Heap} {L : Addr} {m : Str → Option Value}
theorem instAt_base {C x dx : Addr} {es : List DictEntry} {n : Nat} (F : Fr h₀ L s.heap m) (hx : h₀.get? x = some (instObj C dx)) (hdx : h₀.get? dx = some (dictOf es n)) : W.InstAt s.heap x (instObj C dx) C (some (dictOf es n)) :=
  ⟨F.keep _ _ hx, rfl, rfl, F.keep _ _ hdx⟩

theorem IntsAre.getElem {vs : List Value} {ns : List Int} (h : IntsAre vs ns) {i : Nat} (hi : i < ns.length) : ∃ t, vs[i]? = some (.int (ns.getD i 0) t) := by
  have hl : i < vs.length := by rw [PyProof.Rows.IntsAre.length h]; exact hi
  obtain ⟨t, e⟩ := PyProof.Rows.IntsAre.int_at h i vs[i] (List.getElem?_eq_getElem hl)
  exact ⟨t, by rw [List.getElem?_eq_getElem hl, e]⟩

theorem row_item {value slice : Expr} {a : Addr} {vs : List Value} {row : List Int} {c : Int} {u : Tok} {Q : Value → Shared → Prop} (F : Fr h₀ L s.heap m) (hT : IsTup h₀ a vs.toArray) (hi : IntsAre vs row) (h0 : 0 ≤ c) (h1 : c < row.length) (hb : row.length < 1000)
    (h : ∀ t, Q (.int (row.getD c.toNat 0) t) s)
    (hs : subscripted slice false (.ref a) (.int c u) = operate [.ref a, .int c u] (getItem (.ref a) (.int c u)) := by with_unfolding_all rfl) :
    wpAny (model prog w) A (subscriptTail value slice (.ref a) (.int c u)) Q E s := by
  obtain ⟨t, e⟩ := IntsAre.getElem hi (i := c.toNat) (by omega)
  have hl := PyProof.Rows.IntsAre.length hi
  refine item_tupleT (isTup_keeps F.keep hT) (by omega) (by omega) (j := c.toNat) ?_ e (h t) hs
  have hneg : ¬ c < 0 := by omega
  simp only [seqIndex?, if_neg hneg]
  have : (decide (0 ≤ c) && decide (c < (vs.length : Int))) = true := by simp; omega
  rw [if_pos this]
end
end
-- C3
theorem twc_int {w : World} {p : Program} {loose : List Str} {mean : ExcName → Option Value} {mg mb : Str → Option Value} {gd : Option (List Code)} {cn : Str} {cs : Scope} {a : Addr} {ccd : Value} {cl : List (Str × Addr)} {outer : List Env}
    {A₀ : Around} {base h₀ : Heap} {L : Addr} {m : Str → Option Value} {s : Shared} {Q E : Value → Shared → Prop} {x y : Int} {t1 t2 : Tok}
    (B : Below A₀ base outer h₀) (F : Fr h₀ L s.heap m) (X : (KK w).In h₀) (T : Top p loose mean mg mb h₀) (hck : cs.kind = .function)
    (ret : ∀ t h' tk', Keeps s.heap h' → Q (.int (b2i (decide (y < x)) - b2i (decide (x < y))) t) { s with heap := h', toks := tk' }) :
    wpAny (model PR w) (Lv 900 900 gd cn cs L a ccd cl outer) (call (.ref 21) [.int x t1, .int y t2]) Q E s := by
  w_top off
  walk_at "mine fill"
  walk_at "mine enter"
  k_steps
  all_goals (refine ret _ _ _ (Fr.keep (by assumption)))

theorem setCmp_of {x y : Bool} {r1 r2 : List Int} (hx : x = true ↔ r2.count 1 < r1.count 1 ∧ ∀ k, memRow r2 k = true → memRow r1 k = true) (hy : y = true ↔ r1.count 1 < r2.count 1 ∧ ∀ k, memRow r1 k = true → memRow r2 k = true) : b2i x - b2i y = setCmp r1 r2 := by
  unfold setCmp
  have e1 : x = (decide (r2.count 1 < r1.count 1) && subRow r2 r1) := by
    rw [Bool.eq_iff_iff, hx, Bool.and_eq_true, decide_eq_true_eq, subRow_iff]
  have e2 : y = (decide (r1.count 1 < r2.count 1) && subRow r1 r2) := by
    rw [Bool.eq_iff_iff, hy, Bool.and_eq_true, decide_eq_true_eq, subRow_iff]
  rw [e1, e2]
theorem ret_int {Q : Value → Shared → Prop} {x y : Int} {t : Tok} {s : Shared} (e : y = x) (h : Q (.int x t) s) : Q (.int y t) s := e ▸ h

section
local macro_rules | `(tactic| walk_at "mine pad1") => `(tactic| skip)
local macro_rules | `(tactic| walk_at "compareOp Gt ref") => `(tactic| (k_here; (with_reducible show wpAny _ _ (compareOp CmpOp.Gt (Value.ref _) (Value.ref _)) _ _ _); k_dflt (refine set_gt (setOf_keeps (Fr.keep (by assumption)) (by assumption)) (setOf_keeps (Fr.keep (by assumption)) (by assumption)) (Nat.le_of_ble_eq_true rfl) ?_); intro r9 hr9))
local macro_rules | `(tactic| walk_at "compareOp Lt ref") => `(tactic| (k_here; (with_reducible show wpAny _ _ (compareOp CmpOp.Lt (Value.ref _) (Value.ref _)) _ _ _); k_dflt (refine set_lt (setOf_keeps (Fr.keep (by assumption)) (by assumption)) (setOf_keeps (Fr.keep (by assumption)) (by assumption)) (Nat.le_of_ble_eq_true rfl) ?_); intro r9 hr9))

theorem twc_set {w : World} {p : Program} {loose : List Str} {mean : ExcName → Option Value} {mg mb : Str → Option Value} {gd : Option (List Code)} {cn : Str} {cs : Scope} {a : Addr} {ccd : Value} {cl : List (Str × Addr)} {outer : List Env}
    {A₀ : Around} {base h₀ : Heap} {L : Addr} {m : Str → Option Value} {s : Shared} {Q E : Value → Shared → Prop} {a1 a2 : Addr} {r1 r2 : List Int}
    (B : Below A₀ base outer h₀) (F : Fr h₀ L s.heap m) (X : (KK w).In h₀) (T : Top p loose mean mg mb h₀) (hck : cs.kind = .function)
    (h1 : s.heap.SetOf (intKind PR w) a1 (memRow r1) (r1.count 1)) (h2 : s.heap.SetOf (intKind PR w) a2 (memRow r2) (r2.count 1))
    (ret : ∀ t h' tk', Keeps s.heap h' → Q (.int (setCmp r1 r2) t) { s with heap := h', toks := tk' }) :
    wpAny (model PR w) (Lv 900 900 gd cn cs L a ccd cl outer) (call (.ref 21) [.ref a1, .ref a2]) Q E s := by
  w_top off
  walk_at "mine fill"
  walk_at "mine enter"
  k_steps
  all_goals (refine ret_int (Q := Q) (setCmp_of (r1 := r1) (r2 := r2) (by assumption) (by assumption)) (ret _ _ _ (Fr.keep (by assumption))))
end

section
local macro_rules | `(tactic| walk_at "mine pad2") => `(tactic| skip)
local macro_rules | `(tactic| walk_at "mine pad3") => `(tactic| skip)
local macro_rules | `(tactic| walk_at "getAttr ref") => `(tactic| (k_here; k_dflt (refine' get_own ?k1 ?k2 ?k3 ?k4 ?k5 ?k6 ?k7 ?k8 ?k9 ?_; (case k1 => k_asm); (case k2 => k_asm); (case k3 => exact instAt_base (by assumption) (by assumption) (by assumption)); (case k4 => k_is); (case k5 => k_is); (case k6 => k_is); (case k7 => k_is); (case k8 => k_get); (case k9 => k_handed); k_whole)))
local macro_rules | `(tactic| walk_at "exec For Tuple Attribute cons nil") => `(tactic| (k_here; (rename Fr _ _ _ _ => lF'); (with_unfolding_all refine' For_turns lF' ?_; k_whole)))
theorem cmpF_drop {r1 r2 : List Int} {sel : List (Int × Int)} {i : Nat} {p : Int × Int} (h : sel[i]? = some p) (hl : ¬ r1.getD p.1.toNat 0 < r2.getD p.1.toNat 0) (hg : ¬ r2.getD p.1.toNat 0 < r1.getD p.1.toNat 0) :
    cmpF r1 r2 (sel.drop (i + 1)) = cmpF r1 r2 (sel.drop i) := by
  have e : sel.drop i = p :: sel.drop (i + 1) := by
    obtain ⟨hlt, rfl⟩ := List.getElem?_eq_some_iff.mp h
    exact List.drop_eq_getElem_cons hlt
  rw [e]
  obtain ⟨c, d⟩ := p
  show _ = if _ then _ else if _ then _ else _
  rw [if_neg hl, if_neg hg]

theorem cmpF_cons {sel : List (Int × Int)} {i : Nat} {p : Int × Int} (h : sel[i]? = some p) : sel.drop i = p :: sel.drop (i + 1) := by
  obtain ⟨hlt, rfl⟩ := List.getElem?_eq_some_iff.mp h
  exact List.drop_eq_getElem_cons hlt
theorem cmpF_lt {r1 r2 : List Int} {sel : List (Int × Int)} {i : Nat} {p : Int × Int} {v : Int} (h : sel[i]? = some p) (hc : cmpF r1 r2 (sel.drop i) = v) (hl : r1.getD p.1.toNat 0 < r2.getD p.1.toNat 0) : -p.2 = v := by
  rw [cmpF_cons h] at hc
  rw [← hc]; obtain ⟨c, d⟩ := p
  show _ = if _ then _ else _
  rw [if_pos hl]
theorem cmpF_gt {r1 r2 : List Int} {sel : List (Int × Int)} {i : Nat} {p : Int × Int} {v : Int} (h : sel[i]? = some p) (hc : cmpF r1 r2 (sel.drop i) = v) (hl : r2.getD p.1.toNat 0 < r1.getD p.1.toNat 0) : p.2 = v := by
  rw [cmpF_cons h] at hc
  rw [← hc]; obtain ⟨c, d⟩ := p
  show _ = if _ then _ else if _ then _ else _
  rw [if_neg (by simp only at hl; omega), if_pos hl]

theorem compare_spec {w : World} {p : Program} {loose : List Str} {mean : ExcName → Option Value} {mg mb : Str → Option Value} {gd : Option (List Code)} {cn : Str} {cs : Scope} {a : Addr} {ccd : Value} {cl : List (Str × Addr)} {outer : List Env}
    {A₀ : Around} {base h₀ : Heap} {L : Addr} {m : Str → Option Value} {s : Shared} {Q E : Value → Shared → Prop} {x dx l a1 a2 : Addr} {hsh : Int} {tk : Tok} {nn : Nat} {us vs1 vs2 : List Value} {r1 r2 : List Int} {sel : List (Int × Int)}
    (B : Below A₀ base outer h₀) (F : Fr h₀ L s.heap m) (X : (KK w).In h₀) (T : Top p loose mean mg mb h₀) (hck : cs.kind = .function)
    (hx : s.heap.get? x = some (instObj 45 dx)) (hdx : s.heap.get? dx = some (dictOf [⟨hsh, .str (Str.ofString "comp_select_list") tk, .ref l⟩] nn)) (hl : s.heap.IsList l us.toArray) (hp : PairsAt s.heap us sel)
    (h1 : IsTup s.heap a1 vs1.toArray) (i1 : IntsAre vs1 r1) (h2 : IsTup s.heap a2 vs2.toArray) (i2 : IntsAre vs2 r2) (b1 : r1.length < 1000) (b2 : r2.length < 1000) (hsel : ∀ p ∈ sel, 0 ≤ p.1 ∧ p.1 < r1.length ∧ p.1 < r2.length)
    (ret : ∀ t h' tk', Keeps s.heap h' → Q (.int (cmpF r1 r2 sel) t) { s with heap := h', toks := tk' }) :
    wpAny (model PR w) (Lv 800 800 gd cn cs L a ccd cl outer) (call (.ref 42) [.ref x, .ref a1, .ref a2]) Q E s := by
  w_top off
  walk_at "mine fill"
  walk_at "mine enter"
  k_steps
  refine iter_listS (["index", "direction", "l", "r"] : List Str) (fun i _ nw => nw = [] ∧ cmpF r1 r2 (sel.drop i) = cmpF r1 r2 sel) hl (by assumption) (by assumption) rfl ⟨rfl, rfl⟩ ?_ ?_
  · rintro i v u news₁ h tk I oI hv ⟨rfl, hc⟩ hoff F1 N1
    obtain ⟨q, b, t1, t2, hq, rfl, hb⟩ := hp.2 i v hv
    obtain ⟨hs0, hs1, hs2⟩ := hsel q (List.mem_of_getElem? hq)
    have hb' := isTup_keeps F1.keep hb
    k_steps
    all_goals (first
      | (refine ret_int (Q := Q) (cmpF_lt hq hc (by assumption)) (ret _ _ _ (Fr.keep (by assumption))); done)
      | (refine ret_int (Q := Q) (cmpF_gt hq hc (by assumption)) (ret _ _ _ (Fr.keep (by assumption))); done)
      | (refine TEnd.introS [] (by assumption) (by assumption) (List.Mem.head _) (fun _ h => nomatch h) (fun _ h => nomatch h) ?_ ⟨rfl, (cmpF_drop hq (by assumption) (by assumption)).trans hc⟩; (intro z hz; simp only [List.contains_cons, List.contains_nil, Bool.or_false, Bool.or_eq_false_iff, beq_eq_false_iff_ne, ne_eq] at hz; simp [hz])))
  · rintro u news₁ h tk ⟨rfl, hc⟩ F1 N1
    k_steps
    have e : (0 : Int) = cmpF r1 r2 sel := by rw [← hc, List.drop_of_length_le (by rw [hp.1]; exact Nat.le_refl _)]; rfl
    refine ret_int (Q := Q) e (ret _ _ _ (Fr.keep (by assumption)))
end
-- KP
/-- an int is reckoned; no line of the walk knows this word -/
def KPost (h₀ : Heap) (L : Addr) (m : Str → Option Value) (led : List (Addr × Obj)) (s₁ : Shared) (kk : Int) (v : Value) (s' : Shared) : Prop :=
  ∃ t h' tk, v = .int kk t ∧ s' = { s₁ with heap := h', toks := tk } ∧ Fr h₀ L h' m ∧ News h₀ L h' led
theorem KPost.intro {h₀ h' : Heap} {L : Addr} {m : Str → Option Value} {led : List (Addr × Obj)} {s₁ : Shared} {kk kk' : Int} {t : Tok} {tk : Nat} (e : kk' = kk) (F : Fr h₀ L h' m) (N : News h₀ L h' led) : KPost h₀ L m led s₁ kk (.int kk' t) { s₁ with heap := h', toks := tk } := ⟨t, h', tk, e ▸ rfl, rfl, F, N⟩
theorem int_step {M : Model} {A : Around} {tree : Sem Value} {Q : Value → Shared → Prop} {E : Value → Shared → Prop} {s : Shared} {h₀ : Heap} {L : Addr} {m : Str → Option Value} {led : List (Addr × Obj)} (F : Fr h₀ L s.heap m) (N : News h₀ L s.heap led) (kk : Int)
    (h1 : Fr h₀ L s.heap m → News h₀ L s.heap led → wpAny M A tree (KPost h₀ L m led s kk) E s) (h2 : ∀ t h' tk, Fr h₀ L h' m → News h₀ L h' led → Q (.int kk t) { s with heap := h', toks := tk }) : wpAny M A tree Q E s :=
  wpAny_mono (h1 F N) (fun v s' ⟨t, h', tk, e1, e2, F', N'⟩ => by subst e1; subst e2; exact h2 t h' tk F' N') fun _ _ e => e
-- C4
local macro_rules | `(tactic| walk_at "mine back") => `(tactic| (intro t9 h9 tk9 hK9; (rename Fr _ _ _ _ => F8); (rename News _ _ _ _ => N8); (have F9 := Fr.keeps F8 hK9); (have N9 := News.grown N8 hK9); (clear F8 N8 hK9); (try dsimp only)))
section
variable {w : World} {p : Program} {loose : List Str} {mean : ExcName → Option Value} {mg mb : Str → Option Value} {gd : Option (List Code)} {cn : Str} {cs : Scope} {a : Addr} {ccd : Value} {cl : List (Str × Addr)} {outer : List Env} {A₀ : Around} {base h₀ : Heap} {L : Addr} {m : Str → Option Value} {s : Shared} {Q E : Value → Shared → Prop} {v : Int}
theorem twc_int_v {x y : Int} {t1 t2 : Tok} (he : b2i (decide (y < x)) - b2i (decide (x < y)) = v) (B : Below A₀ base outer h₀) (F : Fr h₀ L s.heap m) (X : (KK w).In h₀) (T : Top p loose mean mg mb h₀) (hck : cs.kind = .function)
    (ret : ∀ t h' tk', Keeps s.heap h' → Q (.int v t) { s with heap := h', toks := tk' }) :
    wpAny (model PR w) (Lv 900 900 gd cn cs L a ccd cl outer) (call (.ref 21) [.int x t1, .int y t2]) Q E s := twc_int B F X T hck (he ▸ ret)
theorem twc_set_v {a1 a2 : Addr} {r1 r2 : List Int} (h1 : s.heap.SetOf (intKind PR w) a1 (memRow r1) (r1.count 1)) (h2 : s.heap.SetOf (intKind PR w) a2 (memRow r2) (r2.count 1)) (he : setCmp r1 r2 = v)
    (B : Below A₀ base outer h₀) (F : Fr h₀ L s.heap m) (X : (KK w).In h₀) (T : Top p loose mean mg mb h₀) (hck : cs.kind = .function)
    (ret : ∀ t h' tk', Keeps s.heap h' → Q (.int v t) { s with heap := h', toks := tk' }) :
    wpAny (model PR w) (Lv 900 900 gd cn cs L a ccd cl outer) (call (.ref 21) [.ref a1, .ref a2]) Q E s := twc_set B F X T hck h1 h2 (he ▸ ret)
theorem compare_v {x dx l a1 a2 : Addr} {hsh : Int} {tk : Tok} {nn : Nat} {us vs1 vs2 : List Value} {r1 r2 : List Int} {sel : List (Int × Int)}
    (hx : s.heap.get? x = some (instObj 45 dx)) (hdx : s.heap.get? dx = some (dictOf [⟨hsh, .str (Str.ofString "comp_select_list") tk, .ref l⟩] nn)) (hl : s.heap.IsList l us.toArray) (hp : PairsAt s.heap us sel)
    (h1 : IsTup s.heap a1 vs1.toArray) (i1 : IntsAre vs1 r1) (h2 : IsTup s.heap a2 vs2.toArray) (i2 : IntsAre vs2 r2) (b1 : r1.length < 1000) (b2 : r2.length < 1000) (hsel : ∀ p ∈ sel, 0 ≤ p.1 ∧ p.1 < r1.length ∧ p.1 < r2.length) (he : cmpF r1 r2 sel = v)
    (B : Below A₀ base outer h₀) (F : Fr h₀ L s.heap m) (X : (KK w).In h₀) (T : Top p loose mean mg mb h₀) (hck : cs.kind = .function)
    (ret : ∀ t h' tk', Keeps s.heap h' → Q (.int v t) { s with heap := h', toks := tk' }) :
    wpAny (model PR w) (Lv 800 800 gd cn cs L a ccd cl outer) (call (.ref 42) [.ref x, .ref a1, .ref a2]) Q E s := compare_spec B F X T hck hx hdx hl hp h1 i1 h2 i2 b1 b2 hsel (he ▸ ret)
end
theorem floordiv_v {prog : Program} {w : World} {A : Around} {E : Value → Shared → Prop} {s : Shared} {Q : Value → Shared → Prop} {a b v : Int} {t u : Tok} (hb : b ≠ 0) (he : a.fdiv b = v) (hp : Builtin.divisionGoesByPylong a b = false) (h : Q (.int v s.toks) { s with toks := s.toks + 1 }) :
    wpAny (model prog w) A (binaryOp .FloorDiv (.int a t) (.int b u)) Q E s := floordiv_int hb (he ▸ h) (.inl hp)
theorem fdiv_abs {a : Int} (h : a ≠ 0) : a.fdiv (if a < 0 then -a else a) = a.sign := by
  split
  · rename_i q
    rw [Int.fdiv_eq_ediv_of_nonneg _ (by omega), Int.ediv_neg, Int.ediv_self h, Int.sign_eq_neg_one_of_neg q]
  · rename_i q
    rw [Int.fdiv_eq_ediv_of_nonneg _ (by omega), Int.ediv_self h, Int.sign_eq_one_of_pos (by omega)]
theorem no_lt {x y : Int} (h : x < y) (e : x - y = 0) : False := by omega
theorem no_gt {x y : Int} (h : y < x) (e : x - y = 0) : False := by omega
theorem sgn_b2i {x y : Int} : b2i (decide (y < x)) - b2i (decide (x < y)) = (x - y).sign := by
  rcases Int.lt_trichotomy x y with h | h | h
  · rw [Int.sign_eq_neg_one_of_neg (by omega), decide_eq_false (by omega), decide_eq_true h]; rfl
  · subst h; simp
  · rw [Int.sign_eq_one_of_pos (by omega), decide_eq_true h, decide_eq_false (by omega)]; rfl
local macro_rules | `(tactic| walk_at "call ref") => `(tactic| (k_here; (with_reducible show wpAny _ _ (call (Value.ref 21) [Value.int _ _, Value.int _ _]) _ _ _); k_dflt (refine wpAny_le (A' := Lv 900 900 _ _ _ _ _ _ _ _) (twc_int_v (by assumption) (by assumption) (by assumption) (by assumption) (by assumption) (by first | rfl | assumption) ?_) rfl ?hd rfl rfl ?hu; (case hd => exact Nat.le_of_ble_eq_true rfl); (case hu => exact Nat.le_of_ble_eq_true rfl)); walk_at "mine back"))
local macro_rules | `(tactic| walk_at "call ref") => `(tactic| (k_here; (with_reducible show wpAny _ _ (call (Value.ref 21) [Value.ref _, Value.ref _]) _ _ _); k_dflt (refine wpAny_le (A' := Lv 900 900 _ _ _ _ _ _ _ _) (twc_set_v (setOf_keeps (Fr.keep (by assumption)) (by assumption)) (setOf_keeps (Fr.keep (by assumption)) (by assumption)) (by assumption) (by assumption) (by assumption) (by assumption) (by assumption) (by first | rfl | assumption) ?_) rfl ?hd rfl rfl ?hu; (case hd => exact Nat.le_of_ble_eq_true rfl); (case hu => exact Nat.le_of_ble_eq_true rfl)); walk_at "mine back"))
local macro_rules | `(tactic| walk_at "call ref") => `(tactic| (k_here; (with_reducible show wpAny _ _ (call (Value.ref 42) [Value.ref _, Value.ref _, Value.ref _]) _ _ _); k_dflt (refine wpAny_le (A' := Lv 800 800 _ _ _ _ _ _ _ _) (compare_v (Fr.keep (by assumption) _ _ (by assumption)) (Fr.keep (by assumption) _ _ (by assumption)) (isList_keeps (Fr.keep (by assumption)) (by assumption)) (PairsAt.keeps (by assumption) (Fr.keep (by assumption))) (isTup_keeps (Fr.keep (by assumption)) (by assumption)) (by assumption) (isTup_keeps (Fr.keep (by assumption)) (by assumption)) (by assumption) (by assumption) (by assumption) (by assumption) (by assumption) (by assumption) (by assumption) (by assumption) (by assumption) (by first | rfl | assumption) ?_) rfl ?hd rfl rfl ?hu; (case hd => exact Nat.le_of_ble_eq_true rfl); (case hu => exact Nat.le_of_ble_eq_true rfl)); walk_at "mine back"))
local macro_rules | `(tactic| walk_at "binaryOp FloorDiv int int") => `(tactic| (k_here; first | contradiction | k_dflt (refine floordiv_v (by assumption) (by assumption) (by assumption) ?_)))
local macro_rules | `(tactic| walk_at "getMethod ref") => `(tactic| (k_here; k_dflt (refine' method_inst ?k1 ?k2 ?k3 ?k4 ?k5 ?k6 ?k7 ?_; (case k1 => k_asm); (case k2 => k_asm); (case k3 => exact instAt_base (by assumption) (by assumption) (by assumption)); (case k4 => k_is); (case k5 => k_is); (case k6 => k_is); (case k7 => k_get); k_whole)))
local macro_rules | `(tactic| walk_at "subscriptTail Name Constant ref int") => `(tactic| (k_here; k_dflt (refine item_tupleT (isTup_keeps (Fr.keep (by assumption)) (by assumption)) (by decide) (by decide) rfl rfl ?_)))
local macro_rules | `(tactic| walk_at "exec For Name Name cons nil") => `(tactic| (k_here; (rename Fr _ _ _ _ => lF'); (with_unfolding_all refine' For_turns lF' ?_; k_whole)))
local macro_rules | `(tactic| walk_at "mine toIf") => `(tactic| repeat (fail_if_success (with_reducible show wpAny _ _ (eval (PySem.Expr.IfExp _ _ _ _) _) _ _ _)); (first | (k_unfold; (try dsimp only)) | walk1 | (dsimp only; walk1)))
local macro_rules | `(tactic| walk_at "mine toKP") => `(tactic| repeat (fail_if_success (with_reducible show KPost _ _ _ _ _ _ _ _)); (first | (k_unfold; (try dsimp only)) | walk1 | (dsimp only; walk1)))
local macro_rules | `(tactic| walk_at "mine toIfS") => `(tactic| repeat (fail_if_success (with_reducible show wpAny _ _ (exec (PySem.Stmt.If _ _ _ _) _) _ _ _)); (first | (k_unfold; (try dsimp only)) | walk1 | (dsimp only; walk1)))
theorem sign_three {x s : Int} (h : x.sign = s) : s = -1 ∨ s = 0 ∨ s = 1 := by
  subst h
  rcases Int.lt_trichotomy x 0 with h | h | h
  · left; exact Int.sign_eq_neg_one_of_neg h
  · right; left; rw [h]; rfl
  · right; right; exact Int.sign_eq_one_of_pos h
theorem by_numbers_spec {w : World} {p : Program} {loose : List Str} {mean : ExcName → Option Value} {mg mb : Str → Option Value} {gd : Option (List Code)} {cn : Str} {cs : Scope} {a : Addr} {ccd : Value} {cl : List (Str × Addr)} {outer : List Env}
    {A₀ : Around} {base h₀ : Heap} {L : Addr} {m : Str → Option Value} {s : Shared} {Q E : Value → Shared → Prop} {x dx l la : Addr} {hsh : Int} {tk : Tok} {nn : Nat} {us vs : List Value} {sel : List (Int × Int)} {cards : List Crd} {ln : Nat}
    (B : Below A₀ base outer h₀) (F : Fr h₀ L s.heap m) (X : (KK w).In h₀) (T : Top p loose mean mg mb h₀) (hck : cs.kind = .function)
    (hx : s.heap.get? x = some (instObj 45 dx)) (hdx : s.heap.get? dx = some (dictOf [⟨hsh, .str (Str.ofString "comp_select_list") tk, .ref l⟩] nn)) (hl : s.heap.IsList l us.toArray) (hp : PairsAt s.heap us sel)
    (hla : s.heap.IsList la vs.toArray) (hcs : CardsAt w s.heap vs cards) (hln : ∀ c ∈ cards, c.row.length = ln) (hln2 : ln < 1000) (hsel : ∀ p ∈ sel, 0 ≤ p.1 ∧ p.1 < ln)
    (hv : ∀ c ∈ cards, -1000 < c.val ∧ c.val < 1000)
    (hgood : ∀ c ∈ cards, ∀ d ∈ cards, cmpF c.row d.row sel = (c.val - d.val).sign ∧ setCmp c.row d.row = 0)
    (ret : ∀ h' tk', Keeps s.heap h' → Q (.bool true) { s with heap := h', toks := tk' }) :
    wpAny (model PR w) (Lv 500 500 gd cn cs L a ccd cl outer) (call (.ref 90) [.ref la, .ref x]) Q E s := by
  w_top off
  walk_at "mine fill"
  walk_at "mine enter"
  k_steps
  refine iter_listS (["one", "other", "gap", "due", "told"] : List Str) (fun i _ nw => nw = []) hla (by assumption) (by assumption) rfl rfl ?_ ?_
  · rintro i v u news₁ h tk I oI hiv rfl hoff F1 N1
    obtain ⟨c, hc, a1, rv1, sv1, t1, rfl, hT1, ⟨ra1, rvs1, rfl, hR1, hI1⟩, ⟨sa1, rfl, hS1⟩⟩ := hcs.2 i v hiv
    have hcm := List.mem_of_getElem? hc
    k_steps
    refine iter_listS (["other", "gap", "due", "told"] : List Str) (fun i _ nw => nw = [(I, oI)]) hla (by assumption) (by assumption) rfl rfl ?_ ?_
    · rintro j v2 u2 news₂ h2 tk2 I2 oI2 hjv rfl hoff2 F2 N2
      obtain ⟨d, hd, a2, rv2, sv2, t2, rfl, hT2, ⟨ra2, rvs2, rfl, hR2, hI2⟩, ⟨sa2, rfl, hS2⟩⟩ := hcs.2 j v2 hjv
      have hdm := List.mem_of_getElem? hd
      have b1 : c.row.length < 1000 := by rw [hln c hcm]; exact hln2
      have b2 : d.row.length < 1000 := by rw [hln d hdm]; exact hln2
      have hsl : ∀ p ∈ sel, 0 ≤ p.1 ∧ p.1 < c.row.length ∧ p.1 < d.row.length := fun p hp => by rw [hln c hcm, hln d hdm]; exact ⟨(hsel p hp).1, (hsel p hp).2, (hsel p hp).2⟩
      obtain ⟨g1, g2⟩ := hgood c hcm d hdm
      have g3 := sgn_b2i (x := c.val) (y := d.val)
      have v1 := hv c hcm
      have v2 := hv d hdm
      have hpy : Builtin.divisionGoesByPylong (c.val - d.val) (if c.val - d.val < 0 then -(c.val - d.val) else c.val - d.val) = false := PyProof.noPylong_small (by omega)
      obtain ⟨sg, hsg⟩ : ∃ sg : Int, (c.val - d.val).sign = sg := ⟨_, rfl⟩
      rw [hsg] at g1 g3
      have hsg3 : sg = -1 ∨ sg = 0 ∨ sg = 1 := sign_three hsg
      walk_at "mine toIf"
      rename Fr _ _ _ _ => F3
      rename News _ _ _ _ => N3
      refine int_step F3 N3 sg (fun F4 N4 => ?ev) (fun t5 h5 tk5 F5 N5 => ?_)
      case ev =>
        clear F3 N3
        by_cases hz : c.val - d.val = 0
        · have hs0 : (0 : Int) = sg := by rw [← hsg, hz]; rfl
          walk_at "mine toKP"
          · refine KPost.intro hs0 (by assumption) (by assumption)
          all_goals exact absurd hz (by assumption)
        · have hdv := fdiv_abs hz
          rw [hsg] at hdv
          have hne : (if c.val - d.val < 0 then -(c.val - d.val) else c.val - d.val) ≠ 0 := by split <;> omega
          walk_at "mine toKP"
          · exact absurd (by assumption) hz
          walk_at "mine toKP"
          refine KPost.intro rfl (by assumption) (by assumption)
      clear F3 N3
      walk_at "mine toIfS"
      rcases hsg3 with rfl | rfl | rfl
      all_goals
        as_aux_lemma =>
          exact by
            k_steps; refine TEnd.introS [(I, oI)] (by assumption) (by assumption) (by k_mem) (by k_allIn) hoff2 ?_ rfl; (intro z hz; simp only [List.contains_cons, List.contains_nil, Bool.or_false, Bool.or_eq_false_iff, beq_eq_false_iff_ne, ne_eq] at hz; simp [hz])
    · rintro u2 news₂ h2 tk2 rfl F2 N2
      k_steps
      refine TEnd.introS [] (by assumption) (by assumption) (by k_mem) (by k_allIn) hoff ?_ rfl
      intro z hz; simp only [List.contains_cons, List.contains_nil, Bool.or_false, Bool.or_eq_false_iff, beq_eq_false_iff_ne, ne_eq] at hz; simp [hz]
  · rintro u news₁ h tk rfl F1 N1
    k_steps
    exact ret _ _ (Fr.keep (by assumption))
-- C5
/-- where a card is put in -/
def placeF (sel : List (Int × Int)) (acc : List (Value × Crd)) (x : Value × Crd) : Nat → Nat
  | 0 => 0
  | k + 1 => match acc[k]? with
    | some y => if cmpF y.2.row x.2.row sel = 1 then placeF sel acc x k else k + 1
    | none => k + 1
def insF (sel : List (Int × Int)) (acc : List (Value × Crd)) (x : Value × Crd) : List (Value × Crd) := acc.take (placeF sel acc x acc.length) ++ x :: acc.drop (placeF sel acc x acc.length)

theorem insF_mem {sel : List (Int × Int)} {acc : List (Value × Crd)} {x y : Value × Crd} (h : y ∈ insF sel acc x) : y = x ∨ y ∈ acc := by
  rcases List.mem_append.mp h with h | h
  · exact .inr (List.mem_of_mem_take h)
  · rcases List.mem_cons.mp h with h | h
    · exact .inl h
    · exact .inr (List.mem_of_mem_drop h)
theorem insF_foldl_mem {sel : List (Int × Int)} : ∀ {zs acc : List (Value × Crd)} {y : Value × Crd}, y ∈ zs.foldl (insF sel) acc → y ∈ zs ∨ y ∈ acc
  | [], _, _, h => .inr h
  | z :: zs, acc, y, h => by
    rcases insF_foldl_mem (zs := zs) h with h | h
    · exact .inl (.tail _ h)
    · rcases insF_mem h with h | h
      · exact .inl (h ▸ .head _)
      · exact .inr h
theorem insF_length {sel : List (Int × Int)} {acc : List (Value × Crd)} {x : Value × Crd} : (insF sel acc x).length = acc.length + 1 := by
  unfold insF
  rw [List.length_append, List.length_cons, List.length_take, List.length_drop]
  omega
theorem insF_foldl_length {sel : List (Int × Int)} : ∀ {zs acc : List (Value × Crd)}, (zs.foldl (insF sel) acc).length = zs.length + acc.length
  | [], _ => by simp
  | z :: zs, acc => by rw [List.foldl_cons, insF_foldl_length, insF_length, List.length_cons]; omega

theorem item_card {prog : Program} {w : World} {A : Around} {E : Value → Shared → Prop} {s : Shared} {h₀ : Heap} {L : Addr} {news : List (Addr × Obj)} {value slice : Expr} {D : Addr} {acc : List (Value × Crd)} {n : Nat} {k : Int} {u : Tok} {Q : Value → Shared → Prop}
    (N : News h₀ L s.heap news) (hm : (D, listOf (acc.map (·.1)).toArray n) ∈ news) (hc : ∀ p ∈ acc, CardAt w h₀ p.1 p.2) (h0 : 0 ≤ k) (h1 : k < acc.length) (hb : acc.length < 1000000)
    (h : ∀ a c ra sa rvs t, acc[k.toNat]? = some (.ref a, c) → IsTup h₀ a #[.ref ra, .ref sa, .int c.val t] → IsTup h₀ ra rvs.toArray → IntsAre rvs c.row → Q (.ref a) s)
    (hs : subscripted slice false (.ref D) (.int k u) = operate [.ref D, .int k u] (getItem (.ref D) (.int k u)) := by with_unfolding_all rfl) :
    wpAny (model prog w) A (subscriptTail value slice (.ref D) (.int k u)) Q E s := by
  have hlt : k.toNat < acc.length := by omega
  obtain ⟨y, hy⟩ : ∃ y, acc[k.toNat]? = some y := ⟨_, List.getElem?_eq_getElem hlt⟩
  obtain ⟨v, c⟩ := y
  obtain ⟨a, rv, sv, t, e, hT, ⟨ra, rvs, rfl, hR, hI⟩, ⟨sa, rfl, hS⟩⟩ := hc _ (List.mem_of_getElem? hy)
  simp only at e; subst e
  have hL : s.heap.IsList D (acc.map (·.1)).toArray := ⟨_, (N _ hm).1, rfl, n, rfl⟩
  refine tail_any hL.typeIs slot_list_getitem.lookup (wpAny_getItem_list hL h0 (by omega) ?_ (h a c ra sa rvs t hy hT hR hI)) hs
  simp [hy]


theorem fits_small {k : Int} {n : Nat} (h0 : 0 ≤ k) (h1 : k ≤ n) (h2 : n < 1000) : Builtin.List.listFitsIndex k = true := by
  unfold Builtin.List.listFitsIndex
  simp; omega
theorem step_down {k : Int} (h : 0 < k) : 0 ≤ k - 1 ∧ (∀ {n : Nat}, k ≤ n → k - 1 ≤ n) ∧ (k - 1).toNat < k.toNat := ⟨by omega, fun _ => by omega, by omega⟩
theorem len_fits {acc : List (Value × Crd)} (h : acc.length < 1000) : (acc.map (·.1)).toArray.toList.length ≤ sizeLine := by
  rw [sizeLine_eq]; simp; omega
theorem place_step {sel : List (Int × Int)} {acc : List (Value × Crd)} {x y : Value × Crd} {k : Int} (hk : 0 < k) (hy : acc[(k - 1).toNat]? = some y) (h : cmpF y.2.row x.2.row sel = 1) : placeF sel acc x (k - 1).toNat = placeF sel acc x k.toNat := by
  have e : k.toNat = (k - 1).toNat + 1 := by omega
  rw [e, placeF, hy]
  simp only [h, if_true]
theorem place_stop {sel : List (Int × Int)} {acc : List (Value × Crd)} {x y : Value × Crd} {k : Int} (hk : 0 < k) (hy : acc[(k - 1).toNat]? = some y) (h : ¬ cmpF y.2.row x.2.row sel = 1) : k.toNat = placeF sel acc x k.toNat := by
  have e : k.toNat = (k - 1).toNat + 1 := by omega
  rw [e, placeF, hy]
  simp only [h, if_false]
theorem place_stop0 {sel : List (Int × Int)} {acc : List (Value × Crd)} {x : Value × Crd} {k : Int} (hk : ¬ 0 < k) : k.toNat = placeF sel acc x k.toNat := by
  have e : k.toNat = 0 := by omega
  rw [e]; rfl
theorem ins_eq {sel : List (Int × Int)} {acc : List (Value × Crd)} {x : Value × Crd} {k : Int} (h0 : 0 ≤ k) (h1 : k ≤ acc.length) (e : k.toNat = placeF sel acc x acc.length) : kl_ins (acc.map (·.1)).toArray.toList k x.1 = (insF sel acc x).map (·.1) := by
  unfold kl_ins insF
  rw [if_neg (by omega), ← e]
  simp only [List.length_map, List.map_append, List.map_cons, List.map_take, List.map_drop]
  rw [Nat.min_eq_left (by omega)]
local macro_rules | `(tactic| walk_at "mine toWhile") => `(tactic| repeat (fail_if_success (with_reducible show wpAny _ _ (exec (Stmt.While _ _ _ _) _) _ _ _)); (first | (k_unfold; (try dsimp only)) | walk1 | (dsimp only; walk1)))
theorem listing_spec {w : World} {p : Program} {loose : List Str} {mean : ExcName → Option Value} {mg mb : Str → Option Value} {gd : Option (List Code)} {cn : Str} {cs : Scope} {a : Addr} {ccd : Value} {cl : List (Str × Addr)} {outer : List Env}
    {A₀ : Around} {base h₀ : Heap} {L : Addr} {m : Str → Option Value} {s : Shared} {Q E : Value → Shared → Prop} {x dx l la : Addr} {hsh : Int} {tk : Tok} {nn : Nat} {us : List Value} {sel : List (Int × Int)} {zs : List (Value × Crd)} {ln : Nat}
    (B : Below A₀ base outer h₀) (F : Fr h₀ L s.heap m) (X : (KK w).In h₀) (T : Top p loose mean mg mb h₀) (hck : cs.kind = .function)
    (hx : s.heap.get? x = some (instObj 45 dx)) (hdx : s.heap.get? dx = some (dictOf [⟨hsh, .str (Str.ofString "comp_select_list") tk, .ref l⟩] nn)) (hl : s.heap.IsList l us.toArray) (hp : PairsAt s.heap us sel)
    (hla : s.heap.IsList la (zs.map (·.1)).toArray) (hcs : ∀ p ∈ zs, CardAt w s.heap p.1 p.2) (hln : ∀ p ∈ zs, p.2.row.length = ln) (hln2 : ln < 1000) (hsel : ∀ p ∈ sel, 0 ≤ p.1 ∧ p.1 < ln) (hzs : zs.length < 1000)
    (ret : ∀ D n h' tk', Keeps s.heap h' → s.heap.get? D = none → h'.get? D = some (listOf ((zs.foldl (insF sel) []).map (·.1)).toArray n) → Q (.ref D) { s with heap := h', toks := tk' }) :
    wpAny (model PR w) (Lv 500 500 gd cn cs L a ccd cl outer) (call (.ref 66) [.ref la, .ref x]) Q E s := by
  w_top off
  walk_at "mine fill"
  walk_at "mine enter"
  k_steps
  rename_i D _ _ _ F0 N0
  have hD : s.heap.get? D = none := (N0 _ (List.Mem.head _)).2.2
  refine iter_listS (["card", "place"] : List Str) (fun i _ nw => ∃ n, nw = [(D, listOf (((zs.take i).foldl (insF sel) []).map (·.1)).toArray n)]) hla F0 N0 rfl ⟨0, rfl⟩ ?_ ?_
  · rintro i v u news₁ h tk I oI hiv ⟨n, rfl⟩ hoff F1 N1
    obtain ⟨⟨v', c⟩, hz, rfl⟩ : ∃ z, zs[i]? = some z ∧ z.1 = v := by
      rw [List.getElem?_map] at hiv
      obtain ⟨z, e1, e2⟩ := Option.map_eq_some_iff.mp hiv
      exact ⟨z, e1, e2⟩
    have hzm := List.mem_of_getElem? hz
    obtain ⟨a1, rv1, sv1, t1, e1, hT1, ⟨ra1, rvs1, rfl, hR1, hI1⟩, ⟨sa1, rfl, hS1⟩⟩ := hcs _ hzm
    simp only at e1; subst e1
    have hacc : ∀ p ∈ (zs.take i).foldl (insF sel) [], CardAt w s.heap p.1 p.2 ∧ p.2.row.length = ln := fun p hp => by
      rcases insF_foldl_mem hp with q | q
      · exact ⟨hcs p (List.mem_of_mem_take q), hln p (List.mem_of_mem_take q)⟩
      · cases q
    have hal : ((zs.take i).foldl (insF sel) []).length < 1000 := by rw [insF_foldl_length, List.length_take]; simp; omega
    have hst : (zs.take (i + 1)).foldl (insF sel) [] = insF sel ((zs.take i).foldl (insF sel) []) (.ref a1, c) := by
      rw [List.take_add_one, hz]; simp
    rw [hst]
    generalize (zs.take i).foldl (insF sel) [] = acc at *
    have hID : I ≠ D := fun e => hoff _ (List.Mem.head _) e.symm
    k_steps
    refine kst_len (k := acc.length) (by assumption) (by k_mem) (by simp) (by omega) ?_
    dsimp only
    walk_at "mine toWhile"
    rename_i h3 F3 N3
    refine' my_while (σ := Int × Tok) (fun _ => [(I, oI), (D, listOf (acc.map (·.1)).toArray n)]) (fun c => [("place", .int c.1 c.2)]) [] (fun q => 0 ≤ q.1 ∧ q.1 ≤ acc.length ∧ placeF sel acc (.ref a1, c) q.1.toNat = placeF sel acc (.ref a1, c) acc.length) (fun c => c.1.toNat) ((acc.length : Int), ?tok) F3 N3 ?kk ?kp ?kt
    case kk => kst_all
    case kp => exact ⟨by simp only; omega, by simp only; omega, by simp⟩
    case kt =>
      rintro ⟨k, tk5⟩ u5 h5 tk6 ⟨hk0, hk1, hk2⟩ F5 N5
      simp only at hk0 hk1 hk2
      k_steps
      · rename_i hkp
        refine item_card (by assumption) (by k_mem) (fun p hp => (hacc p hp).1) (by show 0 ≤ k - 1; simp only at hkp; omega) (by show k - 1 < _; omega) (by omega) ?_
        intro a2 c2 ra2 sa2 rvs2 t2 hy hT2 hR2 hI2
        have hc2 := (hacc _ (List.mem_of_getElem? hy)).2
        simp only at hc2
        have b1 : c2.row.length < 1000 := by rw [hc2]; exact hln2
        have b2 : c.row.length < 1000 := by rw [hln _ hzm]; exact hln2
        have hsl : ∀ p ∈ sel, 0 ≤ p.1 ∧ p.1 < c2.row.length ∧ p.1 < c.row.length := fun p hp => by rw [hc2, hln _ hzm]; exact ⟨(hsel p hp).1, (hsel p hp).2, (hsel p hp).2⟩
        have he : cmpF c2.row c.row sel = cmpF c2.row c.row sel := rfl
        have st1 := step_down hkp
        k_steps
        · refine my_end (k - 1, _) (by assumption) (by assumption) (by k_allIn) (by kst_all) ?_ ⟨st1.1, st1.2.1 hk1, (place_step hkp hy (by assumption)).trans hk2⟩ st1.2.2
          intro z h2 _
          have hz : z ≠ Str.ofString "place" := h2 _ (List.Mem.head _)
          show (if z = Str.ofString "place" then _ else if z = Str.ofString "place" then _ else _) = _
          rw [if_neg hz, if_neg hz]; rfl
        · refine kl_insert (l := (insF sel acc (.ref a1, c)).map (·.1)) (by assumption) (by assumption) (fits_small hk0 hk1 hal) (ins_eq hk0 hk1 ((place_stop hkp hy (by assumption)).trans hk2)) (Upd.tail hID (Upd.head (List.forall_mem_nil _))) (len_fits hal) ?_
          intro h6 F6 N6
          k_steps
          refine TEnd.introS [(D, listOf ((insF sel acc (.ref a1, c)).map (·.1)).toArray (n + 1))] (by assumption) (by assumption) (by k_mem) (by k_allIn) (List.forall_mem_singleton.mpr hID.symm) ?_ ⟨n + 1, rfl⟩
          (intro z hz; simp only [List.contains_cons, List.contains_nil, Bool.or_false, Bool.or_eq_false_iff, beq_eq_false_iff_ne, ne_eq] at hz; simp [kstB, hz])
      · refine kl_insert (l := (insF sel acc (.ref a1, c)).map (·.1)) (by assumption) (by assumption) (fits_small hk0 hk1 hal) (ins_eq hk0 hk1 ((place_stop0 (by assumption)).trans hk2)) (Upd.tail hID (Upd.head (List.forall_mem_nil _))) (len_fits hal) ?_
        intro h6 F6 N6
        k_steps
        refine TEnd.introS [(D, listOf ((insF sel acc (.ref a1, c)).map (·.1)).toArray (n + 1))] (by assumption) (by assumption) (by k_mem) (by k_allIn) (List.forall_mem_singleton.mpr hID.symm) ?_ ⟨n + 1, rfl⟩
        (intro z hz; simp only [List.contains_cons, List.contains_nil, Bool.or_false, Bool.or_eq_false_iff, beq_eq_false_iff_ne, ne_eq] at hz; simp [kstB, hz])
  · rintro u news₁ h tk ⟨n, rfl⟩ F1 N1
    k_steps
    rw [List.take_of_length_le (by simp)] at *
    exact ret D n _ _ (Fr.keep (by assumption)) hD (News.get (by assumption) (List.Mem.head _))
-- CompCell
section
open PySem.Spec
section
variable {prog : Program} {w : World} {A : Around} {E : Value → Shared → Prop} {s : Shared} {env : Env}

theorem neA {a b : Nat} (h : @LT.lt Nat _ a b ∨ @LT.lt Nat _ b a) : @Ne Addr a b := fun e => by
  have e' : @Eq Nat a b := e
  omega
theorem ltA {h : Heap} {a : Nat} {o : Obj} (e : h.get? a = some o) : @LT.lt Nat _ a h.objs.size := Heap.lt_size e
theorem sameBut_at {h h' : Heap} {a b : Addr} {o : Obj} (hs : Heap.SameBut a h h') (hb : b ≠ a) (e : h.get? b = some o) : h'.get? b = some o := (hs.2 b hb).trans e

/-- a test or an element has come to its end: the ledger stands -/
def TestPost {α : Type} (h₀ : Heap) (L : Addr) (m : Str → Option Value) (led : List (Addr × Obj)) (s₁ : Shared) (b : α) (ok : α) (s' : Shared) : Prop :=
  ok = b ∧ ∃ h' tk', s' = { s₁ with heap := h', toks := tk' } ∧ Fr h₀ L h' m ∧ News h₀ L h' led
theorem TestPost.intro {α : Type} {h₀ : Heap} {L : Addr} {m : Str → Option Value} {led all : List (Addr × Obj)} {s₁ : Shared} {b ok : α} {h' : Heap} {tk' : Nat} (e : ok = b) (F : Fr h₀ L h' m) (N : News h₀ L h' all) (hs : ∀ p ∈ led, p ∈ all) : TestPost h₀ L m led s₁ b ok { s₁ with heap := h', toks := tk' } :=
  ⟨e, h', tk', rfl, F, fun p hp => N p (hs p hp)⟩
theorem news_at {h₀ h h' : Heap} {L a : Addr} {news : List (Addr × Obj)} (N : News h₀ L h news) (hs : Heap.SameBut a h h') (off : ∀ p ∈ news, @Ne Addr p.1 a) : News h₀ L h' news := fun p hp => ⟨sameBut_at hs (off p hp) (N p hp).1, (N p hp).2⟩
theorem fr_at {h₀ h h' : Heap} {L a : Addr} {m : Str → Option Value} (F : Fr h₀ L h m) (hs : Heap.SameBut a h h') (ha : h₀.get? a = none) (hL : @Ne Addr L a) : Fr h₀ L h' m :=
  ⟨F.ns.at' fun o e => sameBut_at hs hL e, fun b o e => sameBut_at hs (fun q => by rw [q, ha] at e; cases e) (F.keep b o e), F.above⟩

/-- a list comprehension whose name is a cell, its test reads alone -/
theorem ListComp_cell {β : Type} {h₀ : Heap} {L : Addr} {m : Str → Option Value} {news : List (Addr × Obj)} {ct iter : Expr} {x : Str} {px pe : Pos} {scope : Scope} {cl : List (Str × Addr)} {pos : Pos} {Q : Value → Shared → Prop}
    (F₀ : Fr h₀ L s.heap m) (N₀ : News h₀ L s.heap news) (hh : A.handled = none) (hclos : closureFor scope env = pure cl) (hcells : ∀ n, cellsFrom n scope.names cl = (x, n) :: cl) (hpush : ∀ h : Heap, pushCells h scope.names = h.push { cls := .type "cell", data := .cell none }) (hkind : scope.kind = .function)
    (hnames : ∀ y ∈ scope.names, y.2 = .local → scope.names.lookup y.1 = some .local) (hkx : ∀ cl' C, (compEnvC scope cl' C env).kindOf x = some .cell) (hd : (x == ("__debug__" : Str)) = false)
    (h : wpAny (model prog w) A (eval iter env) (fun xv s₁ => ∃ (ax : Addr) (zs : List (Value × β)) (p : Value × β → Bool), xv = .ref ax ∧ h₀.IsList ax (zs.map (·.1)).toArray ∧ zs.length ≤ sizeLine ∧ Fr h₀ L s₁.heap m ∧ News h₀ L s₁.heap news ∧
      (∀ z I oI C oC cx oc D oD h tk E', z ∈ zs → oc.data = .cell (some z.1) → Fr h₀ L h m → News h₀ L h ((I, oI) :: (C, oC) :: (cx, oc) :: (D, oD) :: news) → (∀ p ∈ news, @LT.lt Nat _ p.1 I ∧ @LT.lt Nat _ p.1 C ∧ @LT.lt Nat _ p.1 cx ∧ @LT.lt Nat _ p.1 D) →
        wpAny (model prog w) A (isTrue ct (compEnvC scope ((x, cx) :: cl) C env) (eval ct (compEnvC scope ((x, cx) :: cl) C env)))
          (TestPost h₀ L m ((I, oI) :: (C, oC) :: (cx, oc) :: (D, oD) :: news) s₁ (p z)) E' { s₁ with heap := h, toks := tk }) ∧
      (∀ D n h' tk, Fr h₀ L h' m → News h₀ L h' ((D, listOf ((zs.filter p).map (·.1)).toArray n) :: news) → (∀ p ∈ news, @LT.lt Nat _ p.1 D) → Q (.ref D) { s₁ with heap := h', toks := tk })) E s)
    (hs : ∀ x, foldedSetIterable iter env x = pure x := by intro _; rfl) :
    wpAny (model prog w) A (eval (.ListComp (.Name x pe) [⟨.Name x px, iter, [ct], 0⟩] scope pos) env) Q E s := by
  rw [eval_ListComp]
  refine wpAny_comprehension_free (use := none) rfl hs hclos hkind hnames (wpAny_mono h (fun xv s₁ h₁ => ?_) fun _ _ e => e)
  obtain ⟨ax, zs, p, rfl, hl₀, hsz, F, N, turn, fin⟩ := h₁
  have hl := hl₀.at fun o e => F.keep _ o e
  have hlt : ax < s₁.heap.objs.size := by obtain ⟨_, e, _⟩ := hl; exact Heap.lt_size e
  refine wpAny_pyIter_list hl ?_
  refine wpAny_newObj_type ?_
  simp only [newFunctionEnv, Option.isSome_some, if_true]
  refine wpAny_bind (wpAny_alloc ?_)
  refine wpAny_bind (wpAny_layCells _ (fun name kind cells => by cases hkc : kind == NameKind.cell <;> simp) _ _ _ _ ?_)
  rw [hcells, hpush]
  refine wpAny_bind (wpAny_pure (wpAny_pure ?_))
  have e1 : (s₁.heap.push { cls := .type "list_iterator", data := .fields #[.ref ax, .int 0 0] }).objs.size = s₁.heap.objs.size + 1 := Heap.size_push ..
  generalize hH1 : s₁.heap.push { cls := .type "list_iterator", data := .fields #[.ref ax, .int 0 0] } = H1 at *
  have e2 : (H1.push { cls := .type "list", data := .seq ([] : List Value).toArray }).objs.size = s₁.heap.objs.size + 2 := by rw [Heap.size_push, e1]
  dsimp only
  generalize hH2 : H1.push { cls := .type "list", data := .seq ([] : List Value).toArray } = H2 at *
  have e3 : (H2.push { cls := .type "dict", data := .dict #[] }).objs.size = s₁.heap.objs.size + 3 := by rw [Heap.size_push, e2]
  generalize hH3 : H2.push { cls := .type "dict", data := .dict #[] } = H3 at *
  generalize hH4 : H3.push { cls := .type "cell", data := .cell none } = H4
  rw [e1, e2, e3]
  have k1 : ∀ b o, s₁.heap.get? b = some o → H1.get? b = some o := fun b o e => hH1 ▸ Heap.get?_push_of_some _ e
  have k2 : ∀ b o, H1.get? b = some o → H2.get? b = some o := fun b o e => hH2 ▸ Heap.get?_push_of_some _ e
  have k3 : ∀ b o, H2.get? b = some o → H3.get? b = some o := fun b o e => hH3 ▸ Heap.get?_push_of_some _ e
  have k4 : ∀ b o, H3.get? b = some o → H4.get? b = some o := fun b o e => hH4 ▸ Heap.get?_push_of_some _ e
  have old : ∀ b o, s₁.heap.get? b = some o → H4.get? b = some o := fun b o e => k4 b o (k3 b o (k2 b o (k1 b o e)))
  have gI : H4.get? s₁.heap.objs.size = some { cls := .type "list_iterator", data := .fields #[.ref ax, .int 0 0] } := k4 _ _ (k3 _ _ (k2 _ _ (hH1 ▸ Heap.get?_push_size _ rfl)))
  have gD : H4.get? (s₁.heap.objs.size + 1) = some { cls := .type "list", data := .seq ([] : List Value).toArray } := by
    have q : (H1.push { cls := .type "list", data := .seq ([] : List Value).toArray }).get? H1.objs.size = some { cls := .type "list", data := .seq ([] : List Value).toArray } := Heap.get?_push_size _ rfl
    rw [hH2, e1] at q
    exact k4 _ _ (k3 _ _ q)
  have gC : H4.Ns (s₁.heap.objs.size + 2) (fun _ => none) := by
    have := (Heap.Ns.new H2 (.type "dict")).keeps (h' := H4) (fun b o e => k4 b o (hH3 ▸ e)); rw [e2] at this; exact this
  have gX : H4.IsCell (s₁.heap.objs.size + 3) none := by
    have q : (H3.push { cls := .type "cell", data := .cell none }).get? H3.objs.size = some { cls := .type "cell", data := .cell none } := Heap.get?_push_size _ rfl
    rw [hH4, e3] at q
    exact ⟨_, q, rfl⟩
  have z0 : @LE.le Nat _ h₀.objs.size s₁.heap.objs.size := Nat.le_trans F.above (Nat.le_of_lt (F.ns.lt))
  have fresh : ∀ a, @LE.le Nat _ s₁.heap.objs.size a → h₀.get? a = none := fun a ha => by
    cases e : h₀.get? a with
    | none => rfl
    | some o' => exact absurd (ltA (F.keep _ _ e)) (by omega)
  have hL : @LT.lt Nat _ L s₁.heap.objs.size := F.ns.lt
  have nl : ∀ q ∈ news, @LT.lt Nat _ q.1 s₁.heap.objs.size := fun q hq => ltA (N q hq).1
  -- one object more in the ledger
  have cons : ∀ (h : Heap) (a : Nat) (o : Obj) (led : List (Addr × Obj)), @LE.le Nat _ s₁.heap.objs.size a → h.get? a = some o → News h₀ L h led → News h₀ L h ((a, o) :: led) := fun h a o led ha ho Nl q hq => by
    rcases List.mem_cons.mp hq with rfl | hq
    · exact ⟨ho, neA (by simp only; omega), fresh _ ha⟩
    · exact Nl q hq
  have loop : ∀ s₃ : Shared, s₃ = { s₁ with heap := H4 } →
      codeAny (model prog w) A (.compLoop (.ListComp (.Name x pe) [⟨.Name x px, iter, [ct], 0⟩] scope pos) 0 (.ref s₁.heap.objs.size) (.ref (s₁.heap.objs.size + 1)) (compEnvC scope ((x, s₁.heap.objs.size + 3) :: cl) (s₁.heap.objs.size + 2) env))
        (compPost (model prog w) A E none Q (.ref (s₁.heap.objs.size + 1)) (s₁.heap.objs.size + 2)) s₃ := by
    rintro s₃ rfl
    refine codeAny_compLoop_tests
      (fun k s' => ∃ (h' : Heap) (tk i : Nat) (v₀ : Option Value), s' = { s₁ with heap := h', toks := tk } ∧ i ≤ zs.length ∧ k = zs.length + 1 - i ∧ Fr h₀ L h' m ∧ News h₀ L h' news ∧
        h'.IsListIter s₁.heap.objs.size ax i ∧ h'.PlainList (s₁.heap.objs.size + 1) (((zs.take i).filter p).map (·.1)).toArray ∧ h'.Ns (s₁.heap.objs.size + 2) (fun _ => none) ∧ h'.IsCell (s₁.heap.objs.size + 3) v₀) ?_ (zs.length + 1)
      ⟨H4, s₁.toks, 0, none, rfl, Nat.zero_le _, rfl, F.keeps old, N.grown old, ⟨_, gI, rfl, rfl⟩, ⟨0, by simpa using gD⟩, gC, gX⟩
    rintro k s' ⟨h', tk, i, v₀, rfl, hi, rfl, F', N', hit, hD, hC, hX⟩
    have hl' : h'.IsList ax (zs.map (·.1)).toArray := hl₀.at fun o e => F'.keep _ o e
    by_cases hlt' : i < zs.length
    · refine wpAny_pyNext_list_item hit hl' (x := zs[i].1) (by simp [hlt']) fun h₁ hit₁ hs₁ => ?_
      refine wpAny_assign_Name (wpAny_storeName_cell (c := s₁.heap.objs.size + 3) (by exact hkind) (hkx _ _) (by show List.lookup x ((x, s₁.heap.objs.size + 3) :: cl) = _; simp) (hX.sameBut hs₁ (neA (by omega))) fun h₂ hX₂ hs₂ => ?_)
      refine wpAny_tests_one ?_
      have F₂ : Fr h₀ L h₂ m := fr_at (fr_at F' hs₁ (fresh _ (by omega)) (neA (by omega))) hs₂ (fresh _ (by omega)) (neA (by omega))
      have N₂ : News h₀ L h₂ news := news_at (news_at N' hs₁ fun q hq => neA (by have := nl q hq; omega)) hs₂ fun q hq => neA (by have := nl q hq; omega)
      have hit₂ : h₂.IsListIter s₁.heap.objs.size ax (i + 1) := hit₁.at fun o e => sameBut_at hs₂ (neA (by omega)) e
      have hD₂ : h₂.PlainList (s₁.heap.objs.size + 1) (((zs.take i).filter p).map (·.1)).toArray := hD.at fun o e => sameBut_at hs₂ (neA (by omega)) (sameBut_at hs₁ (neA (by omega)) e)
      have hC₂ : h₂.Ns (s₁.heap.objs.size + 2) (fun _ => none) := (hC.sameBut hs₁ (neA (by omega))).sameBut hs₂ (neA (by omega))
      obtain ⟨oI, hoI, rI⟩ := _root_.id hit₂
      obtain ⟨nD, hoD⟩ := _root_.id hD₂
      obtain ⟨oC, hoC, rC⟩ := LCg.ns_obj hC₂
      obtain ⟨oc, hoc, hdc⟩ := _root_.id hX₂
      have NN := cons h₂ _ _ _ (by omega) hoI (cons h₂ (s₁.heap.objs.size + 2) _ _ (by omega) hoC (cons h₂ (s₁.heap.objs.size + 3) _ _ (by omega) hoc (cons h₂ (s₁.heap.objs.size + 1) _ _ (by omega) hoD N₂)))
      refine wpAny_mono (turn zs[i] _ _ _ _ _ oc _ _ h₂ _ _ (List.getElem_mem hlt') hdc F₂ NN fun q hq => by have := nl q hq; exact ⟨by omega, by omega, by omega, by omega⟩) (fun ok s₄ h₄ => ?_) fun _ _ e => e
      obtain ⟨rfl, h₃, tk₃, rfl, F₃, N₃⟩ := h₄
      have hI₃ := (N₃ _ (.head _)).1
      have hC₃ := (N₃ _ (.tail _ (.head _))).1
      have hc₃ := (N₃ _ (.tail _ (.tail _ (.head _)))).1
      have hD₃ := (N₃ _ (.tail _ (.tail _ (.tail _ (.head _))))).1
      have NR : News h₀ L h₃ news := fun q hq => N₃ q (.tail _ (.tail _ (.tail _ (.tail _ hq))))
      have htake : zs.take (i + 1) = zs.take i ++ [zs[i]] := by rw [List.take_add_one]; simp [hlt']
      have it₃ : h₃.IsListIter s₁.heap.objs.size ax (i + 1) := ⟨oI, hI₃, rI⟩
      have C₃ : h₃.Ns (s₁.heap.objs.size + 2) (fun _ => none) := rC.ns hC₃
      have X₃ : h₃.IsCell (s₁.heap.objs.size + 3) (some zs[i].1) := ⟨oc, hc₃, hdc⟩
      have D₃ : h₃.PlainList (s₁.heap.objs.size + 1) (((zs.take i).filter p).map (·.1)).toArray := ⟨nD, hD₃⟩
      cases hpv : p zs[i] with
      | false =>
        simp only [Bool.false_eq_true, if_false]
        refine ⟨zs.length + 1 - (i + 1), by omega, h₃, tk₃, i + 1, _, rfl, hlt', rfl, F₃, NR, it₃, ?_, C₃, X₃⟩
        rw [htake, List.filter_append, List.map_append]
        simp only [List.map_nil, List.filter_cons, hpv, Bool.false_eq_true, if_false, List.filter_nil, List.append_nil]
        exact D₃
      | true =>
        simp only [if_true]
        refine wpAny_Name (wpAny_loadName_cell (c := s₁.heap.objs.size + 3) (by exact hkind) (hkx _ _) (by show List.lookup x ((x, s₁.heap.objs.size + 3) :: cl) = _; simp) X₃ ?_) hd
        refine wpAny_list_append_plain D₃ (fun h₅ hD₅ hs₅ => ?_) (by
          have : ((zs.take i).filter p).length ≤ (zs.take i).length := List.length_filter_le _ _
          have h2 : (zs.take i).length ≤ zs.length := by rw [List.length_take]; omega
          rw [List.size_toArray, List.length_map]; omega)
        refine ⟨zs.length + 1 - (i + 1), by omega, h₅, tk₃, i + 1, _, rfl, hlt', rfl, fr_at F₃ hs₅ (fresh _ (by omega)) (neA (by omega)), news_at NR hs₅ (fun q hq => neA (by have := nl q hq; omega)), it₃.at fun o e => sameBut_at hs₅ (neA (by omega)) e, ?_, C₃.sameBut hs₅ (neA (by omega)), X₃.sameBut hs₅ (neA (by omega))⟩
        rw [htake, List.filter_append, List.map_append]
        simp only [List.filter_cons, hpv, if_true, List.filter_nil, List.map_cons, List.map_nil]
        rw [List.push_toArray] at hD₅
        exact hD₅
    · have hin : i = zs.length := by omega
      subst hin
      refine wpAny_pyNext_list_end hh hit hl' (by simp) fun h₁ he₁ => ?_
      refine ⟨_, hC.at' fun o e => he₁ _ o (neA (by omega)) e, fun h'' hs'' => ?_⟩
      obtain ⟨nD, gD'⟩ := hD
      rw [List.take_length] at gD'
      have F₁ : Fr h₀ L h₁ m := ⟨F'.ns.at' fun o e => he₁ _ o (neA (by omega)) e, fun b o e => he₁ b o (fun q => by rw [q, fresh _ (Nat.le_refl _)] at e; cases e) (F'.keep b o e), F'.above⟩
      have N₁ : News h₀ L h₁ news := fun q hq => ⟨he₁ _ _ (neA (by have := nl q hq; omega)) (N' q hq).1, (N' q hq).2⟩
      refine fin _ nD h'' _ (fr_at F₁ hs'' (fresh _ (by omega)) (neA (by omega))) (cons h'' (s₁.heap.objs.size + 1) _ _ (by omega) (sameBut_at hs'' (neA (by omega)) (he₁ _ _ (neA (by omega)) gD')) (news_at N₁ hs'' fun q hq => neA (by have := nl q hq; omega))) fun q hq => by have := nl q hq; omega
  exact codeAny_compStart_list (loop _ rfl) (wpAny_pyIter_listiter ⟨_, gI, rfl, rfl⟩ (loop _ rfl))
end
theorem news_more {h₀ h₁ h : Heap} {L c : Addr} {m : Str → Option Value} {news : List (Addr × Obj)} {o : Obj} (F : Fr h₀ L h₁ m) (N : News h₀ L h₁ news) (hk : ∀ b o, h₁.get? b = some o → h.get? b = some o) (hc : h₁.get? c = none) (ho : h.get? c = some o) : News h₀ L h ((c, o) :: news) := by
  intro p hp
  rcases List.mem_cons.mp hp with rfl | hp
  · refine ⟨ho, fun q => ?_, ?_⟩
    · obtain ⟨oL, _, _, hL, _⟩ := F.ns
      have q' : c = L := q
      rw [q', hL] at hc; cases hc
    · cases e : h₀.get? c with
      | none => rfl
      | some o' => rw [F.keep _ _ e] at hc; cases hc
  · exact ⟨hk _ _ (N p hp).1, (N p hp).2⟩
end
-- CompInd
section
open PySem.Spec LCg
/-- an element's end; no line of the walk knows this word -/
def CE (h₀ : Heap) (L : Addr) (m : Str → Option Value) (s₁ : Shared) (I : Addr) (oI : Obj) (C : Addr) (oC : Obj) (D : Addr) (oD : Obj) (S : List (Addr × Obj) → Prop) (rest : Value → List (Addr × Obj) → Prop) (y : Value) (s₂ : Shared) : Prop :=
  CompEnd h₀ L m s₁ I oI C oC D oD S rest y s₂
theorem CE.intro {h₀ : Heap} {L I C D : Addr} {m : Str → Option Value} {s₁ : Shared} {oI oC oD : Obj} {S : List (Addr × Obj) → Prop} {rest : Value → List (Addr × Obj) → Prop} {y : Value} {h' : Heap} {tk : Nat} {all : List (Addr × Obj)} (news' : List (Addr × Obj))
    (F : Fr h₀ L h' m) (N : News h₀ L h' all) (sub : ∀ p ∈ (I, oI) :: (C, oC) :: (D, oD) :: news', p ∈ all) (off : Off3 I C D news') (hS : S news') (r : rest y news') :
    CE h₀ L m s₁ I oI C oC D oD S rest y { s₁ with heap := h', toks := tk } := CompEnd.intro F N news' sub off hS r
theorem ce_mono {h₀ : Heap} {L I C D : Addr} {m : Str → Option Value} {s₁ s₂ : Shared} {oI oC oD : Obj} {S : List (Addr × Obj) → Prop} {r r' : Value → List (Addr × Obj) → Prop} {y : Value} (h : CE h₀ L m s₁ I oI C oC D oD S r y s₂) (hr : ∀ nw, r y nw → r' y nw) : CompEnd h₀ L m s₁ I oI C oC D oD S r' y s₂ := by
  obtain ⟨h', tk, news', e, F, N, off, hS, q⟩ := h
  exact ⟨h', tk, news', e, F, N, off, hS, hr _ q⟩
/-- a test's end with the choice behind it -/
def CT (prog : Program) (w : World) (A : Around) (elt : Expr) (cenv : Env) (E : Value → Shared → Prop) (Yes : Value → Shared → Prop) (No : Shared → Prop) (ok : Bool) (s' : Shared) : Prop :=
  if ok = true then wpAny (model prog w) A (eval elt cenv) Yes E s' else No s'
section
variable {prog : Program} {w : World} {A : Around} {E : Value → Shared → Prop} {s : Shared} {h₀ : Heap} {L : Addr} {m : Str → Option Value} {env : Env}
theorem restT_ind {ct elt : Expr} {x : Str} {scope : Scope} {cl : List (Str × Addr)} {S : List (Addr × Obj) → Prop} {P : Nat → Value → Prop} {Fin : List Value → List (Addr × Obj) → Prop} {n : Nat} (J : Nat → List Value → List (Addr × Obj) → Prop)
    (turn : ∀ i ys news v I oI C oC D m₂ h tk (E' : Value → Shared → Prop), i < n → J i ys news → P i v → NsObj oC m₂ → m₂ x = some v → Fr h₀ L h m → News h₀ L h ((I, oI) :: (C, oC) :: (D, lst ys) :: news) → Off3 I C D news → ((@Ne Nat I C) ∧ (@Ne Nat I D) ∧ (@Ne Nat C D)) →
      wpAny (model prog w) A (isTrue ct (compEnvC scope cl C env) (eval ct (compEnvC scope cl C env))) (CT prog w A elt (compEnvC scope cl C env) E'
        (CE h₀ L m { s with heap := h, toks := tk } I oI C oC D (lst ys) S (fun y news' => J (i + 1) (ys ++ [y]) news'))
        (CE h₀ L m { s with heap := h, toks := tk } I oI C oC D (lst ys) S (fun _ news' => J (i + 1) ys news') Value.none)) E' { s with heap := h, toks := tk })
    (fin : ∀ ys news, J n ys news → Fin ys news) : ∀ k i ys news, i + k = n → J i ys news → LCt.CompRestT prog w A h₀ L m env ct elt x scope cl s S P Fin k i ys news
  | 0, i, ys, news, e, hj => fin ys news (by have : i = n := by omega
                                             exact this ▸ hj)
  | k + 1, i, ys, news, e, hj => by
    intro v I oI C oC D m₂ h tk E' hP hC hx F N off hne
    refine wpAny_mono (turn i ys news v I oI C oC D m₂ h tk E' (by omega) hj hP hC hx F N off hne) (fun ok s' q => ?_) fun _ _ e => e
    unfold CT at q
    cases ok with
    | true =>
      simp only [if_true] at q ⊢
      exact wpAny_mono q (fun y s₂ q₂ => ce_mono q₂ fun nw hj' => restT_ind J turn fin k (i + 1) _ _ (by omega) hj') fun _ _ e => e
    | false =>
      simp only [Bool.false_eq_true, if_false] at q ⊢
      exact ce_mono q fun nw hj' => restT_ind J turn fin k (i + 1) _ _ (by omega) hj'
theorem rest_ind {elt : Expr} {x : Str} {scope : Scope} {cl : List (Str × Addr)} {S : List (Addr × Obj) → Prop} {P : Nat → Value → Prop} {Fin : List Value → List (Addr × Obj) → Prop} {n : Nat} (J : Nat → List Value → List (Addr × Obj) → Prop)
    (turn : ∀ i ys news v I oI C oC D m₂ h tk (E' : Value → Shared → Prop), i < n → J i ys news → P i v → NsObj oC m₂ → m₂ x = some v → Fr h₀ L h m → News h₀ L h ((I, oI) :: (C, oC) :: (D, lst ys) :: news) → Off3 I C D news → ((@Ne Nat I C) ∧ (@Ne Nat I D) ∧ (@Ne Nat C D)) →
      wpAny (model prog w) A (eval elt (compEnvC scope cl C env)) (CE h₀ L m { s with heap := h, toks := tk } I oI C oC D (lst ys) S (fun y news' => J (i + 1) (ys ++ [y]) news')) E' { s with heap := h, toks := tk })
    (fin : ∀ ys news, J n ys news → Fin ys news) : ∀ k i ys news, i + k = n → J i ys news → CompRest prog w A h₀ L m env elt x scope cl s S P Fin k i ys news
  | 0, i, ys, news, e, hj => fin ys news (by have : i = n := by omega
                                             exact this ▸ hj)
  | k + 1, i, ys, news, e, hj => by
    intro v I oI C oC D m₂ h tk E' hP hC hx F N off hne
    refine wpAny_mono (turn i ys news v I oI C oC D m₂ h tk E' (by omega) hj hP hC hx F N off hne) (fun y s₂ q₂ => ce_mono q₂ fun nw hj' => rest_ind J turn fin k (i + 1) _ _ (by omega) hj') fun _ _ e => e
theorem CT.yes {elt : Expr} {cenv : Env} {Yes : Value → Shared → Prop} {No : Shared → Prop} {s' : Shared} (h : wpAny (model prog w) A (eval elt cenv) Yes E s') : CT prog w A elt cenv E Yes No true s' := by unfold CT; simpa using h
theorem CT.no {elt : Expr} {cenv : Env} {Yes : Value → Shared → Prop} {No : Shared → Prop} {s' : Shared} (h : No s') : CT prog w A elt cenv E Yes No false s' := by unfold CT; simpa using h
theorem CT.of {elt : Expr} {cenv : Env} {Yes : Value → Shared → Prop} {No : Shared → Prop} {s' : Shared} {b : Bool} (h1 : b = true → wpAny (model prog w) A (eval elt cenv) Yes E s') (h2 : b = false → No s') : CT prog w A elt cenv E Yes No b s' := by
  cases b with
  | true => exact .yes (h1 rfl)
  | false => exact .no (h2 rfl)
end
end
-- ListEq
section
open PySem.Spec PySem.SeqAt
section
variable {prog : Program} {w : World} {A : Around} {E : Value → Shared → Prop} {s : Shared} {l b : Addr} {items items2 : Array Value} {Q : Value → Shared → Prop}

theorem all_true (n : Nat) : (List.range n).all (fun _ => true) = true := by rw [List.all_eq_true]; intro _ _; rfl

theorem eq_same (hl : s.heap.IsList l items) (hb : s.heap.IsList b items) (hu : A.units < cLine) (h : Q (.bool true) s) : wpAny (model prog w) A (compareOp .Eq (.ref l) (.ref b)) Q E s :=
  eq_listAt (e := fun _ => true) hl hb rfl hu (fun j _ _ => EqAt.same _) (by rw [all_true]; exact h)
theorem ne_same (hl : s.heap.IsList l items) (hb : s.heap.IsList b items) (hu : A.units < cLine) (h : Q (.bool false) s) : wpAny (model prog w) A (compareOp .NotEq (.ref l) (.ref b)) Q E s :=
  RcNeAt.lists (e := fun _ => true) hl hb rfl hu (fun j _ _ => EqAt.same _) prog w E Q (by rw [all_true]; exact h)
theorem ne_sizes (hl : s.heap.IsList l items) (hb : s.heap.IsList b items2) (hsz : items.size ≠ items2.size) (hu : A.units < cLine) (h : Q (.bool true) s) : wpAny (model prog w) A (compareOp .NotEq (.ref l) (.ref b)) Q E s :=
  RcNeAt.lists_lengths hl hb (by simpa using hsz) hu prog w E Q h
/-- a list beside the empty one -/
theorem ne_nil {xs : List Value} (hl : s.heap.IsList l xs.toArray) (hb : s.heap.IsList b #[]) (hu : A.units < cLine) (h : Q (.bool (!xs.isEmpty)) s) : wpAny (model prog w) A (compareOp .NotEq (.ref l) (.ref b)) Q E s := by
  cases xs with
  | nil => exact ne_same hl hb hu h
  | cons x xs => exact ne_sizes hl hb (by simp) hu h
theorem eq_nil {xs : List Value} (hl : s.heap.IsList l xs.toArray) (hb : s.heap.IsList b #[]) (hu : A.units < cLine) (h : Q (.bool xs.isEmpty) s) : wpAny (model prog w) A (compareOp .Eq (.ref l) (.ref b)) Q E s := by
  cases xs with
  | nil => exact eq_same hl hb hu h
  | cons x xs => exact eq_list_lengthsAt hl hb (by simp) hu h
end

section
variable {A : Around} {s : Shared}
theorem entry_set_eq : entryFor table "set.__eq__" = some Builtin.«frozenset.__eq__» := entryFor_alias (id' := "frozenset.__eq__") (by kernel_rfl) rfl (by decide +kernel) (by kernel_rfl)
theorem sub_set_frozen : isSubtype (.type "set") (.type "frozenset") = pure false := by rw [isSubtype_type]; kernel_rfl

theorem setOf_world {p p' : Program} {w w' : World} {h : Heap} {a : Addr} {S : Int → Bool} {n : Nat} (x : h.SetOf (intKind p w) a S n) : h.SetOf (intKind p' w') a S n := by
  obtain ⟨o, es, ep, t, ho, hex, hd, hel, hmem, hb, hf, hn⟩ := x
  exact ⟨o, es, ep, t, ho, hex, hd, elemsOf_transport (knd := intKind p w) (knd' := intKind p' w') hel rfl rfl, hmem, hb, hf, hn⟩

theorem set_rc {p : Program} {w : World} {a b : Addr} {S S' : Int → Bool} {n n' : Nat} (hA : s.heap.SetOf (intKind p w) a S n) (hB : s.heap.SetOf (intKind p w) b S' n') (hu : A.units < cLine) : ∃ r, RcAt A s (.ref a) (.ref b) r := by
  by_cases hn : n = n'
  · refine ⟨@decide (∀ k, S k = true → S' k = true) (Classical.propDecidable _), fun prog w' E Q h => ?_⟩
    have hA' := setOf_world (p' := prog) (w' := w') hA
    have hB' := setOf_world (p' := prog) (w' := w') hB
    refine wpAny_richCompare_same_room (op := .Eq) hA'.typeIs hB'.typeIs F.slot_set_eq (wpAny_call_entry F.slot_set_eq hA'.typeIs entry_set_eq ?_ (F.args_set_eq_2 _ _)) hu
    unfold Builtin.«frozenset.__eq__»
    refine wpAny_bind (wpAny_pure ?_)
    refine wpAny_bind (isAnySet_set hB' ?_)
    simp only [Bool.not_true, Bool.false_eq_true, if_false]
    refine wpAny_bind (wpAny_pure (wpAny_bind (wpAny_pure ?_)))
    refine wpAny_bind (sizeOf_set hA' (wpAny_bind (sizeOf_set hB' ?_)))
    refine wpAny_bind ?_
    rw [if_neg (by simp [hn])]
    refine wpAny_bind ?_
    refine wpAny_bind (wpAny_isInstance hA'.typeIs sub_set_frozen (wpAny_pure ?_))
    simp only [Bool.false_eq_true, if_false]
    refine subsetOf_set hA' hB' (by omega) fun r hr => ?_
    have e : r = @decide (∀ k, S k = true → S' k = true) (Classical.propDecidable _) := by
      rw [Bool.eq_iff_iff, hr]; simp
    exact wpAny_pure ⟨_, rfl, (fun x => nomatch x), e ▸ h⟩
  · refine ⟨false, fun prog w' E Q h => ?_⟩
    have hA' := setOf_world (p' := prog) (w' := w') hA
    have hB' := setOf_world (p' := prog) (w' := w') hB
    refine wpAny_richCompare_same_room (op := .Eq) hA'.typeIs hB'.typeIs F.slot_set_eq (wpAny_call_entry F.slot_set_eq hA'.typeIs entry_set_eq ?_ (F.args_set_eq_2 _ _)) hu
    unfold Builtin.«frozenset.__eq__»
    refine wpAny_bind (wpAny_pure ?_)
    refine wpAny_bind (isAnySet_set hB' ?_)
    simp only [Bool.not_true, Bool.false_eq_true, if_false]
    refine wpAny_bind (wpAny_pure (wpAny_bind (wpAny_pure ?_)))
    refine wpAny_bind (sizeOf_set hA' (wpAny_bind (sizeOf_set hB' ?_)))
    refine wpAny_bind ?_
    rw [if_pos (by simp [hn])]
    exact wpAny_pure (wpAny_pure ⟨_, rfl, (fun x => nomatch x), h⟩)

theorem set_eqAt {p : Program} {w : World} {a b : Addr} {S S' : Int → Bool} {n n' : Nat} (hA : s.heap.SetOf (intKind p w) a S n) (hB : s.heap.SetOf (intKind p w) b S' n') (hu : A.units < cLine) : ∃ r, EqAt A s (.ref a) (.ref b) r := by
  by_cases e : a = b
  · subst e; exact ⟨true, EqAt.same _⟩
  · obtain ⟨r, h⟩ := set_rc hA hB hu
    exact ⟨r, EqAt.of_refs e h⟩

theorem ints_all : ∀ {vs us : List Value} {ns ms : List Int}, IntsAre vs ns → IntsAre us ms → ∀ j (h1 : j < vs.toArray.size) (h2 : j < us.toArray.size), EqAt A s vs.toArray[j] us.toArray[j] (ns.getD j 0 == ms.getD j 0) := by
  intro vs us ns ms hi hj j h1 h2
  simp only [List.size_toArray] at h1 h2
  obtain ⟨t, e1⟩ := PyProof.Rows.IntsAre.int_at hi j vs[j] (List.getElem?_eq_getElem h1)
  obtain ⟨u, e2⟩ := PyProof.Rows.IntsAre.int_at hj j us[j] (List.getElem?_eq_getElem h2)
  simp only [List.getElem_toArray, e1, e2]
  exact EqAt.int_int _ _ _ _

theorem row_eqAt {a b : Addr} {vs us : List Value} {ns ms : List Int} (hl : IsTup s.heap a vs.toArray) (hi : IntsAre vs ns) (hb : IsTup s.heap b us.toArray) (hj : IntsAre us ms) (hne : ns ≠ ms) (hu : A.units < cLine) : EqAt A s (.ref a) (.ref b) false := by
  by_cases e : a = b
  · subst e
    obtain ⟨o, ho, _, n, hd⟩ := hl
    obtain ⟨o', ho', _, n', hd'⟩ := hb
    rw [ho] at ho'; cases ho'
    rw [hd] at hd'
    have e1 : vs = us := by simpa using congrArg (fun d => match d with | Data.seq x _ => x.toList | _ => []) hd'
    subst e1
    exact absurd ((PyProof.Rows.IntsAre.nums hi).symm.trans (PyProof.Rows.IntsAre.nums hj)) hne
  · refine EqAt.of_refs e ?_
    have h := RcAt.tuples (A := A) (s := s) (l := a) (b := b) (items := vs.toArray) (items2 := us.toArray) (e := fun j => ns.getD j 0 == ms.getD j 0) hl hb hu (ints_all hi hj)
    have l1 := PyProof.Rows.IntsAre.length hi
    have l2 := PyProof.Rows.IntsAre.length hj
    have hf : ((List.range (min vs.toArray.size us.toArray.size)).all (fun j => ns.getD j 0 == ms.getD j 0) && vs.toArray.size == us.toArray.size) = false := by
      cases hq : ((List.range (min vs.toArray.size us.toArray.size)).all (fun j => ns.getD j 0 == ms.getD j 0) && vs.toArray.size == us.toArray.size) with
      | false => rfl
      | true =>
        exfalso
        simp only [Bool.and_eq_true, List.all_eq_true, List.mem_range, beq_iff_eq, List.size_toArray] at hq
        obtain ⟨q1, q2⟩ := hq
        apply hne
        apply List.ext_getElem (by omega)
        intro i h1 h2
        have := q1 i (by omega)
        rw [List.getD_eq_getElem?_getD, List.getD_eq_getElem?_getD, List.getElem?_eq_getElem h1, List.getElem?_eq_getElem h2] at this
        exact this
    rw [hf] at h
    exact h

theorem card_eqAt {w : World} {v u : Value} {c d : Crd} (hc : CardAt w s.heap v c) (hd : CardAt w s.heap u d) (hne : v ≠ u → c.row ≠ d.row) (hu : A.units + 4 < cLine) : EqAt A s v u (decide (v = u)) := by
  by_cases e : v = u
  · subst e; rw [decide_eq_true rfl]; exact EqAt.same _
  · rw [decide_eq_false e]
    have hr := hne e
    obtain ⟨a, rv, sv, t, rfl, hT, ⟨ra, rvs, rfl, hR, hI⟩, ⟨sa, rfl, hS⟩⟩ := hc
    obtain ⟨b, rv', sv', t', rfl, hT', ⟨ra', rvs', rfl, hR', hI'⟩, ⟨sa', rfl, hS'⟩⟩ := hd
    have hab : a ≠ b := fun q => e (by rw [q])
    refine EqAt.of_refs hab ?_
    obtain ⟨r, hset⟩ := set_eqAt (A := A.in1) hS hS' (by show A.units + 1 < cLine; omega)
    have h := RcAt.tuples (A := A) (s := s) (l := a) (b := b) (e := fun j => if j = 0 then false else if j = 1 then r else c.val == d.val) hT hT' (by omega) (fun j h1 h2 => by
      have h3 : j < 3 := h1
      rcases j with _ | _ | _ | j
      · exact row_eqAt hR hI hR' hI' hr (by show A.units + 1 < cLine; omega)
      · exact hset
      · exact EqAt.int_int _ _ _ _
      · omega)
    exact h

theorem in_cards {prog : Program} {w : World} {E : Value → Shared → Prop} {l : Addr} {zs : List (Value × Crd)} {z : Value × Crd} {Q : Value → Shared → Prop} (hl : s.heap.IsList l (zs.map (·.1)).toArray) (hcs : ∀ p ∈ zs, CardAt w s.heap p.1 p.2) (hz : CardAt w s.heap z.1 z.2)
    (hne : ∀ y ∈ zs, y.1 ≠ z.1 → y.2.row ≠ z.2.row) (hu : A.units + 8 < cLine) (h : Q (.bool (zs.any fun y => decide (y.1 = z.1))) s) : wpAny (model prog w) A (compareOp .In z.1 (.ref l)) Q E s := by
  refine in_listAt (fun v => decide (v = z.1)) hl (fun v hv => ?_) ?_
  · obtain ⟨y, hy, rfl⟩ := List.mem_map.mp (by simpa using hv : v ∈ zs.map (·.1))
    exact card_eqAt (hcs y hy) hz (hne y hy) (by show A.units + 1 + 4 < cLine; omega)
  · have e : (zs.map (·.1)).toArray.any (fun v => decide (v = z.1)) = zs.any fun y => decide (y.1 = z.1) := by simp; rfl
    rw [e]; exact h
end
end
-- C6
local macro_rules | `(tactic| walk_at "mine back") => `(tactic| (intro t9 h9 tk9 hK9; (rename Fr _ _ _ _ => F8); (rename News _ _ _ _ => N8); (have F9 := Fr.keeps F8 hK9); (have N9 := News.grown N8 hK9); (clear F8 N8); (try dsimp only)))
local macro_rules | `(tactic| walk_at "mine enterC") => `(tactic| (refine wpAny_call ?_; refine' enter_cells (by assumption) (by assumption) (by assumption) (by assumption) rfl rfl (by assumption) ?k6 ?k7 ?k8 ?k9 ?kB ?kD ?_ ?c2 ?c3 ?c4; (case k6 => k_is); (case k7 => k_is); (case k8 => exact Nat.le_of_ble_eq_true rfl); (case k9 => exact BindsTo.of_eq rfl); (case kB => exact rfl); (case kD => decide +kernel); (case c2 => exact rfl); (case c3 => exact rfl); (case c4 => exact rfl); intro h₁ tk₁ cells' F' N' Y' B' X' T'; k_cells Y'; (try simp only [List.cons_append, List.nil_append] at N'); (try dsimp only); (try k_fold)))
/-- those that the family meets -/
def metF (fs os : List (Value × Crd)) (τ : Int) : List (Value × Crd) := os.filter fun o => fs.any fun f => setCmp o.2.row f.2.row == τ

theorem filt_yes {fs : List (Value × Crd)} {q : Value × Crd → Bool} {i : Nat} (hi : i < fs.length) (hb : q fs[i] = true) : ((fs.take (i + 1)).filter q).map (·.1) = ((fs.take i).filter q).map (·.1) ++ [fs[i].1] := by
  rw [List.take_add_one, List.getElem?_eq_getElem hi, List.filter_append, List.map_append, Option.toList_some, List.filter_cons_of_pos hb, List.filter_nil, List.map_singleton]
theorem filt_no {fs : List (Value × Crd)} {q : Value × Crd → Bool} {i : Nat} (hi : i < fs.length) (hb : q fs[i] = false) : ((fs.take (i + 1)).filter q).map (·.1) = ((fs.take i).filter q).map (·.1) := by
  rw [List.take_add_one, List.getElem?_eq_getElem hi, List.filter_append, List.map_append, Option.toList_some, List.filter_cons_of_neg (by simp [hb]), List.filter_nil, List.map_nil, List.append_nil]
theorem filt_any (fs : List (Value × Crd)) (q : Value × Crd → Bool) : (!((fs.filter q).map (·.1)).isEmpty) = fs.any q := by
  induction fs with
  | nil => rfl
  | cons f fs ih => by_cases h : q f = true <;> simp_all

theorem met_spec {w : World} {p : Program} {loose : List Str} {mean : ExcName → Option Value} {mg mb : Str → Option Value} {gd : Option (List Code)} {cn : Str} {cs : Scope} {a : Addr} {ccd : Value} {cl : List (Str × Addr)} {outer : List Env}
    {A₀ : Around} {base h₀ : Heap} {L : Addr} {m : Str → Option Value} {s : Shared} {Q E : Value → Shared → Prop} {fa oa : Addr} {fs os : List (Value × Crd)} {τ : Int} {t : Tok}
    (B : Below A₀ base outer h₀) (F : Fr h₀ L s.heap m) (X : (KK w).In h₀) (T : Top p loose mean mg mb h₀) (hck : cs.kind = .function)
    (hfa : s.heap.IsList fa (fs.map (·.1)).toArray) (hoa : s.heap.IsList oa (os.map (·.1)).toArray) (hfs : ∀ p ∈ fs, CardAt w s.heap p.1 p.2) (hos : ∀ p ∈ os, CardAt w s.heap p.1 p.2) (lf : fs.length < 1000) (lo : os.length < 1000)
    (ret : ∀ D n h' tk', Keeps s.heap h' → s.heap.get? D = none → h'.get? D = some (listOf ((metF fs os τ).map (·.1)).toArray n) → Q (.ref D) { s with heap := h', toks := tk' }) :
    wpAny (model PR w) (Lv 500 500 gd cn cs L a ccd cl outer) (call (.ref 71) [.ref fa, .ref oa, .int τ t]) Q E s := by
  w_top off
  walk_at "mine fill"
  walk_at "mine enterC"
  refine wpAny_execs_cons ?_
  refine wpAny_Return_some ?_
  refine ListComp_cell (β := Crd) (by assumption) (by assumption) rfl (by with_unfolding_all rfl) (fun _ => rfl) (fun _ => rfl) rfl (by decide) (fun _ _ => rfl) (by decide) ?_
  walk1
  rename_i F1 _ _ _ _ _ _ _ N1
  refine ⟨oa, os, fun o => fs.any fun f => setCmp o.2.row f.2.row == τ, rfl, hoa, by rw [sizeLine_eq]; omega, by assumption, by assumption, ?_, ?_⟩
  · intro z I oI C oC cx oc D oD h tk E' hz hdc F2 N2 off2
    obtain ⟨a1, rv1, sv1, t1, e1, hT1, hR1, ⟨sa1, rfl, hS1⟩⟩ := hos z hz
    rw [e1] at hdc
    walk1
    walk1
    refine LCt.ListComp_T F2 (by with_unfolding_all rfl) (by decide) rfl (by decide) rfl ?_
    walk1
    refine LCt.CompSrcT.base rfl (by assumption) (by assumption) hfa (by rw [sizeLine_eq]; simp; omega) fun g => ?_
    refine restT_ind (fun i ys nw => nw = ((I, oI) :: (C, oC) :: (cx, oc) :: (D, oD) :: _) ∧ ys = ((fs.take i).filter fun f => setCmp z.2.row f.2.row == τ).map (·.1)) ?_ ?_ _ 0 [] _ (Nat.zero_add _) ⟨rfl, rfl⟩
    · rintro i ys nw y I2 oI2 C2 oC2 D2 m2 h2 tk2 E2 hi ⟨rfl, rfl⟩ hP hoC2 hm2 F3 N3 off3 hne3
      have hi' : i < fs.length := by simpa using hi
      have hy : y = fs[i].1 := by simpa [hi'] using hP.symm
      obtain ⟨a2, rv2, sv2, t2, e2, hT2, hR2, ⟨sa2, rfl, hS2⟩⟩ := hfs fs[i] (List.getElem_mem hi')
      rw [hy, e2] at hm2
      have hv : setCmp z.2.row fs[i].2.row = setCmp z.2.row fs[i].2.row := rfl
      k_steps
      refine CT.of (fun hb => ?_) fun hb => ?_
      · k_steps
        refine CE.intro _ (by assumption) (by assumption) (by k_allIn) off3 (.inl hfa) ⟨rfl, ?_⟩
        rw [filt_yes hi' hb, e2]
      · refine CE.intro _ (by assumption) (by assumption) (by k_allIn) off3 (.inl hfa) ⟨rfl, ?_⟩
        rw [filt_no hi' hb]
    · rintro ys nw ⟨rfl, rfl⟩ D2 h2 tk2 F3 N3 off3
      k_steps
      rename_i N5 _
      refine ne_nil ⟨_, (N5 _ (.tail _ (.head _))).1, rfl, _, rfl⟩ ⟨_, (N5 _ (.head _)).1, rfl, _, rfl⟩ (Nat.le_of_ble_eq_true rfl) ?_
      k_steps
      refine TestPost.intro ?_ (by assumption) (by assumption) (by k_allIn)
      have el : (fs.map (·.1)).toArray.size = fs.length := by simp
      rw [el, List.take_length]
      exact filt_any _ _
  · intro D n h tk F3 N3 off3
    refine ret D n _ _ F3.keep (N3 _ (.head _)).2.2 (N3 _ (.head _)).1
-- Comp2
section
open PySem.Spec LCg
theorem turn_outer (elt t1 i1 t2 i2 c : Expr) (scope : Scope) (pos : Pos) (it acc : Value) (env : Env) :
    compTurn (.ListComp elt [⟨t1, i1, [], 0⟩, ⟨t2, i2, [c], 0⟩] scope pos) 0 it acc env = (do
      standAt i1.pos
      match ← pyNext it with
      | none => pure (.done .next)
      | some v =>
        letOwnedTupleGo t1 it v
        assign t1 env v
        let x ← eval i2 env
        standAt i2.pos
        let x ← foldedSetIterable i2 env x
        let _ ← runOwn (.compStart (.ListComp elt [⟨t1, i1, [], 0⟩, ⟨t2, i2, [c], 0⟩] scope pos) 1 (← holding [x] (pyIter x)) acc env) env
        again (.compLoop (.ListComp elt [⟨t1, i1, [], 0⟩, ⟨t2, i2, [c], 0⟩] scope pos) 0 it acc env)) := by rfl
theorem turn_inner (elt t1 i1 t2 i2 c : Expr) (scope : Scope) (pos : Pos) (it acc : Value) (env : Env) :
    compTurn (.ListComp elt [⟨t1, i1, [], 0⟩, ⟨t2, i2, [c], 0⟩] scope pos) 1 it acc env = (do
      standAt i2.pos
      match ← pyNext it with
      | none => pure (.done .next)
      | some v =>
        letOwnedTupleGo t2 it v
        assign t2 env v
        let mut ok := true
        for c in [c] do
          if ok then ok ← isTrue c env (eval c env)
        if ok then
          (do let _ ← call (.builtin "list.append") [acc, ← eval elt env])
        again (.compLoop (.ListComp elt [⟨t1, i1, [], 0⟩, ⟨t2, i2, [c], 0⟩] scope pos) 1 it acc env)) := by rfl
section
variable {prog : Program} {w : World} {A : Around} {E : Value → Shared → Prop} {R : Result → Shared → Prop} {s : Shared} {h₀ : Heap} {L : Addr} {m : Str → Option Value} {env : Env}

theorem inner_none {elt t1 i1 i2 ct : Expr} {y : Str} {py : Pos} {scope : Scope} {pos : Pos} {acc : Value} {cenv : Env} {J bx C : Addr} {us : List Value} {m1 : Str → Option Value} {led : List (Addr × Obj)}
    (hh : A.handled = none) (hC : cenv.locals = C) (hyk : cenv.kindOf y = some .local) (hp : (cenv.scope.kind == .class || (cenv.scope.kind == .module && cenv.locals != cenv.globals)) = false)
    (hJL : @Ne Addr L J) (hJC : @Ne Addr C J) (hCL : @Ne Addr L C) (hJ0 : h₀.get? J = none) (hC0 : h₀.get? C = none) (off : ∀ p ∈ led, @Ne Addr p.1 J ∧ @Ne Addr p.1 C) (hb : h₀.IsList bx us.toArray)
    (F : Fr h₀ L s.heap m) (N : News h₀ L s.heap led) (hns : s.heap.Ns C m1) (hit : s.heap.IsListIter J bx 0)
    (turn : ∀ (j : Nat) (u : Value) (oC : Obj) (m₂ : Str → Option Value) (h : Heap) (tk : Nat) (oJ : Obj) (E' : Value → Shared → Prop), us[j]? = some u → NsObj oC m₂ → (∀ z, z ≠ y → m₂ z = m1 z) → m₂ y = some u → Fr h₀ L h m → News h₀ L h ((J, oJ) :: (C, oC) :: led) →
      wpAny (model prog w) A (isTrue ct cenv (eval ct cenv)) (TestPost h₀ L m ((J, oJ) :: (C, oC) :: led) s false) E' { s with heap := h, toks := tk })
    (hR : ∀ h tk m₂, Fr h₀ L h m → News h₀ L h led → h.Ns C m₂ → R (.ok .next) { s with heap := h, toks := tk }) :
    codeAny (model prog w) A (.compLoop (.ListComp elt [⟨t1, i1, [], 0⟩, ⟨.Name y py, i2, [ct], 0⟩] scope pos) 1 (.ref J) acc cenv) R s := by
  subst hC
  refine codeAny_loop rfl (fun k s' => ∃ (h' : Heap) (tk j : Nat) (m' : Str → Option Value), s' = { s with heap := h', toks := tk } ∧ j ≤ us.length ∧ k = us.length + 1 - j ∧ Fr h₀ L h' m ∧ News h₀ L h' led ∧ h'.IsListIter J bx j ∧ h'.Ns cenv.locals m' ∧ ∀ z, z ≠ y → m' z = m1 z) ?_ (us.length + 1)
    ⟨s.heap, s.toks, 0, m1, rfl, Nat.zero_le _, rfl, F, N, hit, hns, fun _ _ => rfl⟩
  rintro k s' ⟨h', tk, j, m', rfl, hj, rfl, F', N', hit', hns', hm'⟩
  show wpAny _ A ((compTurn (.ListComp elt [⟨t1, i1, [], 0⟩, ⟨.Name y py, i2, [ct], 0⟩] scope pos) 1 (.ref J) acc cenv).onRaise (fun x => do noteFrame x cenv; theTreesLotGoes x)) _ _ _
  refine wpAny_noted ?_
  rw [turn_inner]
  have hl' : h'.IsList bx us.toArray := hb.at fun o e => F'.keep _ o e
  refine wpAny_bind (wpAny_standAt (wpAny_bind ?_))
  by_cases hlt : j < us.length
  · refine wpAny_pyNext_list_item hit' hl' (x := us[j]) (by simp [hlt]) fun h₁ hit₁ hs₁ => ?_
    refine wpAny_bind (wpAny_of_eq rfl (wpAny_bind ?_))
    refine wpAny_assign_Name (wpAny_storeName_local hyk (hns'.sameBut hs₁ hJC) (fun h₂ hns₂ hs₂ => ?_) hp)
    have F₂ : Fr h₀ L h₂ m := fr_at (fr_at F' hs₁ hJ0 hJL) hs₂ hC0 hCL
    have N₂ : News h₀ L h₂ led := news_at (news_at N' hs₁ fun q hq => (off q hq).1) hs₂ fun q hq => (off q hq).2
    have hit₂ : h₂.IsListIter J bx (j + 1) := hit₁.at fun o e => sameBut_at hs₂ (Ne.symm hJC) e
    obtain ⟨oJ, hoJ, rJ⟩ := _root_.id hit₂
    obtain ⟨oC, hoC, rC⟩ := ns_obj hns₂
    refine wpAny_bind (wpAny_tests_one (wpAny_mono (turn j us[j] oC _ h₂ _ oJ _ (List.getElem?_eq_getElem hlt) rC (fun z hz => (if_neg hz).trans (hm' z hz)) (by simp) F₂ fun q hq => ?_) (fun ok s₄ h₄ => ?_) fun _ _ e => e))
    · rcases List.mem_cons.mp hq with rfl | hq
      · exact ⟨hoJ, Ne.symm hJL, hJ0⟩
      · rcases List.mem_cons.mp hq with rfl | hq
        · exact ⟨hoC, Ne.symm hCL, hC0⟩
        · exact N₂ q hq
    · obtain ⟨rfl, h₃, tk₃, rfl, F₃, N₃⟩ := h₄
      refine wpAny_pure ⟨rfl, us.length + 1 - (j + 1), by omega, h₃, tk₃, j + 1, _, rfl, hlt, rfl, F₃, fun q hq => N₃ q (.tail _ (.tail _ hq)), ⟨oJ, (N₃ _ (.head _)).1, rJ⟩, rC.ns (N₃ _ (.tail _ (.head _))).1, fun z hz => (if_neg hz).trans (hm' z hz)⟩
  · have hin : j = us.length := by omega
    subst hin
    refine wpAny_pyNext_list_end hh hit' hl' (by simp) fun h₁ he₁ => ?_
    refine wpAny_pure (hR h₁ tk m' ⟨F'.ns.at' fun o e => he₁ _ o hJL e, fun b o e => he₁ b o (fun q => by rw [q, hJ0] at e; cases e) (F'.keep b o e), F'.above⟩ (fun q hq => ⟨he₁ _ _ (off q hq).1 (N' q hq).1, (N' q hq).2⟩) (hns'.at' fun o e => he₁ _ o hJC e))

theorem start_inner {elt t1 i1 t2 i2 ct scope pos it acc env}
    (h0 : codeAny (model prog w) A (.compLoop (.ListComp elt [⟨t1, i1, [], 0⟩, ⟨t2, i2, [ct], 0⟩] scope pos) 1 it acc env) R s)
    (h : wpAny (model prog w) A (pyIter it) (fun it' s' => codeAny (model prog w) A (.compLoop (.ListComp elt [⟨t1, i1, [], 0⟩, ⟨t2, i2, [ct], 0⟩] scope pos) 1 it' acc env) R s')
      (notedBy (model prog w) A env fun x s' => R (.error x) s') s) :
    codeAny (model prog w) A (.compStart (.ListComp elt [⟨t1, i1, [], 0⟩, ⟨t2, i2, [ct], 0⟩] scope pos) 1 it acc env) R s := by
  refine codeAny_of_tree ?_
  show wpAny _ _ ((compStart (.ListComp elt [⟨t1, i1, [], 0⟩, ⟨t2, i2, [ct], 0⟩] scope pos) 1 it acc env).onRaise (fun x => do noteFrame x env; standAt theWindowsPlace)) _ _ s
  refine wpAny_notedAt ?_
  unfold compStart
  show wpAny _ _ (ask >>= _) _ _ s
  refine wpAny_bind (wpAny_askSetting (wpAny_ite ?_))
  split
  · first
      | exact wpAny_bind (wpAny_pure (wpAny_pure (And.intro rfl h0)))
      | exact wpAny_pure (And.intro rfl h0)
  · first
      | exact wpAny_bind (wpAny_rule (wpAny_bind (wpAny_standAt (wpAny_bind (wpAny_mono h (fun it' s' h' => wpAny_pure (And.intro rfl h')) fun _ _ x => x)))))
      | (refine wpAny_bind (wpAny_rule ?_); show wpAny _ _ (standAt i2.pos >>= _) _ _ s; exact wpAny_bind (wpAny_standAt (wpAny_bind (wpAny_mono h (fun it' s' h' => wpAny_pure (And.intro rfl h')) fun _ _ x => x))))

theorem Assign_Comp2_none {elt i1 i2 ct : Expr} {x y o : Str} {px py po : Pos} {scope : Scope} {cl : List (Str × Addr)} {pos spos : Pos} {Q : Flow → Shared → Prop} {news : List (Addr × Obj)} (F₀ : Fr h₀ L s.heap m) (N₀ : News h₀ L s.heap news) (hh : A.handled = none) (hLe : env.locals = L)
    (hsw : swapsWith (.ListComp elt [⟨.Name x px, i1, [], 0⟩, ⟨.Name y py, i2, [ct], 0⟩] scope pos) (some (.Name o po)) spos.line env = pure true)
    (hclos : closureFor scope env = pure cl) (hcell : ∀ z ∈ scope.names, z.2 ≠ .cell) (hkind : scope.kind = .function)
    (hnames : ∀ z ∈ scope.names, z.2 = .local → scope.names.lookup z.1 = some .local) (hx : scope.names.lookup x = some .local) (hy : scope.names.lookup y = some .local) (hxy : x ≠ y)
    (ho : env.kindOf o = some .local) (hp : (env.scope.kind == .class || (env.scope.kind == .module && env.locals != env.globals)) = false)
    (h : wpAny (model prog w) A (eval i1 env) (fun xv s₁ => ∃ (ax bx : Addr) (zs us : List Value), xv = .ref ax ∧ h₀.IsList ax zs.toArray ∧ h₀.IsList bx us.toArray ∧ Fr h₀ L s₁.heap m ∧ News h₀ L s₁.heap news ∧
      (∀ (I : Addr) (oI : Obj) (C : Addr) (oC : Obj) (D : Addr) (oD : Obj) (m₂ : Str → Option Value) (h : Heap) (tk : Nat) (E' : Value → Shared → Prop), NsObj oC m₂ → Fr h₀ L h m → News h₀ L h ((I, oI) :: (C, oC) :: (D, oD) :: news) →
        wpAny (model prog w) A (eval i2 (compEnvC scope cl C env)) (TestPost h₀ L m ((I, oI) :: (C, oC) :: (D, oD) :: news) s₁ (Value.ref bx)) E' { s₁ with heap := h, toks := tk }) ∧
      (∀ (i j : Nat) (v u : Value) (I : Addr) (oI : Obj) (J : Addr) (oJ : Obj) (C : Addr) (oC : Obj) (D : Addr) (oD : Obj) (m₂ : Str → Option Value) (h : Heap) (tk : Nat) (E' : Value → Shared → Prop), zs[i]? = some v → us[j]? = some u → NsObj oC m₂ → m₂ x = some v → m₂ y = some u → Fr h₀ L h m → News h₀ L h ((J, oJ) :: (C, oC) :: (I, oI) :: (D, oD) :: news) →
        wpAny (model prog w) A (isTrue ct (compEnvC scope cl C env) (eval ct (compEnvC scope cl C env))) (TestPost h₀ L m ((J, oJ) :: (C, oC) :: (I, oI) :: (D, oD) :: news) s₁ false) E' { s₁ with heap := h, toks := tk }) ∧
      (∀ D h' tk, Fr h₀ L h' (fun z => if z = o then some (.ref D) else m z) → News h₀ L h' ((D, lst []) :: news) → Off1 D news → Q .next { s₁ with heap := h', toks := tk })) E s)
    (hs : ∀ x, foldedSetIterable i1 env x = pure x := by intro _; rfl) (hs2 : ∀ C x, foldedSetIterable i2 (compEnvC scope cl C env) x = pure x := by intro _ _; rfl) :
    wpAny (model prog w) A (exec (.Assign [.Name o po] (.ListComp elt [⟨.Name x px, i1, [], 0⟩, ⟨.Name y py, i2, [ct], 0⟩] scope pos) spos) env) Q E s := by
  subst hLe
  rw [exec_Assign_Name_used _ _ _ _ hsw]
  refine wpAny_bind (wpAny_standAt (wpAny_bind ?_))
  show wpAny _ A (do let _ ← comprehension (.ListComp elt [⟨.Name x px, i1, [], 0⟩, ⟨.Name y py, i2, [ct], 0⟩] scope pos) scope env _ (newList []) false (eval i1 env) (some (assign (.Name o po) env))) _ _ s
  refine wpAny_bind (wpAny_mono (wpAny_comprehension_free (use := some (assign (.Name o po) env)) (Q := fun _ s' => Q .next s') rfl hs hclos hkind hnames
    (wpAny_mono h (fun xv s₁ h₁ => ?_) fun _ _ e => e)) (fun _ s' hq => wpAny_pure (wpAny_pure hq)) fun _ _ e => e)
  obtain ⟨ax, bx, zs, us, rfl, hl₀, hb₀, F, N, ev2, turn, fin⟩ := h₁
  have hl := hl₀.at fun o e => F.keep _ o e
  have hlt : @LT.lt Nat _ ax s₁.heap.objs.size := by obtain ⟨_, e, _⟩ := hl; exact ltA e
  refine wpAny_pyIter_list hl ?_
  refine wpAny_newObj_type (wpAny_newFunctionEnv hcell (by intro y hy; simp at hy) (fun h₁ hns₁ hsb₁ => ?_) hkind)
  dsimp only at hns₁ hsb₁ ⊢
  generalize hH1 : s₁.heap.push { cls := .type "list_iterator", data := .fields #[.ref ax, .int 0 0] } = H1 at hns₁ hsb₁ ⊢
  have e1 : H1.objs.size = s₁.heap.objs.size + 1 := by rw [← hH1, Heap.size_push]
  generalize hH2 : H1.push { cls := .type "list", dict := none, data := .seq ([] : List Value).toArray } = H2 at hns₁ hsb₁ ⊢
  have e2 : H2.objs.size = s₁.heap.objs.size + 2 := by rw [← hH2, Heap.size_push, e1]
  rw [e2] at hns₁ hsb₁
  rw [e1, e2]
  have z0 : @LE.le Nat _ h₀.objs.size s₁.heap.objs.size := Nat.le_trans F.above (Nat.le_of_lt (F.ns.lt))
  have fresh : ∀ a, @LE.le Nat _ s₁.heap.objs.size a → h₀.get? a = none := fun a ha => by
    cases e : h₀.get? a with
    | none => rfl
    | some o' => exact absurd (ltA (F.keep _ _ e)) (by omega)
  have hL : @LT.lt Nat _ env.locals s₁.heap.objs.size := F.ns.lt
  have nl : ∀ q ∈ news, @LT.lt Nat _ q.1 s₁.heap.objs.size := fun q hq => ltA (N q hq).1
  have old : ∀ b o, s₁.heap.get? b = some o → h₁.get? b = some o := fun b o e => sameBut_at hsb₁ (neA (by have := ltA e; omega)) (Heap.get?_push_of_some _ (hH2 ▸ Heap.get?_push_of_some _ (hH1 ▸ Heap.get?_push_of_some _ e)))
  have gI : h₁.get? s₁.heap.objs.size = some { cls := .type "list_iterator", data := .fields #[.ref ax, .int 0 0] } := sameBut_at hsb₁ (neA (by omega)) (Heap.get?_push_of_some _ (hH2 ▸ Heap.get?_push_of_some _ (hH1 ▸ Heap.get?_push_size _ rfl)))
  have gD : h₁.get? (s₁.heap.objs.size + 1) = some (lst []) := by
    have q : (H1.push { cls := .type "list", dict := none, data := .seq ([] : List Value).toArray }).get? H1.objs.size = some (lst []) := Heap.get?_push_size _ rfl
    rw [hH2, e1] at q
    exact sameBut_at hsb₁ (neA (by omega)) (Heap.get?_push_of_some _ q)
  have ND : News h₀ env.locals h₁ ((s₁.heap.objs.size + 1, lst []) :: news) := fun q hq => by
    rcases List.mem_cons.mp hq with rfl | hq
    · exact ⟨gD, neA (by simp only; omega), fresh _ (by simp only; omega)⟩
    · exact ⟨old _ _ (N q hq).1, (N q hq).2⟩
  have hxk : ∀ z, scope.names.lookup z = some .local → (compEnvC scope cl (s₁.heap.objs.size + 2) env).kindOf z = some .local := fun z hz => lookup_relabel_local hz
  have hpc : ((compEnvC scope cl (s₁.heap.objs.size + 2) env).scope.kind == .class || ((compEnvC scope cl (s₁.heap.objs.size + 2) env).scope.kind == .module && (compEnvC scope cl (s₁.heap.objs.size + 2) env).locals != (compEnvC scope cl (s₁.heap.objs.size + 2) env).globals)) = false := by simp [compEnvC, relabel, hkind]
  have loop : ∀ s₃ : Shared, s₃ = { s₁ with heap := h₁, toks := s₁.toks + ([] : List (Str × Value)).length } →
      codeAny (model prog w) A (.compLoop (.ListComp elt [⟨.Name x px, i1, [], 0⟩, ⟨.Name y py, i2, [ct], 0⟩] scope pos) 0 (.ref s₁.heap.objs.size) (.ref (s₁.heap.objs.size + 1)) (compEnvC scope cl (s₁.heap.objs.size + 2) env))
        (compPost (model prog w) A E (some (assign (.Name o po) env)) (fun _ s' => Q .next s') (.ref (s₁.heap.objs.size + 1)) (s₁.heap.objs.size + 2)) s₃ := by
    rintro s₃ rfl
    refine codeAny_loop rfl (fun k s' => ∃ (h' : Heap) (tk i : Nat) (m' : Str → Option Value), s' = { s₁ with heap := h', toks := tk } ∧ i ≤ zs.length ∧ k = zs.length + 1 - i ∧ Fr h₀ env.locals h' m ∧ News h₀ env.locals h' ((s₁.heap.objs.size + 1, lst []) :: news) ∧ h'.IsListIter s₁.heap.objs.size ax i ∧ h'.Ns (s₁.heap.objs.size + 2) m') ?_ (zs.length + 1)
      ⟨h₁, _, 0, _, rfl, Nat.zero_le _, rfl, F.keeps old, ND, ⟨_, gI, rfl, rfl⟩, hns₁⟩
    rintro k s' ⟨h', tk, i, m', rfl, hi, rfl, F', N', hit', hns'⟩
    show wpAny _ A ((compTurn (.ListComp elt [⟨.Name x px, i1, [], 0⟩, ⟨.Name y py, i2, [ct], 0⟩] scope pos) 0 _ _ (compEnvC scope cl (s₁.heap.objs.size + 2) env)).onRaise (fun x => do noteFrame x (compEnvC scope cl (s₁.heap.objs.size + 2) env); theTreesLotGoes x)) _ _ _
    refine wpAny_noted ?_
    rw [turn_outer]
    have hl' : h'.IsList ax zs.toArray := hl₀.at fun o e => F'.keep _ o e
    refine wpAny_bind (wpAny_standAt (wpAny_bind ?_))
    have off' : ∀ q ∈ (s₁.heap.objs.size + 1, lst []) :: news, @Ne Addr q.1 s₁.heap.objs.size ∧ @Ne Addr q.1 (s₁.heap.objs.size + 2) := fun q hq => by
      rcases List.mem_cons.mp hq with rfl | hq
      · exact ⟨neA (by simp only; omega), neA (by simp only; omega)⟩
      · have := nl q hq; exact ⟨neA (by omega), neA (by omega)⟩
    by_cases hlt' : i < zs.length
    · refine wpAny_pyNext_list_item hit' hl' (x := zs[i]) (by simp [hlt']) fun h₁ hit₁ hs₁ => ?_
      refine wpAny_bind (wpAny_of_eq rfl (wpAny_bind ?_))
      refine wpAny_assign_Name (wpAny_storeName_local (hxk x hx) (hns'.sameBut hs₁ (neA (by show @LT.lt Nat _ _ _ ∨ _; omega))) (fun h₂ hns₂ hs₂ => ?_) hpc)
      have hs₂' : Heap.SameBut (s₁.heap.objs.size + 2) h₁ h₂ := hs₂
      have F₂ : Fr h₀ env.locals h₂ m := fr_at (fr_at F' hs₁ (fresh _ (by omega)) (neA (by omega))) hs₂' (fresh _ (by omega)) (neA (by omega))
      have N₂ : News h₀ env.locals h₂ ((s₁.heap.objs.size + 1, lst []) :: news) := news_at (news_at N' hs₁ fun q hq => (off' q hq).1) hs₂' fun q hq => (off' q hq).2
      have hit₂ : h₂.IsListIter s₁.heap.objs.size ax (i + 1) := hit₁.at fun o e => sameBut_at hs₂' (neA (by omega)) e
      obtain ⟨oI, hoI, rI⟩ := _root_.id hit₂
      obtain ⟨oC, hoC, rC⟩ := ns_obj hns₂
      have NN : News h₀ env.locals h₂ ((s₁.heap.objs.size, oI) :: (s₁.heap.objs.size + 2, oC) :: (s₁.heap.objs.size + 1, lst []) :: news) := fun q hq => by
        rcases List.mem_cons.mp hq with rfl | hq
        · exact ⟨hoI, neA (by simp only; omega), fresh _ (Nat.le_refl _)⟩
        · rcases List.mem_cons.mp hq with rfl | hq
          · exact ⟨hoC, neA (by simp only; omega), fresh _ (by simp only; omega)⟩
          · exact N₂ q hq
      refine wpAny_bind (wpAny_mono (ev2 _ oI _ oC _ _ _ h₂ _ _ rC F₂ NN) (fun xv s₄ h₄ => ?_) fun _ _ e => e)
      obtain ⟨rfl, h₃, tk₃, rfl, F₃, N₃⟩ := h₄
      refine wpAny_bind (wpAny_standAt (wpAny_bind (wpAny_of_eq (hs2 _ _) (wpAny_bind (wpAny_holding ?_)))))
      refine wpAny_pyIter_list (hb₀.at fun o e => F₃.keep _ o e) ?_
      refine wpAny_bind (wpAny_runOwn ?_)
      have hsz3 : @LT.lt Nat _ (s₁.heap.objs.size + 2) h₃.objs.size := ltA (N₃ _ (.tail _ (.head _))).1
      have F₄ := F₃.push (o := { cls := .type "list_iterator", data := .fields #[.ref bx, .int 0 0] })
      have N₄ : News h₀ env.locals (h₃.push { cls := .type "list_iterator", data := .fields #[.ref bx, .int 0 0] }) ((s₁.heap.objs.size, oI) :: (s₁.heap.objs.size + 1, lst []) :: news) := fun q hq => by
        have hq' : q ∈ (s₁.heap.objs.size, oI) :: (s₁.heap.objs.size + 2, oC) :: (s₁.heap.objs.size + 1, lst []) :: news := by
          rcases List.mem_cons.mp hq with rfl | hq
          · exact .head _
          · exact .tail _ (.tail _ hq)
        exact ⟨Heap.get?_push_of_some _ (N₃ q hq').1, (N₃ q hq').2⟩
      have inner : ∀ R' : Result → Shared → Prop, (∀ (h : Heap) (tk : Nat) (m₂ : Str → Option Value), Fr h₀ env.locals h m → News h₀ env.locals h ((s₁.heap.objs.size, oI) :: (s₁.heap.objs.size + 1, lst []) :: news) → h.Ns (s₁.heap.objs.size + 2) m₂ → R' (.ok .next) { s₁ with heap := h, toks := tk }) →
          codeAny (model prog w) A (.compLoop (.ListComp elt [⟨.Name x px, i1, [], 0⟩, ⟨.Name y py, i2, [ct], 0⟩] scope pos) 1 (.ref h₃.objs.size) (.ref (s₁.heap.objs.size + 1)) (compEnvC scope cl (s₁.heap.objs.size + 2) env)) R'
          { s₁ with heap := h₃.push { cls := .type "list_iterator", data := .fields #[.ref bx, .int 0 0] }, toks := tk₃ } := fun R' hR' => by
        refine inner_none (C := s₁.heap.objs.size + 2) (bx := bx) (us := us) (led := (s₁.heap.objs.size, oI) :: (s₁.heap.objs.size + 1, lst []) :: news) hh rfl (hxk y hy) hpc (neA (by omega)) (neA (by omega)) (neA (by omega)) (fresh _ (by omega)) (fresh _ (by omega)) (fun q hq => ?_) hb₀ F₄ N₄
          ((rC.ns (N₃ _ (.tail _ (.head _))).1).keeps fun b o e => Heap.get?_push_of_some _ e) ⟨_, Heap.get?_push_size _ rfl, rfl, rfl⟩ ?_ hR'
        · rcases List.mem_cons.mp hq with rfl | hq
          · exact ⟨neA (by simp only; omega), neA (by simp only; omega)⟩
          · rcases List.mem_cons.mp hq with rfl | hq
            · exact ⟨neA (by simp only; omega), neA (by simp only; omega)⟩
            · have := nl q hq; exact ⟨neA (by omega), neA (by omega)⟩
        · intro j u oC' m₂ h tk oJ E' hu hoC' hz hyu F₅ N₅
          exact turn i j zs[i] u _ oI _ oJ _ oC' _ _ m₂ h tk E' (List.getElem?_eq_getElem hlt') hu hoC' ((hz x hxy).trans (by simp)) hyu F₅ N₅
      refine start_inner (inner _ ?_) (wpAny_pyIter_listiter ⟨_, Heap.get?_push_size _ rfl, rfl, rfl⟩ (inner _ ?_))
      all_goals
        intro h tk m₂ F₅ N₅ hns₅
        exact wpAny_pure ⟨rfl, zs.length + 1 - (i + 1), by omega, h, tk, i + 1, m₂, rfl, hlt', rfl, F₅, fun q hq => N₅ q (.tail _ hq), ⟨oI, (N₅ _ (.head _)).1, rI⟩, hns₅⟩
    · have hin : i = zs.length := by omega
      subst hin
      refine wpAny_pyNext_list_end hh hit' hl' (by simp) fun h₁ he₁ => ?_
      refine wpAny_pure ?_
      have F₁ : Fr h₀ env.locals h₁ m := ⟨F'.ns.at' fun o e => he₁ _ o (neA (by omega)) e, fun b o e => he₁ b o (fun q => by rw [q, fresh _ (Nat.le_refl _)] at e; cases e) (F'.keep b o e), F'.above⟩
      have N₁ : News h₀ env.locals h₁ ((s₁.heap.objs.size + 1, lst []) :: news) := fun q hq => ⟨he₁ _ _ (off' q hq).1 (N' q hq).1, (N' q hq).2⟩
      show wpAny _ A (assign (.Name o po) env (.ref (s₁.heap.objs.size + 1))) _ _ _
      refine wpAny_assign_Name (wpAny_storeName_local ho F₁.ns (fun h₂ hn₂ hs₂ => ?_) hp)
      have hL₀ : h₀.get? env.locals = none := Heap.get?_none_of_le F₁.above
      have F₂ : Fr h₀ env.locals h₂ (fun z => if z = o then some (.ref (s₁.heap.objs.size + 1)) else m z) := ⟨hn₂, fun b o e => hs₂.extBut b o (fun q => by rw [q, hL₀] at e; cases e) (F₁.keep b o e), F₁.above⟩
      have hne : @Ne Addr (s₁.heap.objs.size + 2) env.locals := neA (by omega)
      refine ⟨m', (hns'.at' fun o e => he₁ _ o (neA (by omega)) e).sameBut hs₂ hne, fun h'' hs'' => ?_⟩
      have hs3 : Heap.SameBut (s₁.heap.objs.size + 2) h₂ h'' := hs''
      refine fin _ h'' _ (F₂.change hs3 hne (fresh _ (by omega))) (fun q hq => ⟨sameBut_at hs3 (off' q hq).2 (sameBut_at hs₂ (N₁ q hq).2.1 (N₁ q hq).1), (N₁ q hq).2⟩) ?_
      have : ∀ (l : List (Addr × Obj)), (∀ q ∈ l, @LT.lt Nat _ q.1 s₁.heap.objs.size) → Off1 (s₁.heap.objs.size + 1) l := fun l => by
        induction l with
        | nil => intro _; trivial
        | cons q l ih => intro hl; exact ⟨by have := hl q (.head _); show ¬ @Eq Nat _ _; omega, ih fun q hq => hl q (.tail _ hq)⟩
      exact this news nl
  exact codeAny_compStart_list (loop _ rfl) (wpAny_pyIter_listiter ⟨_, gI, rfl, rfl⟩ (loop _ rfl))
end
end
-- C7
theorem not_in (x z : Str) (h : z = ("0" : Str) ∨ z = x) : (!(["0", x] : List Str).any fun y => y == z) = false := by
  rcases h with rfl | rfl <;> simp
theorem plain_spec {w : World} {p : Program} {loose : List Str} {mean : ExcName → Option Value} {mg mb : Str → Option Value} {gd : Option (List Code)} {cn : Str} {cs : Scope} {a : Addr} {ccd : Value} {cl : List (Str × Addr)} {outer : List Env}
    {A₀ : Around} {base h₀ : Heap} {L : Addr} {m : Str → Option Value} {s : Shared} {Q E : Value → Shared → Prop} {fa oa : Addr} {fs os : List (Value × Crd)} {τ : Int} {t : Tok}
    (B : Below A₀ base outer h₀) (F : Fr h₀ L s.heap m) (X : (KK w).In h₀) (T : Top p loose mean mg mb h₀) (hck : cs.kind = .function)
    (hfa : s.heap.IsList fa (fs.map (·.1)).toArray) (hoa : s.heap.IsList oa (os.map (·.1)).toArray) (hfs : ∀ p ∈ fs, CardAt w s.heap p.1 p.2) (hos : ∀ p ∈ os, CardAt w s.heap p.1 p.2)
    (hτ : τ = 1 ∨ τ = -1) (hgood : ∀ z ∈ fs, ∀ y ∈ os, setCmp y.2.row z.2.row = 0 ∨ setCmp y.2.row z.2.row = τ)
    (ret : ∀ h' tk', Keeps s.heap h' → Q (.bool true) { s with heap := h', toks := tk' }) :
    wpAny (model PR w) (Lv 500 500 gd cn cs L a ccd cl outer) (call (.ref 95) [.ref fa, .ref oa, .int τ t]) Q E s := by
  w_top off
  walk_at "mine fill"
  walk_at "mine enterC"
  refine wpAny_execs_cons ?_
  refine Assign_Comp2_none (by assumption) (by assumption) rfl rfl (by with_unfolding_all rfl) (by with_unfolding_all rfl) (by decide) rfl (by decide) rfl rfl (by decide) rfl rfl ?_
  walk1
  refine ⟨fa, oa, fs.map (·.1), os.map (·.1), rfl, hfa, hoa, by assumption, by assumption, ?_, ?_, ?_⟩
  · intro I oI C oC D oD m2 h2 tk2 E2 hoC F2 N2
    k_steps
    refine TestPost.intro ?_ (by assumption) (by assumption) (by k_allIn)
    exact rfl
  · intro i j v u I oI J oJ C oC D oD m2 h2 tk2 E2 hv hu hoC hx hy F2 N2
    have hv' : (fs[i]?).map (·.1) = some v := by simpa using hv
    have hu' : (os[j]?).map (·.1) = some u := by simpa using hu
    obtain ⟨z, ez, rfl⟩ := Option.map_eq_some_iff.mp hv'
    obtain ⟨y, ey, rfl⟩ := Option.map_eq_some_iff.mp hu'
    have hz := List.mem_of_getElem? ez
    have hyy := List.mem_of_getElem? ey
    clear hv hu hv' hu' ez ey
    obtain ⟨a1, rv1, sv1, t1, e1, hT1, hR1, ⟨sa1, rfl, hS1⟩⟩ := hfs z hz
    obtain ⟨a2, rv2, sv2, t2, e2, hT2, hR2, ⟨sa2, rfl, hS2⟩⟩ := hos y hyy
    rw [e1] at hx
    rw [e2] at hy
    have hg := hgood z hz y hyy
    have hv : setCmp y.2.row z.2.row = setCmp y.2.row z.2.row := rfl
    k_steps
    refine TestPost.intro ?_ (by assumption) (by assumption) (by k_allIn)
    refine not_in _ _ ?_
    rcases hg with hg | hg
    · left; rw [hg]; decide +kernel
    · right; rw [hg]
  · intro D h2 tk2 F2 N2 off2
    k_steps
    exact ret _ _ (Fr.keep (by assumption))
-- C8
local macro_rules | `(tactic| walk_at "mine toMade") => `(tactic| repeat (fail_if_success (with_reducible rename NewPlain _ _ _ _ => q9)); (first | (k_unfold; (try dsimp only)) | walk1 | (dsimp only; walk1)))
local macro_rules | `(tactic| walk_at "mine toReturn") => `(tactic| repeat (fail_if_success (with_reducible show wpAny _ _ (exec (Stmt.Return _ _) _) _ _ _)); (first | (k_unfold; (try dsimp only)) | walk1 | (dsimp only; walk1)))
local macro_rules | `(tactic| walk_at "mine toRange") => `(tactic| repeat (fail_if_success (with_reducible rename IsRange _ _ _ _ _ _ _ _ => q9)); (first | (k_unfold; (try dsimp only)) | walk1 | (dsimp only; walk1)))
theorem five_ne (k : Nat) : (5 : Int) ^ k ≠ 0 := by
  have : (0 : Int) < 5 ^ k := Int.pow_pos (by decide)
  omega
theorem five_py {a : Int} {k : Int} (h : 0 ≤ k ∧ k < 5) : Builtin.divisionGoesByPylong a (5 ^ k.toNat) = false := by
  refine PyProof.noPylong_of_log2 ?_
  have hk : k.toNat < 5 := by omega
  generalize k.toNat = n at hk
  have : n = 0 ∨ n = 1 ∨ n = 2 ∨ n = 3 ∨ n = 4 := by omega
  rcases this with rfl | rfl | rfl | rfl | rfl <;> decide
theorem ints_split {q : List Value} {y : Value} : ∀ {p : List Value} {ns : List Int}, IntsAre (p ++ y :: q) ns → ∃ a x b t, ns = a ++ x :: b ∧ y = .int x t ∧ IntsAre p a ∧ IntsAre q b
  | [], ns, h => by
    cases ns with
    | nil => cases h
    | cons n ns =>
      obtain ⟨t, vs', e, h'⟩ := PyProof.Rows.IntsAre.cons_inv h
      simp only [List.nil_append, List.cons.injEq] at e
      obtain ⟨rfl, rfl⟩ := e
      exact ⟨[], n, ns, t, rfl, rfl, IntsAre.nil, h'⟩
  | v :: p, ns, h => by
    cases ns with
    | nil => cases h
    | cons n ns =>
      obtain ⟨t, vs', e, h'⟩ := PyProof.Rows.IntsAre.cons_inv h
      simp only [List.cons_append, List.cons.injEq] at e
      obtain ⟨rfl, rfl⟩ := e
      obtain ⟨a, x, b, t', rfl, rfl, ha, hb⟩ := ints_split h'
      exact ⟨n :: a, x, b, t', rfl, rfl, IntsAre.cons _ _ ha, hb⟩
theorem cut_some : ∀ {l : List Value} {k : Nat}, k < l.length → ∃ p y q, kl_cut l k = some (p, y, q)
  | [], _, h => absurd h (Nat.not_lt_zero _)
  | x :: r, 0, _ => ⟨[], x, r, rfl⟩
  | x :: r, k + 1, h => by
    obtain ⟨p, y, q, e⟩ := cut_some (l := r) (k := k) (by simpa using h)
    exact ⟨x :: p, y, q, by simp only [kl_cut, e]⟩
theorem fits_idx {j : Int} (h0 : 0 ≤ j) (h1 : j < 1000) : Builtin.List.listFitsIndex j = true := by
  unfold Builtin.List.listFitsIndex
  simp only [Bool.and_eq_true, decide_eq_true_eq]
  omega
theorem seq_small {j : Int} {n : Nat} (h0 : 0 ≤ j) (h1 : j < n) : seqIndex? j n = some j.toNat := by
  have hneg : ¬ j < 0 := by omega
  simp only [seqIndex?, if_neg hneg]
  have : (decide (0 ≤ j) && decide (j < (n : Int))) = true := by simp; omega
  rw [if_pos this]
theorem pop_step {n i : Nat} {os ns : List Int} {vs ys : List Value} {l : List Int} (hos : IntsAre ys os) (hns : IntsAre vs ns) (hl1 : os.length = i) (hl2 : ns.length + i = n) (hperm : (os ++ ns).Perm l) {k : Nat} {p q : List Value} {y : Value} (e : kl_cut vs k = some (p, y, q)) :
    ∃ os' ns', IntsAre (ys ++ [y]) os' ∧ IntsAre (p ++ q) ns' ∧ os'.length = i + 1 ∧ ns'.length + (i + 1) = n ∧ (os' ++ ns').Perm l := by
  obtain ⟨rfl, _⟩ := kl_cut_spec e
  obtain ⟨a, x, b, t, rfl, rfl, ha, hb⟩ := ints_split hns
  refine ⟨os ++ [x], a ++ b, PyProof.Rows.IntsAre.append hos (IntsAre.cons _ _ IntsAre.nil), PyProof.Rows.IntsAre.append ha hb, by simp [hl1], by simp at hl2 ⊢; omega, ?_⟩
  refine List.Perm.trans ?_ hperm
  rw [List.append_assoc]
  refine List.Perm.append_left os ?_
  exact (List.perm_middle (a := x) (l₁ := a) (l₂ := b)).symm
theorem small5 {n : Nat} (hn : n ≤ 5) : Builtin.Range.small 0 (n : Int) 1 = true := by
  have : ∀ k : Fin 6, Builtin.Range.small 0 (k.val : Int) 1 = true := by decide +kernel
  exact this ⟨n, by omega⟩
theorem perm_range {os : List Int} {N : Nat} (h : os.Perm (rangeKs 0 N)) : os.Perm ((List.range ((N : Int)).toNat).map (fun (i : Nat) => (i : Int))) := by
  have e : rangeKs 0 N = (List.range ((N : Int)).toNat).map (fun (i : Nat) => (i : Int)) := by simp [rangeKs]
  exact e ▸ h
theorem size5 (n : Nat) : Builtin.Range.rangeSize 0 (n : Int) 1 = (n : Int) := rangeSize_nat _ _
theorem order_spec {w : World} {p : Program} {loose : List Str} {mean : ExcName → Option Value} {mg mb : Str → Option Value} {gd : Option (List Code)} {cn : Str} {cs : Scope} {a : Addr} {ccd : Value} {cl : List (Str × Addr)} {outer : List Env}
    {A₀ : Around} {base h₀ : Heap} {L : Addr} {m : Str → Option Value} {s : Shared} {Q E : Value → Shared → Prop} {n total : Int} {t1 t2 : Tok}
    (B : Below A₀ base outer h₀) (F : Fr h₀ L s.heap m) (X : (KK w).In h₀) (T : Top p loose mean mg mb h₀) (hck : cs.kind = .function) (hn : n = 3 ∨ n = 4 ∨ n = 5)
    (ret : ∀ D k vs os h' tk', Keeps s.heap h' → s.heap.get? D = none → h'.get? D = some (listOf vs.toArray k) → IntsAre vs os → os.Perm ((List.range n.toNat).map (fun (i : Nat) => (i : Int))) → Q (.ref D) { s with heap := h', toks := tk' }) :
    wpAny (model PR w) (Lv 500 500 gd cn cs L a ccd cl outer) (call (.ref 54) [.int n t1, .int total t2]) Q E s := by
  w_top off
  walk_at "mine fill"
  obtain ⟨N, rfl⟩ : ∃ N : Nat, n = (N : Int) := ⟨n.toNat, by omega⟩
  have b0 : 0 ≤ (N : Int) := by omega
  have b1 : (N : Int) ≤ 1000000 := by omega
  have hN5 : N ≤ 5 := by omega
  walk_at "mine enterC"
  walk_at "mine toReturn"
  rename IsRange _ _ _ _ _ _ _ _ => R1
  rename Fr _ _ _ _ => F1
  rename News _ _ _ _ => N1
  refine kll_range rfl F1 N1 R1 (small5 hN5) (size5 N) (by omega) ?_
  intro P us c0 h3 tk3 F3 N3 lP iX
  have p1 : @LT.lt Nat _ (s.heap.objs.size + 1 + 1) P := lP _ (.head _)
  have p2 : @LT.lt Nat _ (s.heap.objs.size + 1) P := lP _ (.tail _ (.head _))
  clear R1 F1 N1
  walk_at "mine toReturn"
  rename_i h5 o5 F5 N5 d5
  refine wpAny_Return_some ?_
  refine LCg.ListComp_U F5 (by with_unfolding_all rfl) (by decide) rfl (by decide) rfl ?_
  walk_at "mine toRange"
  rename IsRange _ _ _ _ _ _ _ _ => R6
  refine LCg.CompSrc.range rfl (by assumption) (by assumption) R6 (small5 hN5) (size5 N) (by rw [sizeLine_eq]; omega) fun g => ?_
  refine rest_ind (fun i ys nw => ∃ (os ns : List Int) (vs : List Value) (k : Nat), IntsAre ys os ∧ IntsAre vs ns ∧ os.length = i ∧ ns.length + i = N ∧ (os ++ ns).Perm (rangeKs 0 N) ∧ nw = (P, listOf vs.toArray k) :: (_, _) :: (_, _) :: []) ?_ ?_ _ 0 [] _ (Nat.zero_add _) ⟨[], _, _, _, IntsAre.nil, iX, rfl, rangeKs_length 0 N, .refl _, rfl⟩
  · rintro i ys nw v I oI C oC D m2 h2 tk2 E2 hi ⟨os, ns, vs, k, hos, hns, hl1, hl2, hperm, rfl⟩ ⟨tv, rfl⟩ hoC hmx F6 N6 off6 hne6
    have hi : i < N := hi
    dsimp only
    obtain ⟨ii, hii⟩ : ∃ ii : Int, 0 + (i : Int) = ii := ⟨_, rfl⟩
    rw [hii] at hmx
    have b0 : 0 ≤ ii := by omega
    have b1 : ii ≤ 1000000 := by omega
    have h5 : (5 : Int) ^ ii.toNat ≠ 0 := five_ne _
    obtain ⟨x1, he1⟩ : ∃ x1, (total.fdiv 16).fdiv (5 ^ ii.toNat) = x1 := ⟨_, rfl⟩
    have hpl : Builtin.divisionGoesByPylong (total.fdiv 16) (5 ^ ii.toNat) = false := five_py (by omega)
    k_steps
    have hpos : (0 : Int) < (ns.length : Int) := by omega
    have j0 := fmod_lo x1 hpos
    have j1 := fmod_hi x1 hpos
    generalize x1.fmod (ns.length : Int) = j at j0 j1 ⊢
    have hvl := PyProof.Rows.IntsAre.length hns
    obtain ⟨pp, yy, qq, ecut⟩ := cut_some (l := vs) (k := j.toNat) (by omega)
    obtain ⟨os', ns', g1, g2, g3, g4, g5⟩ := pop_step hos hns hl1 hl2 hperm ecut
    have off8 := off6
    simp only [LCg.Off3, and_true] at off8
    have hj9 : j < ((vs.toArray.size : Nat) : Int) := by rw [List.size_toArray]; omega
    have hz9 : vs.toArray.toList.length ≤ sizeLine := by rw [sizeLine_eq]; simp; omega
    have hj8 : j < 1000 := by omega
    refine kl_popAt (i := j) (its := vs.toArray) (by assumption) N6 (fits_idx j0 hj8) (seq_small j0 hj9) (by simpa using ecut) (by k_upd) hz9 fun h7 F7 N7 => ?_
    refine CE.intro ((P, listOf (pp ++ qq).toArray (k + 1)) :: (s.heap.objs.size + 1 + 1, o5) :: (s.heap.objs.size + 1, _) :: []) F7 N7 (by k_allIn) ⟨off6.1, off6.2⟩ trivial ⟨os', ns', pp ++ qq, _, g1, g2, g3, g4, g5, rfl⟩
  · rintro ys nw ⟨os, ns, vs, k, hos, hns, hl1, hl2, hperm, rfl⟩ D h7 tk7 F7 N7 off7
    have hl3 : ns.length + N = N := hl2
    have hz : ns = [] := List.eq_nil_of_length_eq_zero (by omega)
    rw [hz, List.append_nil] at hperm
    exact ret D _ ys os h7 tk7 F7.keep (N7 _ (.head _)).2.2 (N7 _ (.head _)).1 hos (perm_range hperm)
-- Pos
section
open PySem.Spec
/-- the places of the ones -/
def posTo (row : List Int) (i : Nat) : List Int := ((List.range i).filter fun c => row.getD c 0 == 1).map fun (c : Nat) => (c : Int)
theorem posTo_nodup (row : List Int) (i : Nat) : (posTo row i).Nodup := by
  unfold posTo
  refine List.Pairwise.map _ (fun a b h => ?_) (List.Pairwise.filter _ List.nodup_range)
  intro e; exact h (by omega)
theorem posTo_succ (row : List Int) (i : Nat) : posTo row (i + 1) = posTo row i ++ (if row.getD i 0 == 1 then [(i : Int)] else []) := by
  unfold posTo
  rw [List.range_succ, List.filter_append, List.map_append]
  congr 1
  cases h : (row.getD i 0 == 1)
  · rw [List.filter_cons_of_neg (by rw [h]; decide)]; rfl
  · rw [List.filter_cons_of_pos (p := fun c => row.getD c 0 == 1) h]; rfl
theorem mem_posTo {row : List Int} {k : Int} : k ∈ posTo row row.length ↔ memRow row k = true := by
  unfold posTo memRow
  simp only [List.mem_map, List.mem_filter, List.mem_range, Bool.and_eq_true, decide_eq_true_eq, beq_iff_eq]
  constructor
  · rintro ⟨c, ⟨h1, h2⟩, rfl⟩
    refine ⟨by omega, ?_⟩
    rw [Int.toNat_natCast, List.getElem?_eq_getElem h1]
    rw [List.getD_eq_getElem?_getD, List.getElem?_eq_getElem h1] at h2
    exact congrArg some h2
  · rintro ⟨h1, h2⟩
    have hlt : k.toNat < row.length := by
      rcases Nat.lt_or_ge k.toNat row.length with q | q
      · exact q
      · rw [List.getElem?_eq_none q] at h2; cases h2
    refine ⟨k.toNat, ⟨hlt, ?_⟩, by omega⟩
    rw [List.getD_eq_getElem?_getD, h2]; rfl
theorem posTo_length : ∀ (row : List Int) (i : Nat), i ≤ row.length → (posTo row i).length = (row.take i).count 1
  | row, 0, _ => by simp [posTo]
  | row, i + 1, h => by
    rw [posTo_succ, List.length_append, posTo_length row i (by omega), List.take_add_one, List.getElem?_eq_getElem (by omega), Option.toList_some, List.count_append, List.getD_eq_getElem?_getD, List.getElem?_eq_getElem (by omega)]
    simp only [Option.getD_some]
    by_cases q : row[i] = 1 <;> simp [q]
theorem posTo_count (row : List Int) : (posTo row row.length).length = row.count 1 := by
  rw [posTo_length row _ (Nat.le_refl _), List.take_length]

theorem dedup_nodup : ∀ (xs acc : List Int), (acc ++ xs).Nodup → xs.foldl step_dedup acc = acc ++ xs
  | [], acc, _ => by simp
  | x :: xs, acc, h => by
    have hx : x ∉ acc := by
      intro hm
      have := List.nodup_append.mp h
      exact this.2.2 x hm x (.head _) rfl
    have e : step_dedup acc x = acc ++ [x] := by
      unfold step_dedup
      have : acc.any (fun y => y == x) = false := by
        rw [List.any_eq_false]; intro y hy; simp; exact fun q => hx (q ▸ hy)
      simp [this]
    rw [List.foldl_cons, e, dedup_nodup xs (acc ++ [x]) (by simpa using h)]
    simp
theorem firstMet_nodup {ns : List Int} (h : ns.Nodup) : firstMet (fun i => ns.getD i 0) ns.length = ns := by
  unfold firstMet
  have e : (List.range ns.length).map (fun i => ns.getD i 0) = ns := by
    apply List.ext_getElem (by simp)
    intro i h1 h2
    simp [h2]
  rw [e, dedup_nodup ns [] (by simpa using h)]
  rfl

section
variable {prog : Program} {w : World} {A : Around} {E : Value → Shared → Prop} {s : Shared} {h₀ : Heap} {L : Addr} {m : Str → Option Value} {news : List (Addr × Obj)}
theorem set_ofList {l : Addr} {vs : List Value} {ns : List Int} {S : Int → Bool} {cnt : Nat} {Q : Value → Shared → Prop} (F : Fr h₀ L s.heap m) (N : News h₀ L s.heap news) (hh : A.handled = none) (hl : s.heap.IsList l vs.toArray) (hi : IntsAre vs ns) (hnd : ns.Nodup) (hb : ns.length + 1 < scanBound) (hS : ∀ k, k ∈ ns ↔ S k = true) (hc : ns.length = cnt)
    (h : ∀ (d : Addr) (h' : Heap) (tk : Nat) (o : Obj), Fr h₀ L h' m → News h₀ L h' ((d, o) :: news) → (∀ p ∈ news, p.1 < d) → (∀ g : Heap, g.get? d = some o → g.SetOf (intKind prog w) d S cnt) → Q (.ref d) { s with heap := h', toks := tk }) :
    wpAny (model prog w) A (call (.type "set") [.ref l]) Q E s := by
  have hvn : vs.length = ns.length := PyProof.Rows.IntsAre.length hi
  have hsz : vs.toArray.size = ns.length := by rw [List.size_toArray, hvn]
  refine PySem.call_set_list (items := vs.toArray) (ns := ns) hh hl (by simpa using hi) (by rw [hsz]; exact hb) fun h' tk hS' hk => ?_
  rw [hsz, firstMet_nodup hnd] at hS'
  have eS : (fun k' => ns.any (· == k')) = S := by
    funext k
    rw [Bool.eq_iff_iff, ← hS k]
    simp
  rw [eS, hc] at hS'
  obtain ⟨o, ho, hso⟩ := hS'.objOf
  have hLlt : @LT.lt Nat _ L s.heap.objs.size := F.ns.lt
  refine h s.heap.objs.size h' tk o ⟨F.ns.at' fun o' e => hk L o' hLlt e, fun b o' e => hk b o' (Heap.lt_size (F.keep b o' e)) (F.keep b o' e), F.above⟩ (fun p hp => ?_) (fun p hp => Heap.lt_size (N p hp).1) (fun g hg => hso.setOf hg (by omega))
  rcases List.mem_cons.mp hp with rfl | hp
  · refine ⟨ho, Nat.ne_of_gt hLlt, ?_⟩
    cases hq : h₀.get? s.heap.objs.size with
    | none => rfl
    | some o' => exact absurd (Heap.lt_size (F.keep _ _ hq)) (Nat.lt_irrefl _)
  · exact ⟨hk _ _ (Heap.lt_size (N p hp).1) (N p hp).1, (N p hp).2.1, (N p hp).2.2⟩
theorem row_itemT {value slice : Expr} {a : Addr} {vs : List Value} {row : List Int} {c : Int} {u : Tok} {Q : Value → Shared → Prop} (hT : IsTup s.heap a vs.toArray) (hi : IntsAre vs row) (h0 : 0 ≤ c) (h1 : c < row.length) (hb : row.length < 1000)
    (h : ∀ t, Q (.int (row.getD c.toNat 0) t) s)
    (hs : subscripted slice false (.ref a) (.int c u) = operate [.ref a, .int c u] (getItem (.ref a) (.int c u)) := by with_unfolding_all rfl) :
    wpAny (model prog w) A (subscriptTail value slice (.ref a) (.int c u)) Q E s := by
  obtain ⟨t, e⟩ := IntsAre.getElem hi (i := c.toNat) (by omega)
  have hl := PyProof.Rows.IntsAre.length hi
  refine item_tupleT hT (by omega) (by omega) (j := c.toNat) ?_ e (h t) hs
  have hneg : ¬ c < 0 := by omega
  simp only [seqIndex?, if_neg hneg]
  have : (decide (0 ≤ c) && decide (c < (vs.length : Int))) = true := by simp; omega
  rw [if_pos this]
end
end
-- C9
local macro_rules | `(tactic| walk_at "exec For Name Call cons nil") => `(tactic| (k_here; (rename Fr _ _ _ _ => lF'); (with_unfolding_all refine' For_turns lF' ?_; k_whole)))
local macro_rules | `(tactic| k_all) => `(tactic| assumption)
/-- the row of a number -/
def rowF (n : Nat) (a : Nat) : List Int := (List.range n).map fun c => ((a / 2 ^ c % 2 : Nat) : Int)
def valF (os : List Int) (way : Int) (row : List Int) : Int := os.foldl (fun v c => 2 * v + way * row.getD c.toNat 0) 0
def cardsTo (n : Nat) (size : Int) (os : List Int) (way : Int) (k : Nat) : List Crd := ((List.range k).filter fun a => decide ((rowF n a).sum = size)).map fun a => ⟨rowF n a, valF os way (rowF n a)⟩

theorem keys_small {ys : List Value} {f : Int → Int} {n : Nat} (h : ys.length = ((rangeKs 0 ((n : Int) - 0).toNat).map f).length) (hn : n ≤ 5) : ys.toArray.size ≤ 16384 := by
  rw [List.size_toArray, h, List.length_map]
  have : n = 0 ∨ n = 1 ∨ n = 2 ∨ n = 3 ∨ n = 4 ∨ n = 5 := by omega
  rcases this with rfl | rfl | rfl | rfl | rfl | rfl <;> decide
local macro_rules | `(tactic| walk_at "call type:tuple") => `(tactic| (k_here; (with_reducible show wpAny _ _ (call (Value.type _) [Value.ref _]) _ _ _); k_dflt (refine' kde_tupleOf ?k1 ?k2 ?k3 ?k4 ?k5 ?_; (case k1 => k_asm); (case k2 => k_asm); (case k3 => exact News.isList (by k_asm) (by k_mem)); (case k4 => exact keys_small (by assumption) (by assumption)); (case k5 => exact rfl); k_whole); intro D' h' F' N' l1; (try k_lt l1); (try k_sweep)))
local macro_rules | `(tactic| walk_at "mine toRange2") => `(tactic| repeat (fail_if_success (with_reducible show LCt.CompSrcT _ _ _ _ _ _ _ _ _ _ _ _ _ _ _)); (first | (k_unfold; (try dsimp only)) | walk1 | (dsimp only; walk1)))
theorem small_range {n : Nat} (hn : n ≤ 5) : Builtin.Range.small 0 (n : Int) 1 = true := by
  have : n = 0 ∨ n = 1 ∨ n = 2 ∨ n = 3 ∨ n = 4 ∨ n = 5 := by omega
  rcases this with rfl | rfl | rfl | rfl | rfl | rfl <;> decide
theorem size_range (n : Nat) : Builtin.Range.rangeSize 0 (n : Int) 1 = (n : Int) := by
  simp [Builtin.Range.rangeSize]; omega
theorem posTo_fits {row : List Int} (h : row.length ≤ 5) : (posTo row row.length).length + 1 < scanBound := by
  rw [posTo_count]
  have := List.count_le_length (a := (1 : Int)) (l := row)
  unfold scanBound
  omega
theorem cards_succ (n : Nat) (size : Int) (os : List Int) (way : Int) (i : Nat) : cardsTo n size os way (i + 1) = cardsTo n size os way i ++ (if (rowF n i).sum = size then [⟨rowF n i, valF os way (rowF n i)⟩] else []) := by
  unfold cardsTo
  rw [List.range_succ, List.filter_append, List.map_append]
  congr 1
  by_cases h : (rowF n i).sum = size
  · rw [List.filter_cons_of_pos (by simpa using h), if_pos h]; rfl
  · rw [List.filter_cons_of_neg (by simpa using h), if_neg h]; rfl
theorem cards_len {n : Nat} {size : Int} {os : List Int} {way : Int} {i : Nat} {zs : List (Value × Crd)} (h : zs.map (·.2) = cardsTo n size os way i) (hi : i < 2 ^ n) (hn : n ≤ 5) : zs.length ≤ 32 := by
  have e : zs.length = (cardsTo n size os way i).length := by rw [← h, List.length_map]
  have l1 : (cardsTo n size os way i).length ≤ i := by
    unfold cardsTo
    rw [List.length_map]
    exact Nat.le_trans (List.length_filter_le _ _) (by simp)
  have l2 : 2 ^ n ≤ 2 ^ 5 := Nat.pow_le_pow_right (by decide) hn
  omega
theorem two_range (n : Nat) (hn : n ≤ 5) : Builtin.Range.small 0 (2 ^ (n : Int).toNat) 1 = true ∧ Builtin.Range.rangeSize 0 (2 ^ (n : Int).toNat) 1 = ((2 ^ n : Nat) : Int) := by
  have : n = 0 ∨ n = 1 ∨ n = 2 ∨ n = 3 ∨ n = 4 ∨ n = 5 := by omega
  rcases this with rfl | rfl | rfl | rfl | rfl | rfl <;> decide
theorem row_eq (n i : Nat) : (rangeKs 0 ((n : Int) - 0).toNat).map (fun k' => ((0 + (i : Int)).fdiv (2 ^ k'.toNat)).fmod 2) = rowF n i := by
  unfold rangeKs rowF
  rw [List.map_map]
  have e : ((n : Int) - 0).toNat = n := by omega
  rw [e]
  apply List.map_congr_left
  intro c _
  show Int.fmod (Int.fdiv (0 + (i : Int)) (2 ^ (0 + (c : Int)).toNat)) 2 = _
  have e2 : (0 + (c : Int)).toNat = c := by omega
  have e3 : ((2 : Int) ^ c) = ((2 ^ c : Nat) : Int) := by rw [Int.natCast_pow]; rfl
  rw [e2, Int.zero_add, e3, Int.fdiv_eq_ediv_of_nonneg _ (Int.natCast_nonneg _), Int.fmod_eq_emod_of_nonneg _ (by decide), ← Int.natCast_ediv]
  norm_cast
theorem int_here {vs : List Value} {os : List Int} {j : Nat} {v : Value} (h : IntsAre vs os) (hv : vs[j]? = some v) : ∃ c, os[j]? = some c ∧ ∃ t, v = .int c t := by
  obtain ⟨n, t, e, h2⟩ := PyProof.Rows.IntsAre.at h j v hv
  exact ⟨n, h2, t, e⟩
local macro_rules | `(tactic| walk_at "subscriptTail Name Name ref int") => `(tactic| (k_here; k_dflt (refine row_itemT (News.isTup (by k_asm) (by k_mem)) (by assumption) (by assumption) (by assumption) (by assumption) ?_); intro t9))
theorem fr_known {h₀ h : Heap} {L : Addr} {stored : List Str} {u m₀ : Str → Option Value} {x : Str} {v : Value} (F : Fr h₀ L h (fun z => if stored.contains z = true then u z else m₀ z)) (hm : stored.contains x = true) (hu : u x = some v) : Fr h₀ L h (fun z => if z = x then some v else if stored.contains z = true then u z else m₀ z) := by
  have e : (fun z => if stored.contains z = true then u z else m₀ z) = (fun z => if z = x then some v else if stored.contains z = true then u z else m₀ z) := by
    funext z
    by_cases q : z = x
    · subst q; rw [if_pos hm, if_pos rfl, hu]
    · rw [if_neg q]
  rw [e] at F
  exact F
local macro_rules | `(tactic| walk_at "mine toComp") => `(tactic| repeat (fail_if_success (with_reducible show wpAny _ _ (eval (PySem.Expr.ListComp _ _ _ _) _) _ _ _)); (first | (k_unfold; (try dsimp only)) | walk1 | (dsimp only; walk1)))
local macro_rules | `(tactic| walk_at "binaryOp Mult int int") => `(tactic| (k_here; k_dflt (refine PyProof.Rows.mul_int ?_ (by assumption))))
theorem val_succ {os : List Int} {way : Int} {row : List Int} {j : Nat} {c : Int} (h : os[j]? = some c) : valF (os.take (j + 1)) way row = 2 * valF (os.take j) way row + way * row.getD c.toNat 0 := by
  unfold valF
  rw [List.take_add_one, h, Option.toList_some, List.foldl_append]
  rfl
theorem cards_spec {w : World} {p : Program} {loose : List Str} {mean : ExcName → Option Value} {mg mb : Str → Option Value} {gd : Option (List Code)} {cn : Str} {cs : Scope} {a : Addr} {ccd : Value} {cl : List (Str × Addr)} {outer : List Env}
    {A₀ : Around} {base h₀ : Heap} {L : Addr} {m : Str → Option Value} {s : Shared} {Q E : Value → Shared → Prop} {n : Nat} {size way : Int} {ol : Addr} {ovs : List Value} {os : List Int} {t1 t2 t3 : Tok}
    (B : Below A₀ base outer h₀) (F : Fr h₀ L s.heap m) (X : (KK w).In h₀) (T : Top p loose mean mg mb h₀) (hck : cs.kind = .function) (hn : n ≤ 5) (hol : s.heap.IsList ol ovs.toArray) (hov : IntsAre ovs os) (hos : ∀ c ∈ os, 0 ≤ c ∧ c < n) (hway : way = 1 ∨ way = -1)
    (ret : ∀ (D : Addr) (k : Nat) (zs : List (Value × Crd)) (tail : List (Addr × Obj)) (h' : Heap) (tk' : Nat), Keeps s.heap h' → s.heap.get? D = none → h'.get? D = some (listOf (zs.map (·.1)).toArray k) → (∀ q ∈ tail, s.heap.get? q.1 = none ∧ h'.get? q.1 = some q.2) → (∀ q ∈ tail, @LT.lt Nat _ D q.1) → (∀ h : Heap, (∀ q ∈ tail, h.get? q.1 = some q.2) → ∀ z ∈ zs, CardAt w h z.1 z.2) → zs.map (·.2) = cardsTo n size os way (2 ^ n) → Q (.ref D) { s with heap := h', toks := tk' }) :
    wpAny (model PR w) (Lv 500 500 gd cn cs L a ccd cl outer) (call (.ref 59) [.int (n : Int) t1, .int size t2, .ref ol, .int way t3]) Q E s := by
  w_top off
  walk_at "mine fill"
  walk_at "mine enterC"
  have b0 : 0 ≤ (n : Int) := by omega
  have b1 : (n : Int) ≤ 1000000 := by omega
  k_steps
  rename_i o1 o2 d1 d2 D hD1 lD hD2 F9 N9 hR tkR tR uR vR R0 F0 N0 k0
  clear k0
  obtain ⟨hsm, hsz⟩ := two_range n hn
  refine iter_rangeS (["c", "value"] : List Str) (fun i _ nw => ∃ (zs : List (Value × Crd)) (k : Nat) (oR oA : Obj) (tail : List (Addr × Obj)), nw = (D, listOf (zs.map (·.1)).toArray k) :: (s.heap.objs.size + 1 + 1, oR) :: (s.heap.objs.size + 1, oA) :: tail ∧ (∃ v, oR.data = .cell v) ∧ (∃ v, oA.data = .cell v) ∧
    (∀ q ∈ tail, @LT.lt Nat _ D q.1) ∧ (∀ h, News s.heap s.heap.objs.size h tail → ∀ z ∈ zs, CardAt w h z.1 z.2) ∧ zs.map (·.2) = cardsTo n size os way i) R0 F0 N0 hsm hsz rfl ⟨[], 0, _, _, [], rfl, ⟨_, d1⟩, ⟨_, d2⟩, (fun _ h => nomatch h), (fun _ _ _ h => nomatch h), rfl⟩ ?_ ?_
  · rintro i t u news₁ h tk I oI hi ⟨zs, k, oR, oA, tail, rfl, ⟨vR, dR⟩, ⟨vA, dA⟩, htl, hcd, hzs⟩ hoff F1 N1
    have tD : ∀ q ∈ tail, q.1 ≠ D := fun q hq => Ne.symm (neA (.inl (htl q hq)))
    have tR : ∀ q ∈ tail, q.1 ≠ s.heap.objs.size + 1 + 1 := fun q hq => neA (by have := htl q hq; have := lD.1; omega)
    have tA : ∀ q ∈ tail, q.1 ≠ s.heap.objs.size + 1 := fun q hq => neA (by have := htl q hq; have := lD.2; omega)
    have tI : ∀ q ∈ tail, q.1 ≠ I := fun q hq => hoff q (.tail _ (.tail _ (.tail _ hq)))
    have i1 : @Ne Nat D I := hoff _ (.head _)
    have i2 : @Ne Nat (s.heap.objs.size + 1 + 1) I := hoff _ (.tail _ (.head _))
    have i3 : @Ne Nat (s.heap.objs.size + 1) I := hoff _ (.tail _ (.tail _ (.head _)))
    obtain ⟨ai, hai⟩ : ∃ ai : Int, 0 + (i : Int) = ai := ⟨_, rfl⟩
    rw [hai]
    k_steps
    · rename_i hA oA2 dA2 tkA hB tkB tB uB vB RB kB hkl gB hI8 hL8 D1 hC tkC off1 D2 hE lt2 hF oR2 dR2 hG tkG tG hsum hH FH NH
      clear RB kB
      have hrow := row_eq n i
      rw [hai] at hrow
      rw [hrow] at hI8 hsum
      clear hL8
      have hlen : (rowF n i).length = n := by simp [rowF]
      refine iter_listS (["c", "value"] : List Str) (fun j u nw => (∃ t, u ("value" : Str) = some (.int (valF (os.take j) way (rowF n i)) t)) ∧ nw = (D2, _) :: (D1, _) :: (I, oI) :: (D, listOf (zs.map (·.1)).toArray k) :: (s.heap.objs.size + 1 + 1, oR2) :: (s.heap.objs.size + 1, oA2) :: tail) hol FH NH rfl ⟨⟨_, rfl⟩, rfl⟩ ?_ ?_
      · rintro j v u2 news2 h2 tk2 J oJ hv ⟨⟨tv, hval⟩, rfl⟩ hoffJ F2 N2
        obtain ⟨c, hc, tc, rfl⟩ := int_here hov hv
        obtain ⟨hc0, hc1⟩ := hos c (List.mem_of_getElem? hc)
        have hc2 : c < ((rowF n i).length : Int) := by rw [hlen]; exact hc1
        have hc3 : (rowF n i).length < 1000 := by omega
        have F3 := fr_known F2 (x := "value") (by decide) hval
        clear F2
        have hmul : ∀ b : Int, IntMulOk way b := fun b => IntMulOk.of_left (by rcases hway with rfl | rfl <;> decide)
        have hm1 := hmul ((rowF n i).getD c.toNat 0)
        k_steps
        refine TEnd.introS ((D2, _) :: (D1, _) :: (I, oI) :: (D, listOf (zs.map (·.1)).toArray k) :: (s.heap.objs.size + 1 + 1, oR2) :: (s.heap.objs.size + 1, oA2) :: tail) (by assumption) (by assumption) (.head _) (fun p hp => .tail _ hp) hoffJ ?_ ?_
        · intro z hz
          simp only [List.contains_cons, List.contains_nil, Bool.or_false, Bool.or_eq_false_iff, beq_eq_false_iff_ne] at hz
          simp [hz]
        · rw [val_succ hc]; exact ⟨⟨_, rfl⟩, rfl⟩
      · rintro u2 news2 h2 tk2 ⟨⟨tv, hval⟩, rfl⟩ F2 N2
        have F3 := fr_known F2 (x := "value") (by decide) hval
        clear F2
        walk_at "mine toComp"
        refine LCt.ListComp_T (by assumption) (by with_unfolding_all rfl) (by decide) rfl (by decide) rfl ?_
        walk_at "mine toRange2"
        rename_i hS tkS tS uS vS RS FS NS kS
        refine LCt.CompSrcT.range rfl FS NS RS (small_range hn) (size_range n) (by rw [sizeLine_eq]; omega) fun g => ?_
        refine restT_ind (fun c ys nw => IntsAre ys (posTo (rowF n i) c) ∧ nw = (D2, _) :: (D1, _) :: (I, oI) :: (D, listOf (zs.map (·.1)).toArray k) :: (s.heap.objs.size + 1 + 1, oR2) :: (s.heap.objs.size + 1, oA2) :: tail) ?_ ?_ _ 0 [] _ (Nat.zero_add _) ⟨IntsAre.nil, rfl⟩
        · rintro c ys2 nw v I3 oI3 C3 oC3 D3 m3 h3 tk3 E3 hc ⟨hys, rfl⟩ ⟨tv3, rfl⟩ hoC3 hm3 F4 N4 off4 ne4
          obtain ⟨cc, hcc⟩ : ∃ cc : Int, 0 + (c : Int) = cc := ⟨_, rfl⟩
          rw [hcc] at hm3
          have hc0 : 0 ≤ cc := by omega
          have hc2 : cc < ((rowF n i).length : Int) := by rw [hlen]; omega
          have hc3 : (rowF n i).length < 1000 := by omega
          dsimp only
          k_steps
          have ecc : cc.toNat = c := by omega
          rw [ecc]
          have hps := posTo_succ (rowF n i) c
          refine CT.of (fun hb => ?_) fun hb => ?_
          · rw [hb, if_pos rfl] at hps
            k_steps
            refine CE.intro _ (by assumption) (by assumption) (fun p hp => hp) off4 trivial ⟨?_, rfl⟩
            rw [hps, ← Int.zero_add (c : Int), hcc]
            exact PyProof.Rows.IntsAre.append hys (IntsAre.cons _ _ IntsAre.nil)
          · rw [hb] at hps
            refine CE.intro _ (by assumption) (by assumption) (fun p hp => hp) off4 trivial ⟨?_, rfl⟩
            rw [hps]
            simpa using hys
        · rintro ys2 nw ⟨hys, rfl⟩ D3 h3 tk3 F4 N4 off4
          k_steps
          have hys' : IntsAre ys2 (posTo (rowF n i) (rowF n i).length) := by rw [hlen]; exact hys
          have hpl : (posTo (rowF n i) (rowF n i).length).length + 1 < scanBound := posTo_fits (by omega)
          refine set_ofList (by assumption) (by assumption) rfl ⟨_, (N4 _ (.head _)).1, rfl, _, rfl⟩ hys' (posTo_nodup _ _) hpl (fun k => mem_posTo) (posTo_count _) ?_
          intro dS hS2 tkS2 oS F5 N5 ltS hSO
          k_lt ltS
          clear F4 N4
          k_steps
          rename_i T1 hT1 FT NT l1
          have hzl : zs.length ≤ 32 := cards_len hzs hi hn
          refine append_K FT NT (Upd.tail (neA (.inr l1.2.2.2.2.2.1)) (Upd.tail (neA (.inr ltS.2.2.2.2.1)) (Upd.tail (Ne.symm off4.2.2.2.1) (Upd.tail (neA (.inr lt2.2.2.1)) (Upd.tail (Ne.symm off1.2.1) (Upd.tail (Ne.symm i1) (Upd.head ?uu))))))) ?_ ?zz
          case uu =>
            intro q hq
            rcases List.mem_cons.mp hq with rfl | hq
            · exact neA (.inl lD.1)
            · rcases List.mem_cons.mp hq with rfl | hq
              · exact neA (.inl lD.2)
              · exact tD q hq
          case zz => rw [List.size_toArray, List.length_map, sizeLine_eq]; omega
          intro h6 F6 N6
          k_steps
          have ev : valF (os.take ovs.length) way (rowF n i) = valF os way (rowF n i) := by rw [hkl, List.take_length]
          refine TEnd.introS ((D, listOf ((zs ++ [(Value.ref T1, (⟨rowF n i, valF os way (rowF n i)⟩ : Crd))]).map (·.1)).toArray (k + 1)) :: (s.heap.objs.size + 1 + 1, oR2) :: (s.heap.objs.size + 1, oA2) :: (T1, ({ cls := .type "tuple", data := .seq #[.ref D2, .ref dS, .int (valF (os.take ovs.length) way (rowF n i)) tv] } : Obj)) :: (dS, oS) :: (D2, ({ cls := .type "tuple", data := .seq ys.toArray } : Obj)) :: tail) F6 N6 (by k_mem) ?ain ?off ?nam ⟨_, _, _, _, _, rfl, ⟨_, dR2⟩, ⟨_, dA2⟩, ?tl, ?cd, ?zs⟩
          case ain =>
            intro q hq
            rcases List.mem_cons.mp hq with rfl | hq
            · have e : (zs.map (·.1)).toArray.push (Value.ref T1) = ((zs ++ [(Value.ref T1, (⟨rowF n i, valF os way (rowF n i)⟩ : Crd))]).map (·.1)).toArray := by simp
              rw [← e]
              k_mem
            · rcases List.mem_cons.mp hq with rfl | hq
              · k_mem
              · rcases List.mem_cons.mp hq with rfl | hq
                · k_mem
                · rcases List.mem_cons.mp hq with rfl | hq
                  · exact .head _
                  · rcases List.mem_cons.mp hq with rfl | hq
                    · exact .tail _ (.head _)
                    · rcases List.mem_cons.mp hq with rfl | hq
                      · exact .tail _ (.tail _ (.tail _ (.head _)))
                      · exact .tail _ (.tail _ (.tail _ (.tail _ (.tail _ (.tail _ (.tail _ (.tail _ (.tail _ hq))))))))
          case off =>
            intro q hq
            rcases List.mem_cons.mp hq with rfl | hq
            · exact i1
            · rcases List.mem_cons.mp hq with rfl | hq
              · exact i2
              · rcases List.mem_cons.mp hq with rfl | hq
                · exact i3
                · rcases List.mem_cons.mp hq with rfl | hq
                  · exact neA (.inr l1.2.2.2.2.1)
                  · rcases List.mem_cons.mp hq with rfl | hq
                    · exact neA (.inr ltS.2.2.2.1)
                    · rcases List.mem_cons.mp hq with rfl | hq
                      · exact neA (.inr lt2.2.1)
                      · exact tI q hq
          case nam =>
            intro z hz
            simp only [List.contains_cons, List.contains_nil, Bool.or_false, Bool.or_eq_false_iff, beq_eq_false_iff_ne] at hz
            simp [hz]
          case tl =>
            intro q hq
            rcases List.mem_cons.mp hq with rfl | hq
            · exact l1.2.2.2.2.2.1
            · rcases List.mem_cons.mp hq with rfl | hq
              · exact ltS.2.2.2.2.1
              · rcases List.mem_cons.mp hq with rfl | hq
                · exact lt2.2.2.1
                · exact htl q hq
          case cd =>
            intro g hg z hz
            rcases List.mem_append.mp hz with hz | hz
            · exact hcd g (fun q hq => hg q (.tail _ (.tail _ (.tail _ hq)))) z hz
            · rw [List.mem_singleton.mp hz]
              exact ⟨T1, .ref D2, .ref dS, tv, rfl, ⟨_, (hg _ (.head _)).1, rfl, _, by rw [← ev]⟩, ⟨D2, ys, rfl, ⟨_, (hg _ (.tail _ (.tail _ (.head _)))).1, rfl, _, rfl⟩, hI8⟩, ⟨dS, rfl, hSO g (hg _ (.tail _ (.head _))).1⟩⟩
          case zs => rw [List.map_append, hzs, cards_succ, if_pos hsum]; rfl
    · rename_i hA oA2 dA2 tkA hB tkB tB uB vB RB kB hkl gB hI8 hL8 D1 hC tkC off1 D2 hE lt2 hF oR2 FF NF dR2 hG tkG tG FG NG hsum
      have hrow := row_eq n i
      rw [hai] at hrow
      rw [hrow] at hsum
      refine TEnd.introS ((D, listOf (zs.map (·.1)).toArray k) :: (s.heap.objs.size + 1 + 1, oR2) :: (s.heap.objs.size + 1, oA2) :: tail) FG NG (by k_mem) ?ain ?off ?nam ⟨_, _, _, _, _, rfl, ⟨_, dR2⟩, ⟨_, dA2⟩, htl, hcd, ?zs⟩
      case ain =>
        intro q hq
        exact .tail _ (.tail _ (.tail _ hq))
      case off =>
        intro q hq
        rcases List.mem_cons.mp hq with rfl | hq
        · exact i1
        · rcases List.mem_cons.mp hq with rfl | hq
          · exact i2
          · rcases List.mem_cons.mp hq with rfl | hq
            · exact i3
            · exact tI q hq
      case nam =>
        intro z hz
        simp only [List.contains_cons, List.contains_nil, Bool.or_false, Bool.or_eq_false_iff, beq_eq_false_iff_ne] at hz
        simp [hz]
      case zs => rw [hzs, cards_succ, if_neg hsum, List.append_nil]
  · rintro u2 news2 h2 tk2 ⟨zs, k, oR, oA, tail, rfl, _, _, htl, hcd, hzs⟩ F2 N2
    k_steps
    have NT : News s.heap s.heap.objs.size h2 tail := fun q hq => N2 q (.tail _ (.tail _ (.tail _ hq)))
    exact ret D k zs tail _ _ (Fr.keep (by assumption)) (N2 _ (.head _)).2.2 (N2 _ (.head _)).1 (fun q hq => ⟨(NT q hq).2.2, (NT q hq).1⟩) htl (fun g hg => hcd g fun q hq => ⟨hg q hq, (NT q hq).2⟩) hzs
-- Pure1
/-- a row of noughts and ones -/
def Bit (r : List Int) : Prop := ∀ x ∈ r, x = 0 ∨ x = 1
theorem Bit.tail {x : Int} {r : List Int} (h : Bit (x :: r)) : Bit r := fun y hy => h y (.tail _ hy)
theorem rowF_len (n a : Nat) : (rowF n a).length = n := by simp [rowF]
theorem rowF_bit (n a : Nat) : Bit (rowF n a) := by
  intro x hx
  obtain ⟨c, _, rfl⟩ := List.mem_map.mp hx
  omega
theorem sum_count : ∀ {r : List Int}, Bit r → r.sum = (r.count 1 : Nat)
  | [], _ => rfl
  | x :: r, h => by
    rw [List.sum_cons, sum_count h.tail, List.count_cons]
    rcases h x (.head _) with rfl | rfl
    · simp
    · simp; omega

/-- the row as the order reads it -/
def prm (os r : List Int) : List Int := os.map fun c => r.getD c.toNat 0
theorem getD_bit {r : List Int} (h : Bit r) (i : Nat) : r.getD i 0 = 0 ∨ r.getD i 0 = 1 := by
  rw [List.getD_eq_getElem?_getD]
  cases e : r[i]? with
  | none => exact .inl rfl
  | some x => exact h x (List.mem_of_getElem? e)
theorem prm_bit {os r : List Int} (h : Bit r) : Bit (prm os r) := by
  intro x hx
  obtain ⟨c, _, rfl⟩ := List.mem_map.mp hx
  exact getD_bit h _
theorem prm_len (os r : List Int) : (prm os r).length = os.length := by simp [prm]

/-- the number that is read -/
def codeL : List Int → Int
  | [] => 0
  | x :: xs => x * 2 ^ xs.length + codeL xs
theorem pow_pos2 (k : Nat) : (0 : Int) < 2 ^ k := Int.pow_pos (by decide)
theorem code_bounds : ∀ {xs : List Int}, Bit xs → 0 ≤ codeL xs ∧ codeL xs < 2 ^ xs.length
  | [], _ => by simp [codeL]
  | x :: xs, h => by
    obtain ⟨h1, h2⟩ := code_bounds h.tail
    have hp := pow_pos2 xs.length
    have hs : (2 : Int) ^ (x :: xs).length = 2 * 2 ^ xs.length := by rw [List.length_cons, Int.pow_succ]; omega
    unfold codeL
    rcases h x (.head _) with rfl | rfl <;> omega
theorem fold_code (way : Int) (r : List Int) : ∀ (os : List Int) (v : Int), os.foldl (fun v c => 2 * v + way * r.getD c.toNat 0) v = v * 2 ^ os.length + way * codeL (prm os r)
  | [], v => by simp [prm, codeL]
  | c :: os, v => by
    rw [List.foldl_cons, fold_code way r os]
    show _ = v * 2 ^ (os.length + 1) + way * (r.getD c.toNat 0 * 2 ^ (prm os r).length + codeL (prm os r))
    rw [prm_len, Int.pow_succ, Int.add_mul, Int.mul_add, Int.mul_assoc way, Int.add_assoc, Int.mul_comm 2 v, Int.mul_assoc v, Int.mul_comm 2]
theorem val_code (os : List Int) (way : Int) (r : List Int) : valF os way r = way * codeL (prm os r) := by
  unfold valF
  rw [fold_code]; simp

theorem cmp_code {way : Int} (hw : way = 1 ∨ way = -1) {r r' : List Int} (h : Bit r) (h' : Bit r') : ∀ os : List Int, cmpF r r' (os.map fun c => (c, way)) = (way * (codeL (prm os r) - codeL (prm os r'))).sign
  | [] => by simp [cmpF, prm, codeL]
  | c :: os => by
    have ih := cmp_code hw h h' os
    obtain ⟨a1, a2⟩ := code_bounds (prm_bit (os := os) h)
    obtain ⟨b1, b2⟩ := code_bounds (prm_bit (os := os) h')
    rw [prm_len] at a2 b2
    have hp := pow_pos2 os.length
    show (if r.getD c.toNat 0 < r'.getD c.toNat 0 then -way else if r'.getD c.toNat 0 < r.getD c.toNat 0 then way else cmpF r r' (os.map fun c => (c, way))) =
      (way * ((r.getD c.toNat 0 * 2 ^ (prm os r).length + codeL (prm os r)) - (r'.getD c.toNat 0 * 2 ^ (prm os r').length + codeL (prm os r')))).sign
    rw [prm_len, prm_len]
    rcases getD_bit h c.toNat with e | e <;> rcases getD_bit h' c.toNat with e' | e' <;> rw [e, e']
    · rw [if_neg (by omega), if_neg (by omega), ih]; congr 2; omega
    · rw [if_pos (by omega)]
      rcases hw with rfl | rfl
      · rw [Int.sign_eq_neg_one_of_neg (by omega)]
      · rw [Int.sign_eq_one_of_pos (by omega)]; rfl
    · rw [if_neg (by omega), if_pos (by omega)]
      rcases hw with rfl | rfl
      · rw [Int.sign_eq_one_of_pos (by omega)]
      · rw [Int.sign_eq_neg_one_of_neg (by omega)]
    · rw [if_neg (by omega), if_neg (by omega), ih]; congr 2; omega
theorem cmp_val {way : Int} (hw : way = 1 ∨ way = -1) {r r' : List Int} (h : Bit r) (h' : Bit r') (os : List Int) : cmpF r r' (os.map fun c => (c, way)) = (valF os way r - valF os way r').sign := by
  rw [cmp_code hw h h', val_code, val_code, ← Int.mul_sub]

/-- the digits of a number, the highest first -/
def bitsF : Nat → Nat → List Int
  | 0, _ => []
  | n + 1, b => ((b / 2 ^ n : Nat) : Int) :: bitsF n (b % 2 ^ n)
theorem bits_code : ∀ {xs : List Int}, Bit xs → bitsF xs.length (codeL xs).toNat = xs
  | [], _ => rfl
  | x :: xs, h => by
    obtain ⟨h1, h2⟩ := code_bounds h.tail
    have ih := bits_code h.tail
    obtain ⟨c, hc⟩ : ∃ c : Nat, codeL xs = (c : Int) := ⟨(codeL xs).toNat, by omega⟩
    have hp : ((2 : Int) ^ xs.length) = ((2 ^ xs.length : Nat) : Int) := by rw [Int.natCast_pow]; rfl
    rw [hc, hp] at h2
    have h2' : c < 2 ^ xs.length := by omega
    rw [hc] at ih
    have ih' : bitsF xs.length c = xs := ih
    show bitsF (xs.length + 1) (x * 2 ^ xs.length + codeL xs).toNat = _
    rw [hc, hp]
    unfold bitsF
    rcases h x (.head _) with rfl | rfl
    · have e : (0 * ((2 ^ xs.length : Nat) : Int) + (c : Int)).toNat = c := by omega
      rw [e, Nat.div_eq_of_lt h2', Nat.mod_eq_of_lt h2', ih']; rfl
    · have e : (1 * ((2 ^ xs.length : Nat) : Int) + (c : Int)).toNat = 2 ^ xs.length + c := by omega
      rw [e, Nat.add_div_left _ (Nat.pow_pos (by decide)), Nat.div_eq_of_lt h2', Nat.add_mod_left, Nat.mod_eq_of_lt h2', ih']; rfl
-- Pure2
def idx (n : Nat) : List Int := (List.range n).map fun (i : Nat) => (i : Int)
theorem prm_idx (r : List Int) : prm (idx r.length) r = r := by
  unfold prm idx
  rw [List.map_map]
  apply List.ext_getElem (by simp)
  intro i h1 h2
  simp [h2]
theorem prm_perm {os r : List Int} (h : os.Perm (idx r.length)) : (prm os r).Perm r := by
  have := h.map (fun c => r.getD c.toNat 0)
  have e : (idx r.length).map (fun c => r.getD c.toNat 0) = r := prm_idx r
  rw [e] at this
  exact this
theorem prm_count {os r : List Int} (h : os.Perm (idx r.length)) : (prm os r).count 1 = r.count 1 := (prm_perm h).count_eq 1
theorem getD_one {r : List Int} {i : Nat} : r[i]? = some 1 ↔ r.getD i 0 = 1 := by
  rw [List.getD_eq_getElem?_getD]
  cases r[i]? <;> simp
theorem sub_iff {r r' : List Int} : subRow r r' = true ↔ ∀ i, i < r.length → r.getD i 0 = 1 → r'.getD i 0 = 1 := by
  unfold subRow
  rw [List.all_eq_true]
  constructor
  · intro h i hi h1
    have := h i (List.mem_range.mpr hi)
    rw [getD_one.mpr h1] at this
    exact getD_one.mp (by simpa using this)
  · intro h i hi
    by_cases q : r[i]? = some 1
    · simp [getD_one.mpr (h i (List.mem_range.mp hi) (getD_one.mp q))]
    · simp [q]
theorem prm_at {os r : List Int} {j : Nat} (hj : j < os.length) : (prm os r).getD j 0 = r.getD os[j].toNat 0 := by
  unfold prm
  rw [List.getD_eq_getElem?_getD, List.getElem?_map, List.getElem?_eq_getElem hj]; rfl
theorem prm_sub {os r r' : List Int} (h : os.Perm (idx r.length)) : subRow (prm os r) (prm os r') = subRow r r' := by
  rw [Bool.eq_iff_iff, sub_iff, sub_iff]
  constructor
  · intro H i hi h1
    have hm : (i : Int) ∈ os := h.mem_iff.mpr (List.mem_map.mpr ⟨i, List.mem_range.mpr hi, rfl⟩)
    obtain ⟨j, hj, e⟩ := List.getElem_of_mem hm
    have := H j (by rw [prm_len]; exact hj)
    rw [prm_at hj, prm_at hj, e, Int.toNat_natCast] at this
    exact this h1
  · intro H j hj
    rw [prm_len] at hj
    rw [prm_at hj, prm_at hj]
    have hm : os[j] ∈ idx r.length := h.mem_iff.mp (List.getElem_mem hj)
    obtain ⟨i, hi, e⟩ := List.mem_map.mp hm
    rw [← e, Int.toNat_natCast]
    exact H i (List.mem_range.mp hi)
theorem prm_set {os r r' : List Int} (h : os.Perm (idx r.length)) (hl : r'.length = r.length) : setCmp (prm os r) (prm os r') = setCmp r r' := by
  have h' : os.Perm (idx r'.length) := by rw [hl]; exact h
  unfold setCmp
  rw [prm_count h, prm_count h', prm_sub h, prm_sub h']
theorem prm_inj {os r r' : List Int} (h : os.Perm (idx r.length)) (hl : r'.length = r.length) (e : prm os r = prm os r') : r = r' := by
  apply List.ext_getElem hl.symm
  intro i h1 h2
  have hm : (i : Int) ∈ os := h.mem_iff.mpr (List.mem_map.mpr ⟨i, List.mem_range.mpr h1, rfl⟩)
  obtain ⟨j, hj, ej⟩ := List.getElem_of_mem hm
  have q : (prm os r).getD j 0 = (prm os r').getD j 0 := by rw [e]
  rw [prm_at hj, prm_at hj, ej, Int.toNat_natCast] at q
  simpa [h1, h2] using q

/-- the sorted insertion -/
def Asc (l : List (Value × Crd)) : Prop := l.Pairwise fun y z => y.2.val ≤ z.2.val
theorem place_le {sel : List (Int × Int)} {acc : List (Value × Crd)} {x : Value × Crd} : ∀ {k : Nat}, k ≤ acc.length → placeF sel acc x k ≤ k
  | 0, _ => Nat.le_refl _
  | k + 1, h => by
    unfold placeF
    rw [List.getElem?_eq_getElem (by omega)]
    simp only
    split
    · exact Nat.le_trans (place_le (by omega)) (Nat.le_succ _)
    · exact Nat.le_refl _
theorem place_above {sel : List (Int × Int)} {acc : List (Value × Crd)} {x : Value × Crd} : ∀ {k : Nat}, k ≤ acc.length → ∀ i (hi : i < acc.length), placeF sel acc x k ≤ i → i < k → cmpF acc[i].2.row x.2.row sel = 1
  | 0, _, _, _, _, h => absurd h (Nat.not_lt_zero _)
  | k + 1, h, i, hi, h1, h2 => by
    unfold placeF at h1
    rw [List.getElem?_eq_getElem (by omega)] at h1
    simp only at h1
    split at h1
    · rename_i q
      by_cases e : i = k
      · subst e; exact q
      · exact place_above (by omega) i hi h1 (by omega)
    · omega
theorem place_below {sel : List (Int × Int)} {acc : List (Value × Crd)} {x : Value × Crd} : ∀ {k : Nat}, k ≤ acc.length → ∀ j, placeF sel acc x k = j + 1 → ∃ hj : j < acc.length, cmpF acc[j].2.row x.2.row sel ≠ 1
  | 0, _, j, h => by cases h
  | k + 1, h, j, e => by
    unfold placeF at e
    rw [List.getElem?_eq_getElem (by omega)] at e
    simp only at e
    split at e
    · exact place_below (by omega) j e
    · rename_i q
      have : k = j := by omega
      subst this
      exact ⟨by omega, q⟩
theorem insF_perm {sel : List (Int × Int)} {acc : List (Value × Crd)} {x : Value × Crd} : (insF sel acc x).Perm (x :: acc) := by
  unfold insF
  refine List.perm_middle.trans ?_
  rw [List.take_append_drop]
theorem insF_asc {sel : List (Int × Int)} {acc : List (Value × Crd)} {x : Value × Crd} (ha : Asc acc) (hc : ∀ y ∈ acc, cmpF y.2.row x.2.row sel = (y.2.val - x.2.val).sign) : Asc (insF sel acc x) := by
  have hk := place_le (sel := sel) (x := x) (Nat.le_refl acc.length)
  have hlo : ∀ y ∈ acc.take (placeF sel acc x acc.length), y.2.val ≤ x.2.val := by
    intro y hy
    obtain ⟨i, hi, rfl⟩ := List.getElem_of_mem hy
    rw [List.length_take] at hi
    obtain ⟨j, hj⟩ : ∃ j, placeF sel acc x acc.length = j + 1 := ⟨placeF sel acc x acc.length - 1, by omega⟩
    obtain ⟨hjl, hne⟩ := place_below (Nat.le_refl acc.length) j hj
    rw [hc _ (List.getElem_mem hjl)] at hne
    have hjx : acc[j].2.val ≤ x.2.val := by
      rcases Int.lt_trichotomy 0 (acc[j].2.val - x.2.val) with q | q | q
      · exact absurd (Int.sign_eq_one_of_pos q) hne
      · omega
      · omega
    rw [List.getElem_take]
    by_cases e : i = j
    · subst e; exact hjx
    · exact Int.le_trans (List.pairwise_iff_getElem.mp ha i j (by omega) hjl (by omega)) hjx
  have hhi : ∀ y ∈ acc.drop (placeF sel acc x acc.length), x.2.val ≤ y.2.val := by
    intro y hy
    obtain ⟨i, hi, rfl⟩ := List.getElem_of_mem hy
    rw [List.length_drop] at hi
    rw [List.getElem_drop]
    have q := place_above (sel := sel) (x := x) (Nat.le_refl acc.length) (placeF sel acc x acc.length + i) (by omega) (by omega) (by omega)
    rw [hc _ (List.getElem_mem _)] at q
    have := Int.sign_eq_one_iff_pos.mp q
    omega
  unfold insF Asc
  rw [List.pairwise_append]
  refine ⟨ha.sublist (List.take_sublist _ _), ?_, ?_⟩
  · rw [List.pairwise_cons]
    exact ⟨hhi, ha.sublist (List.drop_sublist _ _)⟩
  · intro y hy z hz
    rcases List.mem_cons.mp hz with rfl | hz
    · exact hlo y hy
    · exact Int.le_trans (hlo y hy) (hhi z hz)
theorem fold_asc {sel : List (Int × Int)} : ∀ {zs acc : List (Value × Crd)}, Asc acc → (∀ y ∈ zs ++ acc, ∀ x ∈ zs, cmpF y.2.row x.2.row sel = (y.2.val - x.2.val).sign) → Asc (zs.foldl (insF sel) acc) ∧ (zs.foldl (insF sel) acc).Perm (zs ++ acc)
  | [], acc, h, _ => ⟨h, .refl _⟩
  | z :: zs, acc, h, hc => by
    have h1 := insF_asc (x := z) h fun y hy => hc y (.tail _ (List.mem_append_right _ hy)) z (.head _)
    obtain ⟨a, b⟩ := fold_asc (zs := zs) h1 fun y hy x hx => hc y (by
      rcases List.mem_append.mp hy with q | q
      · exact .tail _ (List.mem_append_left _ q)
      · rcases insF_mem q with rfl | q
        · exact .head _
        · exact .tail _ (List.mem_append_right _ q)) x (.tail _ hx)
    refine ⟨a, b.trans ?_⟩
    refine (insF_perm.append_left zs).trans ?_
    exact List.perm_middle
-- Pure3
def CardOf (n : Nat) (size : Int) (os : List Int) (way : Int) (c : Crd) : Prop := ∃ a, a < 2 ^ n ∧ (rowF n a).sum = size ∧ c = ⟨rowF n a, valF os way (rowF n a)⟩
theorem mem_cards {n : Nat} {size : Int} {os : List Int} {way : Int} {c : Crd} (h : c ∈ cardsTo n size os way (2 ^ n)) : CardOf n size os way c := by
  obtain ⟨a, ha, rfl⟩ := List.mem_map.mp h
  obtain ⟨h1, h2⟩ := List.mem_filter.mp ha
  exact ⟨a, List.mem_range.mp h1, by simpa using h2, rfl⟩
theorem row_inj {n : Nat} (hn : n = 3 ∨ n = 4 ∨ n = 5) {a b : Nat} (ha : a < 2 ^ n) (hb : b < 2 ^ n) (e : rowF n a = rowF n b) : a = b := by
  have k3 : ∀ a b : Fin 8, rowF 3 a = rowF 3 b → a = b := by decide +kernel
  have k4 : ∀ a b : Fin 16, rowF 4 a = rowF 4 b → a = b := by decide +kernel
  have k5 : ∀ a b : Fin 32, rowF 5 a = rowF 5 b → a = b := by decide +kernel
  rcases hn with rfl | rfl | rfl
  · exact congrArg Fin.val (k3 ⟨a, ha⟩ ⟨b, hb⟩ e)
  · exact congrArg Fin.val (k4 ⟨a, ha⟩ ⟨b, hb⟩ e)
  · exact congrArg Fin.val (k5 ⟨a, ha⟩ ⟨b, hb⟩ e)

/-- three_way_cmp of two sets by their numbers -/
def setV (n : Nat) (way : Int) (v u : Int) : Int := setCmp (bitsF n (way * v).toNat) (bitsF n (way * u).toNat)
theorem way_back {way : Int} (hw : way = 1 ∨ way = -1) (x : Int) : way * (way * x) = x := by rcases hw with rfl | rfl <;> omega
theorem bits_val {n : Nat} {os : List Int} {way : Int} (hw : way = 1 ∨ way = -1) (hos : os.Perm (idx n)) (a : Nat) : bitsF n (way * valF os way (rowF n a)).toNat = prm os (rowF n a) := by
  rw [val_code, way_back hw]
  have hb := bits_code (prm_bit (os := os) (rowF_bit n a))
  have hl : (prm os (rowF n a)).length = n := by rw [prm_len, hos.length_eq]; simp [idx]
  rw [hl] at hb
  exact hb
theorem set_val {n : Nat} {s₁ s₂ : Int} {os : List Int} {way : Int} (hw : way = 1 ∨ way = -1) (hos : os.Perm (idx n)) {c d : Crd} (hc : CardOf n s₁ os way c) (hd : CardOf n s₂ os way d) : setCmp c.row d.row = setV n way c.val d.val := by
  obtain ⟨a, _, _, rfl⟩ := hc
  obtain ⟨b, _, _, rfl⟩ := hd
  unfold setV
  simp only
  rw [bits_val hw hos, bits_val hw hos]
  exact (prm_set (by rw [rowF_len]; exact hos) (by rw [rowF_len, rowF_len])).symm
theorem val_inj {n : Nat} {s₁ s₂ : Int} {os : List Int} {way : Int} (hw : way = 1 ∨ way = -1) (hos : os.Perm (idx n)) {c d : Crd} (hc : CardOf n s₁ os way c) (hd : CardOf n s₂ os way d) (e : c.val = d.val) : c.row = d.row := by
  obtain ⟨a, _, _, rfl⟩ := hc
  obtain ⟨b, _, _, rfl⟩ := hd
  have h1 := bits_val hw hos a
  have h2 := bits_val hw hos b
  simp only at e
  rw [e, h2] at h1
  exact prm_inj (by rw [rowF_len]; exact hos) (by rw [rowF_len, rowF_len]) h1.symm

/-- the numbers of a size in rising order -/
def VS (n : Nat) (size way : Int) : List Int :=
  if way = 1 then ((List.range (2 ^ n)).filter fun b => decide ((bitsF n b).sum = size)).map fun (b : Nat) => (b : Int)
  else (((List.range (2 ^ n)).filter fun b => decide ((bitsF n b).sum = size)).map fun (b : Nat) => -(b : Int)).reverse
theorem perm_sum {xs ys : List Int} (h : xs.Perm ys) : xs.sum = ys.sum := by
  induction h with
  | nil => rfl
  | cons x _ ih => rw [List.sum_cons, List.sum_cons, ih]
  | swap x y l => simp only [List.sum_cons]; omega
  | trans _ _ h1 h2 => exact h1.trans h2
theorem val_mem {n : Nat} {size : Int} {os : List Int} {way : Int} (hw : way = 1 ∨ way = -1) (hos : os.Perm (idx n)) {c : Crd} (hc : CardOf n size os way c) : c.val ∈ VS n size way := by
  obtain ⟨a, _, hs, rfl⟩ := hc
  have hb := bits_val hw hos a
  have hl : (prm os (rowF n a)).length = n := by rw [prm_len, hos.length_eq]; simp [idx]
  obtain ⟨h1, h2⟩ := code_bounds (prm_bit (os := os) (rowF_bit n a))
  rw [hl] at h2
  have hsum : (prm os (rowF n a)).sum = size := (perm_sum (prm_perm (by rw [rowF_len]; exact hos))).trans hs
  simp only
  rw [val_code, way_back hw] at hb
  rw [val_code]
  obtain ⟨b, eb⟩ : ∃ b : Nat, codeL (prm os (rowF n a)) = (b : Int) := ⟨(codeL (prm os (rowF n a))).toNat, by omega⟩
  rw [eb] at hb h2 ⊢
  have hp : ((2 : Int) ^ n) = ((2 ^ n : Nat) : Int) := by rw [Int.natCast_pow]; rfl
  rw [hp] at h2
  have hlt : b < 2 ^ n := by omega
  rw [Int.toNat_natCast] at hb
  have hm : b ∈ (List.range (2 ^ n)).filter fun b => decide ((bitsF n b).sum = size) := List.mem_filter.mpr ⟨List.mem_range.mpr hlt, by simp only [decide_eq_true_eq]; rw [hb]; exact hsum⟩
  unfold VS
  rcases hw with rfl | rfl
  · rw [if_pos rfl]
    exact List.mem_map.mpr ⟨b, hm, by omega⟩
  · rw [if_neg (by decide)]
    exact List.mem_reverse.mpr (List.mem_map.mpr ⟨b, hm, by omega⟩)
theorem asc_sub : ∀ {ys xs : List Int}, xs.Pairwise (· < ·) → ys.Pairwise (· < ·) → (∀ x ∈ xs, x ∈ ys) → xs.Sublist ys
  | [], [], _, _, _ => .slnil
  | [], x :: xs, _, _, h => absurd (h x (.head _)) (by simp)
  | y :: ys, [], _, _, _ => List.nil_sublist _
  | y :: ys, x :: xs, hx, hy, h => by
    rw [List.pairwise_cons] at hx hy
    by_cases e : x = y
    · subst e
      refine (asc_sub hx.2 hy.2 fun z hz => ?_).cons_cons x
      rcases List.mem_cons.mp (h z (.tail _ hz)) with q | q
      · have := hx.1 z hz; omega
      · exact q
    · have hxy : x ∈ ys := by
        rcases List.mem_cons.mp (h x (.head _)) with q | q
        · exact absurd q e
        · exact q
      have hlt := hy.1 x hxy
      refine (asc_sub (List.pairwise_cons.mpr hx) hy.2 fun z hz => ?_).cons y
      rcases List.mem_cons.mp (h z hz) with q | q
      · rcases List.mem_cons.mp hz with r | r
        · omega
        · have := hx.1 z r; omega
      · exact q
theorem vs_asc {n : Nat} (hn : n = 3 ∨ n = 4 ∨ n = 5) (size way : Int) : (VS n size way).Pairwise (· < ·) := by
  have h : ((List.range (2 ^ n)).filter fun b => decide ((bitsF n b).sum = size)).Pairwise (· < ·) := List.Pairwise.filter _ List.pairwise_lt_range
  unfold VS
  split
  · exact List.Pairwise.map _ (fun a b q => by omega) h
  · rw [List.pairwise_reverse]
    exact List.Pairwise.map _ (fun a b q => by omega) h
theorem vs_len {n : Nat} (hn : n = 3 ∨ n = 4 ∨ n = 5) {size : Int} (h0 : 0 ≤ size) (h1 : size ≤ 5) (os : List Int) (way : Int) : (cardsTo n size os way (2 ^ n)).length = (VS n size way).length := by
  have k3 : ∀ z : Fin 6, ((List.range (2 ^ 3)).filter fun a => decide ((rowF 3 a).sum = (z.val : Int))).length = ((List.range (2 ^ 3)).filter fun b => decide ((bitsF 3 b).sum = (z.val : Int))).length := by decide +kernel
  have k4 : ∀ z : Fin 6, ((List.range (2 ^ 4)).filter fun a => decide ((rowF 4 a).sum = (z.val : Int))).length = ((List.range (2 ^ 4)).filter fun b => decide ((bitsF 4 b).sum = (z.val : Int))).length := by decide +kernel
  have k5 : ∀ z : Fin 6, ((List.range (2 ^ 5)).filter fun a => decide ((rowF 5 a).sum = (z.val : Int))).length = ((List.range (2 ^ 5)).filter fun b => decide ((bitsF 5 b).sum = (z.val : Int))).length := by decide +kernel
  obtain ⟨z, rfl⟩ : ∃ z : Nat, size = (z : Int) := ⟨size.toNat, by omega⟩
  have hz : z < 6 := by omega
  have hv : (VS n (z : Int) way).length = ((List.range (2 ^ n)).filter fun b => decide ((bitsF n b).sum = (z : Int))).length := by unfold VS; split <;> simp
  rw [hv]
  unfold cardsTo
  rw [List.length_map]
  rcases hn with rfl | rfl | rfl
  · exact k3 ⟨z, hz⟩
  · exact k4 ⟨z, hz⟩
  · exact k5 ⟨z, hz⟩
theorem cards_vals_nodup {n : Nat} (hn : n = 3 ∨ n = 4 ∨ n = 5) {size : Int} {os : List Int} {way : Int} (hw : way = 1 ∨ way = -1) (hos : os.Perm (idx n)) : ((cardsTo n size os way (2 ^ n)).map (·.val)).Nodup := by
  unfold cardsTo
  rw [List.map_map]
  have h : ((List.range (2 ^ n)).filter fun a => decide ((rowF n a).sum = size)).Pairwise (fun a b => a < 2 ^ n ∧ b < 2 ^ n ∧ a ≠ b) := by
    refine List.Pairwise.imp_of_mem ?_ (List.Pairwise.filter _ List.nodup_range)
    intro a b ha hb hne
    exact ⟨List.mem_range.mp (List.mem_filter.mp ha).1, List.mem_range.mp (List.mem_filter.mp hb).1, hne⟩
  refine List.Pairwise.map _ ?_ h
  rintro a b ⟨ha, hb, hne⟩ e
  refine hne (row_inj hn ha hb ?_)
  exact val_inj (c := ⟨rowF n a, valF os way (rowF n a)⟩) (d := ⟨rowF n b, valF os way (rowF n b)⟩) hw hos ⟨a, ha, rfl, rfl⟩ ⟨b, hb, rfl, rfl⟩ e
/-- the sorted list's numbers are the known ones -/
theorem asc_vals {n : Nat} (hn : n = 3 ∨ n = 4 ∨ n = 5) {size : Int} (h0 : 0 ≤ size) (h1 : size ≤ 5) {os : List Int} {way : Int} (hw : way = 1 ∨ way = -1) (hos : os.Perm (idx n)) {zs Ls : List (Value × Crd)} (hz : zs.map (·.2) = cardsTo n size os way (2 ^ n)) (hp : Ls.Perm zs) (ha : Asc Ls) : Ls.map (·.2.val) = VS n size way := by
  have hnd : (Ls.map (·.2.val)).Nodup := by
    have e : zs.map (·.2.val) = (cardsTo n size os way (2 ^ n)).map (·.val) := by rw [← hz, List.map_map]; rfl
    exact (hp.map (·.2.val)).nodup_iff.mpr (e ▸ cards_vals_nodup hn hw hos)
  have hlt : (Ls.map (·.2.val)).Pairwise (· < ·) := by
    have h2 : (Ls.map (·.2.val)).Pairwise (· ≤ ·) := List.Pairwise.map _ (fun _ _ q => q) ha
    refine (h2.and hnd).imp fun q => ?_
    obtain ⟨q1, q2⟩ := q
    omega
  refine (asc_sub hlt (vs_asc hn size way) fun x hx => ?_).eq_of_length ?_
  · obtain ⟨z, hzm, rfl⟩ := List.mem_map.mp hx
    have : z.2 ∈ zs.map (·.2) := List.mem_map.mpr ⟨z, hp.mem_iff.mp hzm, rfl⟩
    rw [hz] at this
    exact val_mem hw hos (mem_cards this)
  · rw [List.length_map, hp.length_eq, ← vs_len hn h0 h1 os way, ← hz, List.length_map]
-- Pure4
def kOf (n : Nat) (size way : Int) : Nat := if way = 1 then size.toNat else ((n : Int) - size).toNat
/-- does the set of u meet v -/
def meets (n : Nat) (way : Int) (v u : Int) : Bool := setV n way v u == -way
def tabF (n : Nat) (size way : Int) : List (List Bool) := (VS n size way).map fun u => (VS n (size - way) way).map fun v => meets n way v u
def chk (le : List Nat) : List (List Bool) → List Bool → Nat → Bool
  | [], acc, c => Nat.ble (le.getD c 0) (acc.count true)
  | t :: ts, acc, c => chk le ts acc c && chk le ts (List.zipWith or acc t) (c + 1)
theorem chk_sub {le : List Nat} : ∀ {ts : List (List Bool)} {acc : List Bool} {c : Nat}, chk le ts acc c = true → ∀ {us : List (List Bool)}, us.Sublist ts → le.getD (c + us.length) 0 ≤ (us.foldl (List.zipWith or) acc).count true
  | [], acc, c, h, us, hs => by
    cases hs
    exact Nat.le_of_ble_eq_true h
  | t :: ts, acc, c, h, us, hs => by
    unfold chk at h
    rw [Bool.and_eq_true] at h
    cases hs with
    | cons _ hs => exact chk_sub h.1 hs
    | cons_cons _ hs =>
      rename_i us'
      have := chk_sub h.2 hs
      rw [List.length_cons, List.foldl_cons]
      rw [Nat.add_assoc, Nat.add_comm 1] at this
      exact this
theorem fold_any {V : List Int} {q : Int → Int → Bool} : ∀ (us : List Int) (g : Int → Bool), (us.map fun u => V.map fun v => q v u).foldl (List.zipWith or) (V.map g) = V.map fun v => g v || us.any (q v)
  | [], g => by simp
  | u :: us, g => by
    have e : List.zipWith or (V.map g) (V.map fun v => q v u) = V.map fun v => g v || q v u := by
      induction V with
      | nil => rfl
      | cons v V ih => simp [ih]
    rw [List.map_cons, List.foldl_cons, e, fold_any us]
    simp [Bool.or_assoc]
theorem count_map_true {V : List Int} {g : Int → Bool} : (V.map g).count true = (V.filter g).length := by
  induction V with
  | nil => rfl
  | cons v V ih =>
    rw [List.map_cons, List.count_cons, ih, List.filter_cons]
    cases h : g v <;> simp
def leTab (k : Nat) : List Nat := (List.range 11).map fun (m : Nat) => (leF k (m : Int)).toNat
/-- all that is to be looked at, for one size -/
def good (n : Nat) (size way : Int) : Bool :=
  chk (leTab (kOf n size way)) (tabF n size way) ((VS n (size - way) way).map fun _ => false) 0 &&
  (List.range ((VS n size way).length + 1)).all fun m => ((VS n (size - way) way).filter fun v => ((VS n size way).take m).any (meets n way v)) == (VS n (size - way) way).take (leF (kOf n size way) (m : Int)).toNat
theorem good3 : good 3 1 1 = true ∧ good 3 2 1 = true ∧ good 3 1 (-1) = true ∧ good 3 2 (-1) = true := by decide +kernel
theorem good4 : good 4 1 1 = true ∧ good 4 2 1 = true ∧ good 4 3 1 = true ∧ good 4 1 (-1) = true ∧ good 4 2 (-1) = true ∧ good 4 3 (-1) = true := by decide +kernel
theorem good5a : good 5 1 1 = true ∧ good 5 4 1 = true ∧ good 5 1 (-1) = true ∧ good 5 4 (-1) = true := by decide +kernel
theorem good5b : good 5 2 1 = true := by decide +kernel
theorem good5c : good 5 3 1 = true := by decide +kernel
theorem good5d : good 5 2 (-1) = true := by decide +kernel
theorem good5e : good 5 3 (-1) = true := by decide +kernel
-- Pure5
theorem good_all {n : Nat} {size way : Int} (hn : n = 3 ∨ n = 4 ∨ n = 5) (h0 : 1 ≤ size) (h1 : size < n) (hw : way = 1 ∨ way = -1) : good n size way = true := by
  have e3 := good3; have e4 := good4; have e5 := good5a
  rcases hn with rfl | rfl | rfl
  · have : size = 1 ∨ size = 2 := by omega
    rcases this with rfl | rfl <;> rcases hw with rfl | rfl
    · exact e3.1
    · exact e3.2.2.1
    · exact e3.2.1
    · exact e3.2.2.2
  · have : size = 1 ∨ size = 2 ∨ size = 3 := by omega
    rcases this with rfl | rfl | rfl <;> rcases hw with rfl | rfl
    · exact e4.1
    · exact e4.2.2.2.1
    · exact e4.2.1
    · exact e4.2.2.2.2.1
    · exact e4.2.2.1
    · exact e4.2.2.2.2.2
  · have : size = 1 ∨ size = 2 ∨ size = 3 ∨ size = 4 := by omega
    rcases this with rfl | rfl | rfl | rfl <;> rcases hw with rfl | rfl
    · exact e5.1
    · exact e5.2.2.1
    · exact good5b
    · exact good5d
    · exact good5c
    · exact good5e
    · exact e5.2.1
    · exact e5.2.2.2
theorem inj_on {g : Value × Crd → Int} : ∀ {l : List (Value × Crd)}, (l.map g).Nodup → ∀ a ∈ l, ∀ b ∈ l, g a = g b → a = b
  | [], _, _, h, _, _, _ => nomatch h
  | x :: l, hnd, a, ha, b, hb, e => by
    rw [List.map_cons, List.nodup_cons] at hnd
    rcases List.mem_cons.mp ha with q | q <;> rcases List.mem_cons.mp hb with r | r
    · exact q.trans r.symm
    · exact absurd (List.mem_map.mpr ⟨b, r, by rw [← e, q]⟩) hnd.1
    · exact absurd (List.mem_map.mpr ⟨a, q, by rw [e, r]⟩) hnd.1
    · exact inj_on hnd.2 a q b r e
theorem map_inj_on {g : Value × Crd → Int} {l : List (Value × Crd)} (hi : ∀ a ∈ l, ∀ b ∈ l, g a = g b → a = b) : ∀ {xs ys : List (Value × Crd)}, (∀ x ∈ xs, x ∈ l) → (∀ y ∈ ys, y ∈ l) → xs.map g = ys.map g → xs = ys
  | [], [], _, _, _ => rfl
  | [], y :: ys, _, _, e => by simp at e
  | x :: xs, [], _, _, e => by simp at e
  | x :: xs, y :: ys, hx, hy, e => by
    simp only [List.map_cons, List.cons.injEq] at e
    rw [hi x (hx x (.head _)) y (hy y (.head _)) e.1, map_inj_on hi (fun z hz => hx z (.tail _ hz)) (fun z hz => hy z (.tail _ hz)) e.2]
section
variable {n : Nat} {size way : Int} {os : List Int} {Lm Ln : List (Value × Crd)}
theorem met_vals (hw : way = 1 ∨ way = -1) (hos : os.Perm (idx n)) (hm : ∀ z ∈ Lm, CardOf n size os way z.2) (hN : ∀ z ∈ Ln, CardOf n (size - way) os way z.2) {fs : List (Value × Crd)} (hf : ∀ z ∈ fs, z ∈ Lm) :
    (metF fs Ln (-way)).map (·.2.val) = (Ln.map (·.2.val)).filter fun v => (fs.map (·.2.val)).any (meets n way v) := by
  unfold metF
  rw [List.filter_map]
  congr 1
  apply List.filter_congr
  intro o ho
  show (fs.any fun f => setCmp o.2.row f.2.row == -way) = (fs.map (·.2.val)).any (meets n way o.2.val)
  rw [List.any_map]
  have : ∀ f ∈ fs, (setCmp o.2.row f.2.row == -way) = meets n way o.2.val f.2.val := fun f hf' => by
    unfold meets
    rw [set_val hw hos (hN o ho) (hm f (hf f hf'))]
  clear hf
  induction fs with
  | nil => rfl
  | cons f fs ih =>
    rw [List.any_cons, List.any_cons, this f (.head _), ih fun g hg => this g (.tail _ hg)]
    rfl
theorem met_take (hn : n = 3 ∨ n = 4 ∨ n = 5) (h0 : 1 ≤ size) (h1 : size < n) (hw : way = 1 ∨ way = -1) (hos : os.Perm (idx n)) (hm : ∀ z ∈ Lm, CardOf n size os way z.2) (hN : ∀ z ∈ Ln, CardOf n (size - way) os way z.2)
    (vm : Lm.map (·.2.val) = VS n size way) (vn : Ln.map (·.2.val) = VS n (size - way) way) {k : Nat} (hk : k ≤ Lm.length) : metF (Lm.take k) Ln (-way) = Ln.take (leF (kOf n size way) (k : Int)).toNat := by
  have hg := good_all hn h0 h1 hw
  unfold good at hg
  rw [Bool.and_eq_true, List.all_eq_true] at hg
  have hlen : Lm.length = (VS n size way).length := by rw [← vm, List.length_map]
  have h2 := hg.2 k (List.mem_range.mpr (by omega))
  rw [beq_iff_eq] at h2
  have nd : (Ln.map (·.2.val)).Nodup := by rw [vn]; exact (vs_asc hn _ _).imp fun h => by omega
  refine map_inj_on (inj_on nd) (fun x hx => (List.mem_filter.mp hx).1) (fun y hy => List.mem_of_mem_take hy) ?_
  rw [met_vals hw hos hm hN fun z hz => List.mem_of_mem_take hz, List.map_take, List.map_take, vm, vn]
  exact h2
theorem met_least (hn : n = 3 ∨ n = 4 ∨ n = 5) (h0 : 1 ≤ size) (h1 : size < n) (hw : way = 1 ∨ way = -1) (hos : os.Perm (idx n)) (hm : ∀ z ∈ Lm, CardOf n size os way z.2) (hN : ∀ z ∈ Ln, CardOf n (size - way) os way z.2)
    (vm : Lm.map (·.2.val) = VS n size way) (vn : Ln.map (·.2.val) = VS n (size - way) way) {fs : List (Value × Crd)} (hf : fs.Sublist Lm) (hl : fs.length ≤ 10) : (leF (kOf n size way) (fs.length : Int)).toNat ≤ (metF fs Ln (-way)).length := by
  have hg := good_all hn h0 h1 hw
  unfold good at hg
  rw [Bool.and_eq_true] at hg
  have hs : ((fs.map (·.2.val)).map fun u => (VS n (size - way) way).map fun v => meets n way v u).Sublist (tabF n size way) := by
    unfold tabF
    rw [← vm]
    exact (hf.map _).map _
  have h2 := chk_sub hg.1 hs
  rw [fold_any, count_map_true, Nat.zero_add, List.length_map, List.length_map] at h2
  have e : (metF fs Ln (-way)).length = ((VS n (size - way) way).filter fun v => false || (fs.map (·.2.val)).any (meets n way v)).length := by
    rw [← vn, ← List.length_map (f := fun z : Value × Crd => z.2.val), met_vals hw hos hm hN fun z hz => hf.subset hz]
    simp
  rw [e]
  refine Nat.le_trans (Nat.le_of_eq ?_) h2
  unfold leTab
  have hlt : fs.length < 11 := by omega
  rw [List.getD_eq_getElem?_getD, List.getElem?_map, List.getElem?_range hlt]
  rfl
end
-- Pure6
section
variable {w : World} {G : Heap} {n : Nat} {size way s₁ s₂ : Int} {os : List Int} {zs zm zn : List (Value × Crd)} {c d : Crd}
theorem idx_of (hp : os.Perm ((List.range ((n : Int)).toNat).map (fun (i : Nat) => (i : Int)))) : os.Perm (idx n) := hp
theorem card_of (hz : zs.map (·.2) = cardsTo n size os way (2 ^ n)) {z : Value × Crd} (h : z ∈ zs) : CardOf n size os way z.2 := mem_cards (hz ▸ List.mem_map.mpr ⟨z, h, rfl⟩)
theorem CardOf.len (h : CardOf n size os way c) : c.row.length = n := by obtain ⟨a, _, _, rfl⟩ := h; exact rowF_len n a
theorem CardOf.bit (h : CardOf n size os way c) : Bit c.row := by obtain ⟨a, _, _, rfl⟩ := h; exact rowF_bit n a
theorem CardOf.count (h : CardOf n size os way c) : ((c.row.count 1 : Nat) : Int) = size := by
  obtain ⟨a, _, e, rfl⟩ := h
  rw [← sum_count (rowF_bit n a)]; exact e
theorem CardOf.valE (h : CardOf n size os way c) : c.val = valF os way c.row := by obtain ⟨a, _, _, rfl⟩ := h; rfl
theorem CardOf.bound (hn : n = 3 ∨ n = 4 ∨ n = 5) (hw : way = 1 ∨ way = -1) (hos : os.Perm (idx n)) (h : CardOf n size os way c) : -1000 < c.val ∧ c.val < 1000 := by
  rw [h.valE, val_code]
  obtain ⟨h1, h2⟩ := code_bounds (prm_bit (os := os) h.bit)
  have hl : (prm os c.row).length = n := by rw [prm_len, hos.length_eq]; simp [idx]
  rw [hl] at h2
  have : (2 : Int) ^ n ≤ 32 := by rcases hn with rfl | rfl | rfl <;> decide
  rcases hw with rfl | rfl <;> omega
theorem CardOf.cmp (hw : way = 1 ∨ way = -1) (hc : CardOf n s₁ os way c) (hd : CardOf n s₂ os way d) : cmpF c.row d.row (os.map fun c => (c, way)) = (c.val - d.val).sign := by
  rw [cmp_val hw hc.bit hd.bit, hc.valE, hd.valE]
theorem CardOf.same (hc : CardOf n size os way c) (hd : CardOf n size os way d) : setCmp c.row d.row = 0 := by
  have h1 := hc.count
  have h2 := hd.count
  unfold setCmp
  rw [decide_eq_false (by omega), decide_eq_false (by omega)]; rfl
theorem CardOf.near (hw : way = 1 ∨ way = -1) (hc : CardOf n size os way c) (hd : CardOf n (size - way) os way d) : setCmp d.row c.row = 0 ∨ setCmp d.row c.row = -way := by
  have h1 := hc.count
  have h2 := hd.count
  unfold setCmp
  rcases hw with rfl | rfl
  · rw [decide_eq_false (by omega), decide_eq_true (by omega)]
    cases subRow d.row c.row <;> simp [b2i]
  · rw [decide_eq_true (by omega), decide_eq_false (by omega)]
    cases subRow c.row d.row <;> simp [b2i]
theorem cardsAt_of (h : ∀ z ∈ zs, CardAt w G z.1 z.2) : CardsAt w G (zs.map (·.1)) (zs.map (·.2)) := by
  refine ⟨by simp, fun i v e => ?_⟩
  rw [List.getElem?_map] at e
  obtain ⟨z, e1, rfl⟩ := Option.map_eq_some_iff.mp e
  exact ⟨z.2, by rw [List.getElem?_map, e1]; rfl, h z (List.mem_of_getElem? e1)⟩
theorem cardAt_val {v : Value} (h1 : CardAt w G v c) (h2 : CardAt w G v d) : c.val = d.val := by
  obtain ⟨a, rv, sv, t, rfl, ⟨o, e1, _, k1, q1⟩, _⟩ := h1
  obtain ⟨b, rv', sv', t', e, ⟨o', e2, _, k2, q2⟩, _⟩ := h2
  cases e
  rw [e1] at e2; cases e2
  rw [q1] at q2
  simp only [Data.seq.injEq] at q2
  have := q2.1
  simp only [Array.mk.injEq, List.cons.injEq, Value.int.injEq] at this
  exact this.2.2.1.1
theorem vals_nodup (hn : n = 3 ∨ n = 4 ∨ n = 5) (hw : way = 1 ∨ way = -1) (hos : os.Perm (idx n)) (hm : zm.map (·.2) = cardsTo n size os way (2 ^ n)) (hN : zn.map (·.2) = cardsTo n (size - way) os way (2 ^ n)) : ((zm ++ zn).map (·.2.val)).Nodup := by
  have e1 : zm.map (·.2.val) = (cardsTo n size os way (2 ^ n)).map (·.val) := by rw [← hm, List.map_map]; rfl
  have e2 : zn.map (·.2.val) = (cardsTo n (size - way) os way (2 ^ n)).map (·.val) := by rw [← hN, List.map_map]; rfl
  rw [List.map_append, e1, e2, List.nodup_append]
  refine ⟨cards_vals_nodup hn hw hos, cards_vals_nodup hn hw hos, fun x hx y hy e => ?_⟩
  obtain ⟨c, hc, rfl⟩ := List.mem_map.mp hx
  obtain ⟨d, hd, rfl⟩ := List.mem_map.mp hy
  have hc := mem_cards hc
  have hd := mem_cards hd
  have hr := val_inj hw hos hc hd e
  have h1 := hc.count
  have h2 := hd.count
  rw [hr] at h1
  rcases hw with rfl | rfl <;> omega
end
-- Pure7
section
variable {w : World} {G : Heap} {n : Nat} {size way : Int} {os : List Int} {zm zn S : List (Value × Crd)}
/-- all that is to be known of the listing -/
structure ListFacts (w : World) (G : Heap) (n : Nat) (size way : Int) (os : List Int) (zm zn : List (Value × Crd)) : Prop where
  hn : n = 3 ∨ n = 4 ∨ n = 5
  hw : way = 1 ∨ way = -1
  hos : os.Perm (idx n)
  h1 : 1 ≤ size
  h2 : size < n
  cm : ∀ z ∈ zm, CardAt w G z.1 z.2
  cn : ∀ z ∈ zn, CardAt w G z.1 z.2
  em : zm.map (·.2) = cardsTo n size os way (2 ^ n)
  en : zn.map (·.2) = cardsTo n (size - way) os way (2 ^ n)
abbrev selF (os : List Int) (way : Int) : List (Int × Int) := os.map fun c => (c, way)
abbrev bothF (os : List Int) (way : Int) (zm zn : List (Value × Crd)) : List (Value × Crd) := (zm ++ zn).foldl (insF (selF os way)) []
def inF (zs : List (Value × Crd)) (z : Value × Crd) : Bool := zs.any fun y => decide (y.1 = z.1)
variable (f : ListFacts w G n size way os zm zn)
include f
theorem ListFacts.om {z : Value × Crd} (h : z ∈ zm) : CardOf n size os way z.2 := card_of f.em h
theorem ListFacts.on {z : Value × Crd} (h : z ∈ zn) : CardOf n (size - way) os way z.2 := card_of f.en h
theorem ListFacts.o {z : Value × Crd} (h : z ∈ zm ++ zn) : ∃ s, CardOf n s os way z.2 := by
  rcases List.mem_append.mp h with h | h
  · exact ⟨_, f.om h⟩
  · exact ⟨_, f.on h⟩
theorem ListFacts.c {z : Value × Crd} (h : z ∈ zm ++ zn) : CardAt w G z.1 z.2 := by
  rcases List.mem_append.mp h with h | h
  · exact f.cm z h
  · exact f.cn z h
theorem ListFacts.nd : ((zm ++ zn).map (·.2.val)).Nodup := vals_nodup f.hn f.hw f.hos f.em f.en
theorem ListFacts.eq {y z : Value × Crd} (hy : y ∈ zm ++ zn) (hz : z ∈ zm ++ zn) (e : y.2.val = z.2.val) : y = z := inj_on f.nd y hy z hz e
theorem ListFacts.eq1 {y z : Value × Crd} (hy : y ∈ zm ++ zn) (hz : z ∈ zm ++ zn) (e : y.1 = z.1) : y = z := f.eq hy hz (cardAt_val (f.c hy) (e ▸ f.c hz))
theorem ListFacts.ne {y z : Value × Crd} (hy : y ∈ zm ++ zn) (hz : z ∈ zm ++ zn) (e : y.1 ≠ z.1) : y.2.row ≠ z.2.row := fun q => e (by
  obtain ⟨_, oy⟩ := f.o hy
  obtain ⟨_, oz⟩ := f.o hz
  rw [f.eq hy hz (by rw [oy.valE, oz.valE, q])])
theorem ListFacts.asc : Asc (bothF os way zm zn) ∧ (bothF os way zm zn).Perm (zm ++ zn) := by
  have := fold_asc (sel := selF os way) (zs := zm ++ zn) (acc := []) List.Pairwise.nil (fun y hy x hx => by
    rw [List.append_nil] at hy
    obtain ⟨_, oy⟩ := f.o hy
    obtain ⟨_, ox⟩ := f.o hx
    exact oy.cmp f.hw ox)
  rw [List.append_nil] at this
  exact this
theorem ListFacts.sorted {out : List Value} (h : KskOut false ((zm ++ zn).map (·.2.val)) ((zm ++ zn).map (·.1)) out) : out = (bothF os way zm zn).map (·.1) := by
  obtain ⟨ps, hp, rfl, ho⟩ := h
  have hz : ((zm ++ zn).map (·.2.val)).zip ((zm ++ zn).map (·.1)) = (zm ++ zn).map fun z => (z.2.val, z.1) := by
    generalize zm ++ zn = S
    induction S with
    | nil => rfl
    | cons z S ih => simp only [List.map_cons, List.zip_cons_cons, ih]
  rw [hz] at hp
  obtain ⟨ha, hb⟩ := f.asc
  have hp2 : ps.Perm ((bothF os way zm zn).map fun z => (z.2.val, z.1)) := hp.trans (hb.map _).symm
  have e : ps = (bothF os way zm zn).map fun z => (z.2.val, z.1) := by
    refine List.Perm.eq_of_pairwise (le := fun p q => p.1 ≤ q.1) (fun a b h1 h2 l1 l2 => ?_) (ho.imp fun h => by simpa using h) ?_ hp2
    · obtain ⟨y, hy, rfl⟩ := List.mem_map.mp (hp.mem_iff.mp h1)
      obtain ⟨z, hz, rfl⟩ := List.mem_map.mp h2
      have hz := hb.mem_iff.mp hz
      rw [f.eq hy hz (Int.le_antisymm l1 l2)]
    · rw [List.pairwise_map]; exact ha
  rw [e, List.map_map]; rfl
theorem ListFacts.inm {z : Value × Crd} (hz : z ∈ zm ++ zn) : inF zm z = decide (z.2.val ∈ zm.map (·.2.val)) := by
  rw [Bool.eq_iff_iff, inF, List.any_eq_true, decide_eq_true_eq]
  constructor
  · rintro ⟨y, hy, e⟩
    have := f.eq1 (List.mem_append_left _ hy) hz (by simpa using e)
    exact List.mem_map.mpr ⟨y, hy, by rw [this]⟩
  · intro h
    obtain ⟨y, hy, e⟩ := List.mem_map.mp h
    have := f.eq (List.mem_append_left _ hy) hz e
    exact ⟨y, hy, by simp [this]⟩
theorem ListFacts.inn {z : Value × Crd} (hz : z ∈ zm ++ zn) : inF zn z = decide (z.2.val ∈ zn.map (·.2.val)) := by
  rw [Bool.eq_iff_iff, inF, List.any_eq_true, decide_eq_true_eq]
  constructor
  · rintro ⟨y, hy, e⟩
    have := f.eq1 (List.mem_append_right _ hy) hz (by simpa using e)
    exact List.mem_map.mpr ⟨y, hy, by rw [this]⟩
  · intro h
    obtain ⟨y, hy, e⟩ := List.mem_map.mp h
    have := f.eq (List.mem_append_right _ hy) hz e
    exact ⟨y, hy, by simp [this]⟩
theorem ListFacts.permM : ((bothF os way zm zn).filter (inF zm)).Perm zm := by
  refine (f.asc.2.filter _).trans (List.Perm.of_eq ?_)
  have hd := f.nd
  rw [List.map_append, List.nodup_append] at hd
  rw [List.filter_append, List.filter_eq_self.mpr (fun z hz => by rw [f.inm (List.mem_append_left _ hz)]; exact decide_eq_true (List.mem_map.mpr ⟨z, hz, rfl⟩)),
    List.filter_eq_nil_iff.mpr (fun z hz => by rw [f.inm (List.mem_append_right _ hz), decide_eq_true_eq]; exact fun q => hd.2.2 _ q _ (List.mem_map.mpr ⟨z, hz, rfl⟩) rfl), List.append_nil]
theorem ListFacts.permN : ((bothF os way zm zn).filter (inF zn)).Perm zn := by
  refine (f.asc.2.filter _).trans (List.Perm.of_eq ?_)
  have hd := f.nd
  rw [List.map_append, List.nodup_append] at hd
  rw [List.filter_append, List.filter_eq_nil_iff.mpr (fun z hz => by rw [f.inn (List.mem_append_left _ hz), decide_eq_true_eq]; exact fun q => hd.2.2 _ (List.mem_map.mpr ⟨z, hz, rfl⟩) _ q rfl),
    List.filter_eq_self.mpr (fun z hz => by rw [f.inn (List.mem_append_right _ hz)]; exact decide_eq_true (List.mem_map.mpr ⟨z, hz, rfl⟩)), List.nil_append]
theorem ListFacts.valM : ((bothF os way zm zn).filter (inF zm)).map (·.2.val) = VS n size way :=
  asc_vals f.hn (by have := f.h1; omega) (by have := f.h2; rcases f.hn with h | h | h <;> omega) f.hw f.hos f.em f.permM (f.asc.1.filter _)
theorem ListFacts.valN : ((bothF os way zm zn).filter (inF zn)).map (·.2.val) = VS n (size - way) way :=
  asc_vals f.hn (by have := f.h1; rcases f.hw with h | h <;> omega) (by have := f.h2; rcases f.hw with h | h <;> rcases f.hn with h' | h' | h' <;> omega) f.hw f.hos f.en f.permN (f.asc.1.filter _)
end
theorem vs_size {n : Nat} {size way : Int} (hn : n = 3 ∨ n = 4 ∨ n = 5) (h0 : 0 ≤ size) (h1 : size ≤ n) (hw : way = 1 ∨ way = -1) : 1 ≤ (VS n size way).length ∧ (VS n size way).length ≤ 10 := by
  have k3 : ∀ s : Fin 4, (1 ≤ (VS 3 s.val 1).length ∧ (VS 3 s.val 1).length ≤ 10) ∧ (1 ≤ (VS 3 s.val (-1)).length ∧ (VS 3 s.val (-1)).length ≤ 10) := by decide +kernel
  have k4 : ∀ s : Fin 5, (1 ≤ (VS 4 s.val 1).length ∧ (VS 4 s.val 1).length ≤ 10) ∧ (1 ≤ (VS 4 s.val (-1)).length ∧ (VS 4 s.val (-1)).length ≤ 10) := by decide +kernel
  have k5 : ∀ s : Fin 6, (1 ≤ (VS 5 s.val 1).length ∧ (VS 5 s.val 1).length ≤ 10) ∧ (1 ≤ (VS 5 s.val (-1)).length ∧ (VS 5 s.val (-1)).length ≤ 10) := by decide +kernel
  obtain ⟨t, rfl⟩ : ∃ t : Nat, size = (t : Int) := ⟨size.toNat, by omega⟩
  rcases hn with rfl | rfl | rfl
  · have := k3 ⟨t, by omega⟩
    rcases hw with rfl | rfl
    · exact this.1
    · exact this.2
  · have := k4 ⟨t, by omega⟩
    rcases hw with rfl | rfl
    · exact this.1
    · exact this.2
  · have := k5 ⟨t, by omega⟩
    rcases hw with rfl | rfl
    · exact this.1
    · exact this.2
section
variable {w : World} {G : Heap} {n : Nat} {size way : Int} {os : List Int} {zm zn S : List (Value × Crd)} (f : ListFacts w G n size way os zm zn)
include f
theorem ListFacts.lenM : 1 ≤ ((bothF os way zm zn).filter (inF zm)).length ∧ ((bothF os way zm zn).filter (inF zm)).length ≤ 10 := by
  have := vs_size f.hn (by have := f.h1; omega) (Int.le_of_lt f.h2) f.hw
  rw [← f.valM, List.length_map] at this
  exact this
theorem ListFacts.lenN : 1 ≤ ((bothF os way zm zn).filter (inF zn)).length ∧ ((bothF os way zm zn).filter (inF zn)).length ≤ 10 := by
  have := vs_size (size := size - way) f.hn (by have := f.h1; rcases f.hw with h | h <;> omega) (by have := f.h2; rcases f.hw with h | h <;> omega) f.hw
  rw [← f.valN, List.length_map] at this
  exact this
theorem ListFacts.lm : zm.length ≤ 10 := f.permM.length_eq ▸ f.lenM.2
theorem ListFacts.ln : zn.length ≤ 10 := f.permN.length_eq ▸ f.lenN.2
theorem ListFacts.lb : (bothF os way zm zn).length ≤ 20 := by
  rw [f.asc.2.length_eq, List.length_append]
  have := f.lm; have := f.ln; omega
end
theorem ListFacts.keeps {w : World} {G G' : Heap} {n : Nat} {size way : Int} {os : List Int} {zm zn : List (Value × Crd)} (f : ListFacts w G n size way os zm zn) (k : Keeps G G') : ListFacts w G' n size way os zm zn :=
  ⟨f.hn, f.hw, f.hos, f.h1, f.h2, fun z hz => (f.cm z hz).keeps k, fun z hz => (f.cn z hz).keeps k, f.em, f.en⟩
-- Pure8
/-- all that the rest of the law asks of the two listings -/
structure Two (w : World) (G : Heap) (n : Nat) (size way : Int) (os : List Int) (Lm Ln : List (Value × Crd)) : Prop where
  hn : n = 3 ∨ n = 4 ∨ n = 5
  hw : way = 1 ∨ way = -1
  hos : os.Perm (idx n)
  h1 : 1 ≤ size
  h2 : size < n
  cm : ∀ z ∈ Lm, CardAt w G z.1 z.2
  cn : ∀ z ∈ Ln, CardAt w G z.1 z.2
  om : ∀ z ∈ Lm, CardOf n size os way z.2
  on : ∀ z ∈ Ln, CardOf n (size - way) os way z.2
  vm : Lm.map (·.2.val) = VS n size way
  vn : Ln.map (·.2.val) = VS n (size - way) way
  lm1 : 1 ≤ Lm.length
  lm2 : Lm.length ≤ 10
  ln : Ln.length ≤ 10
theorem ListFacts.two {w : World} {G : Heap} {n : Nat} {size way : Int} {os : List Int} {zm zn : List (Value × Crd)} (f : ListFacts w G n size way os zm zn) : Two w G n size way os ((bothF os way zm zn).filter (inF zm)) ((bothF os way zm zn).filter (inF zn)) :=
  ⟨f.hn, f.hw, f.hos, f.h1, f.h2, fun z hz => f.cm z (f.permM.mem_iff.mp hz), fun z hz => f.cn z (f.permN.mem_iff.mp hz), fun z hz => f.om (f.permM.mem_iff.mp hz), fun z hz => f.on (f.permN.mem_iff.mp hz), f.valM, f.valN, f.lenM.1, f.lenM.2, f.lenN.2⟩
section
variable {w : World} {G G' : Heap} {n : Nat} {size way : Int} {os : List Int} {Lm Ln : List (Value × Crd)} (f : Two w G n size way os Lm Ln)
include f
theorem Two.keeps (k : Keeps G G') : Two w G' n size way os Lm Ln := ⟨f.hn, f.hw, f.hos, f.h1, f.h2, fun _ hz => (f.cm _ hz).keeps k, fun _ hz => (f.cn _ hz).keeps k, f.om, f.on, f.vm, f.vn, f.lm1, f.lm2, f.ln⟩
theorem Two.k1 : 1 ≤ kOf n size way ∧ kOf n size way ≤ 4 := by
  have := f.h1; have := f.h2
  unfold kOf
  rcases f.hn with h | h | h <;> split <;> omega
theorem Two.take {k : Nat} (hk : k ≤ Lm.length) : metF (Lm.take k) Ln (-way) = Ln.take (leF (kOf n size way) (k : Int)).toNat := met_take f.hn f.h1 f.h2 f.hw f.hos f.om f.on f.vm f.vn hk
theorem Two.least {fs : List (Value × Crd)} (hf : fs.Sublist Lm) : (leF (kOf n size way) (fs.length : Int)).toNat ≤ (metF fs Ln (-way)).length := met_least f.hn f.h1 f.h2 f.hw f.hos f.om f.on f.vm f.vn hf (Nat.le_trans hf.length_le f.lm2)
end
theorem chF_nonneg : ∀ k : Fin 6, ∀ n : Fin 21, 0 ≤ chF (n.val : Int) k.val := by decide +kernel
theorem leF_small : ∀ k : Fin 5, ∀ m : Fin 11, 0 ≤ leF k.val (m.val : Int) ∧ leF k.val (m.val : Int) ≤ 1000 := by decide +kernel
theorem leF_bounds {k : Nat} {m : Int} (hk : k ≤ 4) (h0 : 0 ≤ m) (h1 : m ≤ 10) : 0 ≤ leF k m ∧ leF k m ≤ 1000 := by
  have := leF_small ⟨k, by omega⟩ ⟨m.toNat, by omega⟩
  have e : ((m.toNat : Nat) : Int) = m := by omega
  simp only [e] at this
  exact this
theorem range1_all : ∀ l : Fin 11, Builtin.Range.small 1 ((l.val : Int) + 1) 1 = true ∧ Builtin.Range.rangeSize 1 ((l.val : Int) + 1) 1 = ((l.val : Nat) : Int) := by decide +kernel
theorem range1 {l : Nat} (h : l ≤ 10) : Builtin.Range.small 1 ((l : Int) + 1) 1 = true ∧ Builtin.Range.rangeSize 1 ((l : Int) + 1) 1 = ((l : Nat) : Int) := range1_all ⟨l, by omega⟩
theorem range0_all : ∀ l : Fin 11, Builtin.Range.small 0 (l.val : Int) 1 = true ∧ Builtin.Range.rangeSize 0 (l.val : Int) 1 = ((l.val : Nat) : Int) := by decide +kernel
theorem range0 {l : Nat} (h : l ≤ 10) : Builtin.Range.small 0 (l : Int) 1 = true ∧ Builtin.Range.rangeSize 0 (l : Int) 1 = ((l : Nat) : Int) := range0_all ⟨l, by omega⟩
theorem slice_upto {zs : List (Value × Crd)} {y : Int} (h0 : 0 ≤ y) : kms_pick (zs.map (·.1)).toArray.toList none (some y) = (zs.take y.toNat).map (·.1) := by
  unfold kms_pick kms_lo kms_hi
  simp only [List.drop_zero, Nat.sub_zero, if_neg (show ¬ y < 0 by omega)]
  rw [kmk_take_min, List.map_take]
theorem len_cards {prog : Program} {w : World} {A : Around} {E : Value → Shared → Prop} {s : Shared} {h₀ : Heap} {L l : Addr} {news : List (Addr × Obj)} {us : List (Value × Crd)} {Q : Value → Shared → Prop} (N : News h₀ L s.heap news) (hm : (l, LCg.lst (us.map (·.1))) ∈ news) (hb : us.length ≤ 10)
    (h : Q (.int ((us.length : Nat) : Int) (s.toks + 1)) { s with toks := s.toks + 1 + 1 }) : wpAny (model prog w) A (call (.builtin "len") [.ref l]) Q E s :=
  kst_len (k := us.length) N hm (by simp) (by omega) h
theorem item_lst {prog : Program} {w : World} {A : Around} {E : Value → Shared → Prop} {s : Shared} {h₀ : Heap} {L : Addr} {news : List (Addr × Obj)} {value slice : Expr} {D : Addr} {zs : List (Value × Crd)} {k : Int} {u : Tok} {Q : Value → Shared → Prop}
    (N : News h₀ L s.heap news) (hm : (D, LCg.lst (zs.map (·.1))) ∈ news) (h0 : 0 ≤ k) (h1 : k < zs.length) (hb : zs.length ≤ 10)
    (h : ∀ z, zs[k.toNat]? = some z → Q z.1 s)
    (hs : subscripted slice false (.ref D) (.int k u) = operate [.ref D, .int k u] (getItem (.ref D) (.int k u)) := by with_unfolding_all rfl) :
    wpAny (model prog w) A (subscriptTail value slice (.ref D) (.int k u)) Q E s := by
  have hlt : k.toNat < zs.length := by omega
  obtain ⟨z, hz⟩ : ∃ z, zs[k.toNat]? = some z := ⟨_, List.getElem?_eq_getElem hlt⟩
  have hL : s.heap.IsList D (zs.map (·.1)).toArray := ⟨_, (N _ hm).1, rfl, _, rfl⟩
  refine tail_any hL.typeIs slot_list_getitem.lookup (wpAny_getItem_list hL h0 (by omega) ?_ (h z hz)) hs
  simp [hz]
theorem fam_yes {fs Lm : List (Value × Crd)} {i : Nat} {z : Value × Crd} (h : fs.Sublist (Lm.take i)) (hz : Lm[i]? = some z) : (fs ++ [z]).Sublist (Lm.take (i + 1)) := by
  rw [List.take_add_one, hz]
  exact h.append (List.Sublist.refl _)
theorem fam_no {fs Lm : List (Value × Crd)} {i : Nat} (h : fs.Sublist (Lm.take i)) : fs.Sublist (Lm.take (i + 1)) :=
  h.trans (List.take_sublist_take_left (Nat.le_succ i))
-- Reb
section
variable {h₀ h h' G G₂ : Heap} {L : Addr} {m : Str → Option Value} {led tail tail₂ : List (Addr × Obj)} {as : List Addr}
/-- the ground of the body: all that no line changes any more -/
structure Grd (h₀ G : Heap) (as : List Addr) (tail : List (Addr × Obj)) : Prop where
  keeps : ∀ h', Keeps h₀ h' → (∀ q ∈ tail, h'.get? q.1 = some q.2) → Keeps G h'
  off : ∀ q ∈ tail, q.1 ∉ as
  hid : ∀ a ∈ as, G.get? a = none
theorem rebase (F : Fr h₀ L h m) (as : List Addr) (hL : L ∈ as) : ∃ (tail : List (Addr × Obj)) (G : Heap), News h₀ L h tail ∧ Grd h₀ G as tail ∧
    (∀ b o, h.get? b = some o → b ∉ as → G.get? b = some o) ∧ (∀ b o, h.get? b = some o → h₀.get? b = none → b ∉ as → (b, o) ∈ tail) := by
  let tl : List (Addr × Obj) := (List.range h.objs.size).filterMap fun (a : Nat) => match h.get? a, h₀.get? a with
    | some o, none => if a ∈ as then none else some ((a : Addr), o)
    | _, _ => none
  have memt : ∀ (b : Addr) (o : Obj), (b, o) ∈ tl ↔ h.get? b = some o ∧ h₀.get? b = none ∧ b ∉ as := by
    intro b o
    show (b, o) ∈ List.filterMap _ _ ↔ _
    rw [List.mem_filterMap]
    constructor
    · rintro ⟨a, _, e⟩
      cases e1 : h.get? a with
      | none => simp [e1] at e
      | some o1 =>
        cases e2 : h₀.get? a with
        | some o2 => simp [e1, e2] at e
        | none =>
          rw [e1, e2] at e
          dsimp only at e
          split at e
          · cases e
          · rename_i hn
            cases e
            exact ⟨e1, e2, hn⟩
    · rintro ⟨e1, e2, e3⟩
      refine ⟨b, List.mem_range.mpr (Heap.lt_size e1), ?_⟩
      rw [e1, e2]
      exact if_neg e3
  refine ⟨tl, hideAll h as, fun p hp => ?_, ⟨fun h' k kt b o e => ?_, fun q hq => ((memt q.1 q.2).mp hq).2.2, fun a ha => hideAll_none _ ha⟩, fun b o e hn => hideAll_get _ e hn, fun b o e1 e2 e3 => (memt b o).mpr ⟨e1, e2, e3⟩⟩
  · have := (memt p.1 p.2).mp hp
    exact ⟨this.1, fun e => this.2.2 (e ▸ hL), this.2.1⟩
  · have e1 := of_hideAll _ e
    have e3 : b ∉ as := fun q => by rw [hideAll_none _ q] at e; cases e
    cases e2 : h₀.get? b with
    | some o2 =>
      have := F.keep _ _ e2
      rw [e1] at this
      rw [k _ _ e2, Option.some.inj this]
    | none => exact kt _ ((memt b o).mpr ⟨e1, e2, e3⟩)
theorem Grd.to (g : Grd h₀ G as tail) (F : Fr h₀ L h m) (N : News h₀ L h led) (hs : ∀ q ∈ tail, q ∈ led) : Keeps G h := g.keeps h F.keep fun q hq => (N q (hs q hq)).1
/-- the ground grows -/
theorem Grd.next (g : Grd h₀ G as tail) (k : Keeps G h) (k₂ : ∀ b o, h.get? b = some o → b ∉ as → G₂.get? b = some o) : Keeps G G₂ := fun b o e => k₂ b o (k b o e) fun q => by rw [g.hid b q] at e; cases e
theorem Grd.out (g : Grd h₀ G as tail) {a : Addr} (ha : a ∈ as) : ∀ q ∈ tail, @Ne Addr q.1 a := fun q hq e => g.off q hq (e ▸ ha)
theorem Grd.out' (g : Grd h₀ G as tail) {a : Addr} (ha : a ∈ as) : ∀ q ∈ tail, @Ne Nat q.1 a := fun q hq e => g.off q hq (e ▸ ha)
theorem news_app (N : News h₀ L h led) (N₂ : News h₀ L h tail) : News h₀ L h (led ++ tail) := fun p hp => (List.mem_append.mp hp).elim (N p) (N₂ p)
theorem news_part (j k : Nat) (N : News h₀ L h led) : News h₀ L h ((led.drop j).take k) := fun p hp => N p (List.mem_of_mem_drop (List.mem_of_mem_take hp))
theorem as_live (F : Fr h₀ L h m) (N : News h₀ L h led) {bs : List Addr} (hs : ∀ a ∈ bs, ∃ o, (a, o) ∈ led) : ∀ a ∈ L :: bs, ∃ o, h.get? a = some o := fun a ha => by
  rcases List.mem_cons.mp ha with rfl | ha
  · obtain ⟨o, _, _, e, _⟩ := F.ns; exact ⟨o, e⟩
  · obtain ⟨o, ho⟩ := hs a ha; exact ⟨o, (N _ ho).1⟩
theorem new_out (hs : ∀ a ∈ as, ∃ o, h.get? a = some o) {D : Addr} (hD : h.get? D = none) : D ∉ as := fun q => by obtain ⟨o, e⟩ := hs D q; rw [hD] at e; cases e
theorem fresh_base (k : Keeps h₀ h) {D : Addr} (hD : h.get? D = none) : h₀.get? D = none := by
  cases e : h₀.get? D with
  | none => rfl
  | some o => rw [k _ _ e] at hD; cases hD
theorem rebase_at (hs : ∀ a ∈ as, ∃ o, h.get? a = some o) (F : Fr h₀ L h' m) (hL : L ∈ as) : ∃ (tail : List (Addr × Obj)) (G : Heap), News h₀ L h' tail ∧ Grd h₀ G as tail ∧
    (∀ b o, h'.get? b = some o → b ∉ as → G.get? b = some o) ∧ (∀ b o, h'.get? b = some o → h₀.get? b = none → b ∉ as → (b, o) ∈ tail) := rebase F as hL
theorem rebase_of (_g : Grd h₀ G as tail) (F : Fr h₀ L h' m) (hL : L ∈ as) : ∃ (tail : List (Addr × Obj)) (G : Heap), News h₀ L h' tail ∧ Grd h₀ G as tail ∧
    (∀ b o, h'.get? b = some o → b ∉ as → G.get? b = some o) ∧ (∀ b o, h'.get? b = some o → h₀.get? b = none → b ∉ as → (b, o) ∈ tail) := rebase F as hL
theorem out7' {L T : Nat} (h0 : T ≠ L) (h1 : T ≠ L + 1) (h2 : T ≠ L + 1 + 1) (h3 : T ≠ L + 1 + 1 + 1) (h4 : T ≠ L + 1 + 1 + 1 + 1) (h5 : T ≠ L + 1 + 1 + 1 + 1 + 1) (h97 : T ≠ 97) : T ∉ ([L, L + 1 + 1 + 1 + 1 + 1, L + 1 + 1 + 1 + 1, L + 1 + 1 + 1, L + 1 + 1, L + 1, 97] : List Nat) := by
  simp only [List.mem_cons, List.not_mem_nil, or_false, not_or]
  exact ⟨h0, h5, h4, h3, h2, h1, h97⟩
theorem out7 {L T : Nat} (h5 : L + 1 + 1 + 1 + 1 + 1 < T) (h97 : 97 < T) : T ∉ ([L, L + 1 + 1 + 1 + 1 + 1, L + 1 + 1 + 1 + 1, L + 1 + 1 + 1, L + 1 + 1, L + 1, 97] : List Nat) := by
  have k1 : L < T := Nat.lt_of_le_of_lt (Nat.le_add_right L 5) h5
  have k2 : L + 1 < T := Nat.lt_of_le_of_lt (Nat.le_add_right (L + 1) 4) h5
  have k3 : L + 1 + 1 < T := Nat.lt_of_le_of_lt (Nat.le_add_right (L + 1 + 1) 3) h5
  have k4 : L + 1 + 1 + 1 < T := Nat.lt_of_le_of_lt (Nat.le_add_right (L + 1 + 1 + 1) 2) h5
  have k5 : L + 1 + 1 + 1 + 1 < T := Nat.lt_of_le_of_lt (Nat.le_add_right (L + 1 + 1 + 1 + 1) 1) h5
  exact out7' (Nat.ne_of_gt k1) (Nat.ne_of_gt k2) (Nat.ne_of_gt k3) (Nat.ne_of_gt k4) (Nat.ne_of_gt k5) (Nat.ne_of_gt h5) (Nat.ne_of_gt h97)
theorem pairs_snoc {us : List Value} {sel : List (Int × Int)} {a : Addr} {c d : Int} {t1 t2 : Tok} (z : PairsAt h us sel) (x : IsTup h' a #[.int c t1, .int d t2]) (k : Keeps h h') : PairsAt h' (us ++ [.ref a]) (sel ++ [(c, d)]) := by
  refine ⟨by simp [z.1], fun i u e => ?_⟩
  rcases Nat.lt_or_ge i us.length with q | q
  · rw [List.getElem?_append_left q] at e
    obtain ⟨p, b, u1, u2, e1, e2, e3⟩ := z.2 i u e
    exact ⟨p, b, u1, u2, by rw [List.getElem?_append_left (by rw [← z.1]; exact q)]; exact e1, e2, isTup_keeps k e3⟩
  · rw [List.getElem?_append_right q] at e
    have hi : i - us.length = 0 := by
      rcases Nat.eq_zero_or_pos (i - us.length) with z0 | z0
      · exact z0
      · rw [List.getElem?_eq_none (by simp; omega)] at e; cases e
    rw [hi] at e
    simp only [List.getElem?_cons_zero, Option.some.injEq] at e
    refine ⟨(c, d), a, t1, t2, ?_, e.symm, x⟩
    rw [List.getElem?_append_right (by rw [← z.1]; exact q), ← z.1, hi]; rfl
theorem ce_six {I C D : Addr} {oI oC oD : Obj} {s₁ : Shared} {S : List (Addr × Obj) → Prop} {rest : Value → List (Addr × Obj) → Prop} {y : Value} {tk : Nat} {p c5 c4 c3 c2 c1 t : Addr × Obj} {tl : List (Addr × Obj)}
    (F : Fr h₀ L h' m) (N : News h₀ L h' (p :: (I, oI) :: (C, oC) :: (D, oD) :: c5 :: c4 :: c3 :: c2 :: c1 :: t :: tl)) (off : LCg.Off3 I C D (c5 :: c4 :: c3 :: c2 :: c1 :: t :: tl)) (offp : (@Ne Nat p.1 I) ∧ (@Ne Nat p.1 C) ∧ (@Ne Nat p.1 D))
    (hS : S (c5 :: c4 :: c3 :: c2 :: c1 :: t :: p :: tl)) (r : rest y (c5 :: c4 :: c3 :: c2 :: c1 :: t :: p :: tl)) : CE h₀ L m s₁ I oI C oC D oD S rest y { s₁ with heap := h', toks := tk } := by
  obtain ⟨o5, o4, o3, o2, o1, ot, otl⟩ := off
  refine CE.intro (c5 :: c4 :: c3 :: c2 :: c1 :: t :: p :: tl) F N ?_ ⟨o5, o4, o3, o2, o1, ot, offp, otl⟩ hS r
  intro p hp
  simp only [List.mem_cons] at hp ⊢
  rcases hp with h | h | h | h | h | h | h | h | h | h | h <;> simp only [h, true_or, or_true]
theorem as_live6 {a5 a4 a3 a2 a1 a0 : Addr} {o5 o4 o3 o2 o1 o0 : Obj} {tl : List (Addr × Obj)} (F : Fr h₀ L h m) (N : News h₀ L h ((a5, o5) :: (a4, o4) :: (a3, o3) :: (a2, o2) :: (a1, o1) :: (a0, o0) :: tl)) : ∀ a ∈ [L, a5, a4, a3, a2, a1, a0], ∃ o, h.get? a = some o := by
  refine as_live F N fun a ha => ?_
  simp only [List.mem_cons, List.not_mem_nil, or_false] at ha
  rcases ha with rfl | rfl | rfl | rfl | rfl | rfl
  · exact ⟨o5, by simp⟩
  · exact ⟨o4, by simp⟩
  · exact ⟨o3, by simp⟩
  · exact ⟨o2, by simp⟩
  · exact ⟨o1, by simp⟩
  · exact ⟨o0, by simp⟩
/-- the new objects become ground -/
theorem grow {c5 c4 c3 c2 c1 t : Addr × Obj} {tl new : List (Addr × Obj)} (g : Grd h₀ G as tail) (F : Fr h₀ L h m) (N : News h₀ L h (new ++ c5 :: c4 :: c3 :: c2 :: c1 :: t :: tl)) (hL : L ∈ as) (hnew : ∀ q ∈ new, q.1 ∉ as) (htl : ∀ q ∈ tail, q ∈ tl) (hoff : ∀ q ∈ tl, q.1 ∉ as) :
    ∃ (tail₂ : List (Addr × Obj)) (G₂ : Heap), News h₀ L h (c5 :: c4 :: c3 :: c2 :: c1 :: t :: tail₂) ∧ Grd h₀ G₂ as tail₂ ∧ Keeps G G₂ ∧ (∀ q ∈ new, G₂.get? q.1 = some q.2 ∧ q ∈ tail₂) ∧ (∀ q ∈ tl, G₂.get? q.1 = some q.2 ∧ q ∈ tail₂) := by
  obtain ⟨tail₂, G₂, NT, g₂, hin, hmem⟩ := rebase F as hL
  have N1 : ∀ q ∈ new, h.get? q.1 = some q.2 ∧ q.1 ≠ L ∧ h₀.get? q.1 = none := fun q hq => N q (List.mem_append_left _ hq)
  have N2 : ∀ q ∈ c5 :: c4 :: c3 :: c2 :: c1 :: t :: tl, h.get? q.1 = some q.2 ∧ q.1 ≠ L ∧ h₀.get? q.1 = none := fun q hq => N q (List.mem_append_right _ hq)
  have N3 : ∀ q ∈ tl, h.get? q.1 = some q.2 ∧ q.1 ≠ L ∧ h₀.get? q.1 = none := fun q hq => N2 q (.tail _ (.tail _ (.tail _ (.tail _ (.tail _ (.tail _ hq))))))
  refine ⟨tail₂, G₂, ?_, g₂, g.next (g.keeps h F.keep fun q hq => (N3 q (htl q hq)).1) hin, fun q hq => ⟨hin _ _ (N1 q hq).1 (hnew q hq), hmem q.1 q.2 (N1 q hq).1 (N1 q hq).2.2 (hnew q hq)⟩, fun q hq => ⟨hin _ _ (N3 q hq).1 (hoff q hq), hmem q.1 q.2 (N3 q hq).1 (N3 q hq).2.2 (hoff q hq)⟩⟩
  intro p hp
  simp only [List.mem_cons] at hp
  rcases hp with h | h | h | h | h | h | h
  · subst h; exact N2 _ (by simp)
  · subst h; exact N2 _ (by simp)
  · subst h; exact N2 _ (by simp)
  · subst h; exact N2 _ (by simp)
  · subst h; exact N2 _ (by simp)
  · subst h; exact N2 _ (by simp)
  · exact NT p h
/-- a contract has come back -/
theorem back_ex {a5 a4 a3 a2 a1 a0 : Addr} {o5 o4 o3 o2 o1 o0 : Obj} {new ex : List (Addr × Obj)} (g : Grd h₀ G [L, a5, a4, a3, a2, a1, a0] tail) (F : Fr h₀ L h m) (N : News h₀ L h (ex ++ (a5, o5) :: (a4, o4) :: (a3, o3) :: (a2, o2) :: (a1, o1) :: (a0, o0) :: tail)) (hex : ∀ q ∈ ex, q.1 ∉ [L, a5, a4, a3, a2, a1, a0])
    (k : Keeps h h') (hnew : ∀ q ∈ new, h.get? q.1 = none ∧ h'.get? q.1 = some q.2) :
    ∃ (tail₂ : List (Addr × Obj)) (G₂ : Heap), Fr h₀ L h' m ∧ News h₀ L h' ((a5, o5) :: (a4, o4) :: (a3, o3) :: (a2, o2) :: (a1, o1) :: (a0, o0) :: tail₂) ∧ Grd h₀ G₂ [L, a5, a4, a3, a2, a1, a0] tail₂ ∧ Keeps G G₂ ∧ (∀ q ∈ new, G₂.get? q.1 = some q.2 ∧ q ∈ tail₂) ∧ (∀ q ∈ ex, G₂.get? q.1 = some q.2 ∧ q ∈ tail₂) ∧ (∀ q ∈ tail, q ∈ tail₂) := by
  have Nc : News h₀ L h ((a5, o5) :: (a4, o4) :: (a3, o3) :: (a2, o2) :: (a1, o1) :: (a0, o0) :: tail) := fun p hp => N p (List.mem_append_right _ hp)
  have live := as_live6 F Nc
  have F' := Fr.keeps F k
  have N' : News h₀ L h' ((new ++ ex) ++ (a5, o5) :: (a4, o4) :: (a3, o3) :: (a2, o2) :: (a1, o1) :: (a0, o0) :: tail) := by
    rw [List.append_assoc]
    refine news_app (fun q hq => ?_) (News.grown N k)
    have := hnew q hq
    exact ⟨this.2, fun e => new_out live this.1 (e ▸ .head _), fresh_base F.keep this.1⟩
  obtain ⟨tail₂, G₂, h1, h2, h3, h4, h5⟩ := grow g F' N' (.head _) (fun q hq => (List.mem_append.mp hq).elim (fun hq => new_out live (hnew q hq).1) (hex q)) (fun _ h => h) g.off
  exact ⟨tail₂, G₂, F', h1, h2, h3, fun q hq => h4 q (List.mem_append_left _ hq), fun q hq => h4 q (List.mem_append_right _ hq), fun q hq => (h5 q hq).2⟩
theorem back {a5 a4 a3 a2 a1 a0 : Addr} {o5 o4 o3 o2 o1 o0 : Obj} {new : List (Addr × Obj)} (g : Grd h₀ G [L, a5, a4, a3, a2, a1, a0] tail) (F : Fr h₀ L h m) (N : News h₀ L h ((a5, o5) :: (a4, o4) :: (a3, o3) :: (a2, o2) :: (a1, o1) :: (a0, o0) :: tail))
    (k : Keeps h h') (hnew : ∀ q ∈ new, h.get? q.1 = none ∧ h'.get? q.1 = some q.2) :
    ∃ (tail₂ : List (Addr × Obj)) (G₂ : Heap), Fr h₀ L h' m ∧ News h₀ L h' ((a5, o5) :: (a4, o4) :: (a3, o3) :: (a2, o2) :: (a1, o1) :: (a0, o0) :: tail₂) ∧ Grd h₀ G₂ [L, a5, a4, a3, a2, a1, a0] tail₂ ∧ Keeps G G₂ ∧ (∀ q ∈ new, G₂.get? q.1 = some q.2 ∧ q ∈ tail₂) ∧ (∀ q ∈ tail, q ∈ tail₂) :=
  let ⟨t, G, x1, x2, x3, x4, x5, _, x7⟩ := back_ex (ex := []) g F N (fun _ h => nomatch h) k hnew
  ⟨t, G, x1, x2, x3, x4, x5, x7⟩
theorem Grd.at6 {c5 c4 c3 c2 c1 t : Addr × Obj} (g : Grd h₀ G as tail) (F : Fr h₀ L h m) (N : News h₀ L h (c5 :: c4 :: c3 :: c2 :: c1 :: t :: tail)) : Keeps G h := g.to F N fun _ hq => .tail _ (.tail _ (.tail _ (.tail _ (.tail _ (.tail _ hq)))))
theorem outs {a0 a1 a2 a3 a4 a5 a6 : Addr} (g : Grd h₀ G [a0, a1, a2, a3, a4, a5, a6] tail) : (∀ q ∈ tail, @Ne Nat q.1 a0) ∧ (∀ q ∈ tail, @Ne Nat q.1 a1) ∧ (∀ q ∈ tail, @Ne Nat q.1 a2) ∧ (∀ q ∈ tail, @Ne Nat q.1 a3) ∧ (∀ q ∈ tail, @Ne Nat q.1 a4) ∧ (∀ q ∈ tail, @Ne Nat q.1 a5) ∧ (∀ q ∈ tail, @Ne Nat q.1 a6) :=
  ⟨g.out' (by simp), g.out' (by simp), g.out' (by simp), g.out' (by simp), g.out' (by simp), g.out' (by simp), g.out' (by simp)⟩
theorem allLt_ne {d : Nat} : ∀ {l : List (Addr × Obj)}, AllLt d l → ∀ p ∈ l, @Ne Nat p.1 d
  | [], _, _, h => nomatch h
  | _ :: _, x, p, h => by
    rcases List.mem_cons.mp h with rfl | h
    · exact Nat.ne_of_lt x.1
    · exact allLt_ne x.2 p h
end
theorem get_size (h : Heap) : h.get? h.objs.size = none := by
  cases e : h.get? h.objs.size with
  | none => rfl
  | some o => exact absurd (Heap.lt_size e) (Nat.lt_irrefl _)
theorem cat_map {zm zn : List (Value × Crd)} : ((zm.map (·.1)).toArray.toList ++ (zn.map (·.1)).toArray.toList).toArray = ((zm ++ zn).map (·.1)).toArray := by simp
theorem out_ne {T a0 a1 a2 a3 a4 a5 a6 : Addr} (h : T ∉ [a0, a1, a2, a3, a4, a5, a6]) : @Ne Nat T a0 ∧ @Ne Nat T a1 ∧ @Ne Nat T a2 ∧ @Ne Nat T a3 ∧ @Ne Nat T a4 ∧ @Ne Nat T a5 ∧ @Ne Nat T a6 := by
  simp only [List.mem_cons, List.not_mem_nil, or_false, not_or] at h
  exact h
end Mine

namespace Mine
theorem gen_store {M : Model} {A : Around} {E : Value → Shared → Prop} {s : Shared} {env : Env} {x : Str} {n : Int} {t : Tok} {Q : Unit → Shared → Prop} (P : Int → Prop) (hp : P n)
    (h : ∀ k, P k → wpAny M A (storeName env x (.int k t)) Q E s) : wpAny M A (storeName env x (.int n t)) Q E s := h n hp
theorem gen_storeN {M : Model} {A : Around} {E : Value → Shared → Prop} {s : Shared} {env : Env} {x : Str} {n : Int} {t : Tok} {Q : Unit → Shared → Prop} (P : Nat → Prop) (hp : ∃ k : Nat, n = k ∧ P k)
    (h : ∀ k : Nat, P k → wpAny M A (storeName env x (.int (k : Int) t)) Q E s) : wpAny M A (storeName env x (.int n t)) Q E s := let ⟨k, e, q⟩ := hp; e ▸ h k q
theorem n_bounds (l : Nat) : ∃ k : Nat, (3 + if ((l : Int)).fdiv 2 < 2 then ((l : Int)).fdiv 2 else 2) = (k : Int) ∧ (k = 3 ∨ k = 4 ∨ k = 5) := by
  have h0 : 0 ≤ ((l : Int)).fdiv 2 := Int.fdiv_nonneg (by omega) (by omega)
  generalize ((l : Int)).fdiv 2 = d at h0
  by_cases q : d < 2
  · rw [if_pos q]; refine ⟨(3 + d).toNat, by omega, by omega⟩
  · rw [if_neg q]; exact ⟨5, rfl, .inr (.inr rfl)⟩
theorem way_bounds (t : Int) : 1 - t.fmod 2 * 2 = 1 ∨ 1 - t.fmod 2 * 2 = -1 := by
  have h0 := Int.fmod_nonneg_of_pos t (b := 2) (by omega)
  have h1 := Int.fmod_lt_of_pos t (b := 2) (by omega)
  omega
theorem size_bounds (x : Int) {k : Nat} (hk : k = 3 ∨ k = 4 ∨ k = 5) : 1 ≤ 1 + x.fmod ((k : Int) - 1) ∧ 1 + x.fmod ((k : Int) - 1) < k := by
  have h0 := Int.fmod_nonneg_of_pos x (b := (k : Int) - 1) (by omega)
  have h1 := Int.fmod_lt_of_pos x (b := (k : Int) - 1) (by omega)
  omega
theorem true_store {M : Model} {A : Around} {E : Value → Shared → Prop} {s : Shared} {env : Env} {x : Str} {n : Int} {t : Tok} {Q : Unit → Shared → Prop}
    (h : ∀ k, wpAny M A (storeName env x (.int k t)) Q E s) : wpAny M A (storeName env x (.int n t)) Q E s := h n
local macro_rules | `(tactic| walk_at "mine stepN") => `(tactic| (first | (k_unfold; (try dsimp only)) | walk1 | (dsimp only; walk1)))
local macro_rules | `(tactic| walk_at "mine toTotal") => `(tactic| repeat (fail_if_success (with_reducible show wpAny _ _ (storeName _ (Str.ofString "total") _) _ _ _)); walk_at "mine stepN")
local macro_rules | `(tactic| walk_at "mine toN") => `(tactic| repeat (fail_if_success (with_reducible show wpAny _ _ (storeName _ (Str.ofString "n") _) _ _ _)); walk_at "mine stepN")
local macro_rules | `(tactic| walk_at "mine toWay") => `(tactic| repeat (fail_if_success (with_reducible show wpAny _ _ (storeName _ (Str.ofString "way") _) _ _ _)); walk_at "mine stepN")
local macro_rules | `(tactic| walk_at "mine toSize") => `(tactic| repeat (fail_if_success (with_reducible show wpAny _ _ (storeName _ (Str.ofString "size") _) _ _ _)); walk_at "mine stepN")
local macro_rules | `(tactic| walk_at "mine to54") => `(tactic| repeat (fail_if_success (with_reducible show wpAny _ _ (call (Value.ref 54) _) _ _ _)); walk_at "mine stepN")
local macro_rules | `(tactic| walk_at "mine live") => `(tactic| repeat (first | exact List.forall_mem_nil _ | refine List.forall_mem_cons.mpr ⟨⟨_, by k_mem⟩, ?_⟩))
local macro_rules | `(tactic| walk_at "mine toComp") => `(tactic| repeat (fail_if_success (with_reducible show wpAny _ _ (eval (PySem.Expr.ListComp _ _ _ _) _) _ _ _)); walk_at "mine stepN")
local macro_rules | `(tactic| walk_at "mine fillX") => `(tactic| ((rename Frag.In _ _ => X9); (revert X9); k_fill; (intro X9)))
local macro_rules | `(tactic| k_mem) => `(tactic| assumption)
local macro_rules | `(tactic| walk_at "mine toComp2") => `(tactic| repeat (fail_if_success (with_reducible show wpAny _ _ (storeName _ (Str.ofString "comp") _) _ _ _)); walk_at "mine stepN")
local macro_rules | `(tactic| walk_at "mine toCE") => `(tactic| repeat (fail_if_success (with_reducible show CE _ _ _ _ _ _ _ _ _ _ _ _ _ _)); walk_at "mine stepN")
local macro_rules | `(tactic| walk_at "mine to59") => `(tactic| repeat (fail_if_success (with_reducible show wpAny _ _ (call (Value.ref 59) _) _ _ _)); walk_at "mine stepN")
local macro_rules | `(tactic| k_all) => `(tactic| assumption)
local macro_rules | `(tactic| walk_at "mine to90") => `(tactic| repeat (fail_if_success (with_reducible show wpAny _ _ (call (Value.ref 90) _) _ _ _)); walk_at "mine stepN")
local macro_rules | `(tactic| walk_at "mine to95") => `(tactic| repeat (fail_if_success (with_reducible show wpAny _ _ (call (Value.ref 95) _) _ _ _)); walk_at "mine stepN")
local macro_rules | `(tactic| walk_at "mine to66") => `(tactic| repeat (fail_if_success (with_reducible show wpAny _ _ (call (Value.ref 66) _) _ _ _)); walk_at "mine stepN")
local macro_rules | `(tactic| walk_at "mine toAdd") => `(tactic| repeat (fail_if_success (with_reducible show wpAny _ _ (binaryOp Operator.Add (Value.ref _) (Value.ref _)) _ _ _)); walk_at "mine stepN")
local macro_rules | `(tactic| walk_at "mine toSorted") => `(tactic| repeat (fail_if_success (with_reducible show wpAny _ _ (call (Value.builtin "sorted") _ _) _ _ _)); walk_at "mine stepN")
local macro_rules | `(tactic| walk_at "mine toNe") => `(tactic| repeat (fail_if_success (with_reducible show wpAny _ _ (compareOp CmpOp.NotEq (Value.ref _) (Value.ref _)) _ _ _)); walk_at "mine stepN")
local macro_rules | `(tactic| walk_at "mine toSub") => `(tactic| repeat (fail_if_success (with_reducible show wpAny _ _ (subscriptTail _ _ (Value.ref _) (Value.int _ _)) _ _ _)); walk_at "mine stepN")
local macro_rules | `(tactic| walk_at "mine toIn") => `(tactic| repeat (fail_if_success (with_reducible show wpAny _ _ (compareOp CmpOp.In _ _) _ _ _)); walk_at "mine stepN")
local macro_rules | `(tactic| walk_at "mine toCT") => `(tactic| repeat (fail_if_success (with_reducible show CT _ _ _ _ _ _ _ _ _ _)); walk_at "mine stepN")
local macro_rules | `(tactic| walk_at "mine toAComp") => `(tactic| repeat (fail_if_success (with_reducible show wpAny _ _ (exec (PySem.Stmt.Assign _ (PySem.Expr.ListComp _ _ _ _) _) _) _ _ _)); walk_at "mine stepN")
local macro_rules | `(tactic| walk_at "mine toIf") => `(tactic| repeat (fail_if_success (with_reducible show wpAny _ _ (eval (PySem.Expr.IfExp _ _ _ _) _) _ _ _)); walk_at "mine stepN")
local macro_rules | `(tactic| walk_at "mine toKPost") => `(tactic| repeat (fail_if_success (with_reducible show KPost _ _ _ _ _ _ _ _)); walk_at "mine stepN")
local macro_rules | `(tactic| walk_at "exec For Name Call cons nil") => `(tactic| (k_here; (rename Fr _ _ _ _ => lF'); (with_unfolding_all refine' For_turns lF' ?_; k_whole)))
local macro_rules | `(tactic| walk_at "mine toRange") => `(tactic| repeat (fail_if_success (with_reducible rename IsRange _ _ _ _ _ _ _ _ => q9)); walk_at "mine stepN")
local macro_rules | `(tactic| walk_at "mine toLen") => `(tactic| repeat (fail_if_success (with_reducible show wpAny _ _ (call (Value.builtin "len") _ _) _ _ _)); walk_at "mine stepN")
local macro_rules | `(tactic| walk_at "mine toSlice") => `(tactic| repeat (fail_if_success (with_reducible show wpAny _ _ (subscriptTail _ (PySem.Expr.Slice _ _ _ _) _ _) _ _ _)); walk_at "mine stepN")
local macro_rules | `(tactic| walk_at "mine to71") => `(tactic| repeat (fail_if_success (with_reducible show wpAny _ _ (call (Value.ref 71) _ _) _ _ _)); walk_at "mine stepN")
local macro_rules | `(tactic| walk_at "mine to85") => `(tactic| repeat (fail_if_success (with_reducible show wpAny _ _ (call (Value.ref 85) _ _) _ _ _)); walk_at "mine stepN")
local macro_rules | `(tactic| walk_at "mine toTE") => `(tactic| repeat (fail_if_success (first | (with_reducible show TPost _ _ _ _ _ _ _ _ _) | (with_reducible show TEnd _ _ _ _ _ _ _))); walk_at "mine stepN")
local macro_rules | `(tactic| walk_at "call builtin:len") => `(tactic| (k_here; (with_reducible show wpAny _ _ (call (Value.builtin _) [Value.ref _]) _ _ _); k_dflt (refine len_cards (by assumption) (by k_mem) (by assumption) ?_)))
local macro_rules | `(tactic| walk_at "mine toGe") => `(tactic| repeat (fail_if_success (with_reducible show wpAny _ _ (compareOp CmpOp.GtE _ _) _ _ _)); walk_at "mine stepN")
theorem law_holds : PySem.Challenge.rw_mq0048_01.Holds := hd (by
  w_strict (k_go0)
  all_goals (try k_fold)
  walk_at "mine toTotal"
  refine true_store fun total => ?_
  walk_at "mine toN"
  refine gen_storeN (fun k => k = 3 ∨ k = 4 ∨ k = 5) (n_bounds _) fun n hn => ?_
  walk_at "mine toWay"
  refine gen_store (fun k => k = 1 ∨ k = -1) (way_bounds _) fun way hway => ?_
  have hn1 : (n : Int) - 1 ≠ 0 := by omega
  walk_at "mine toSize"
  refine gen_store (fun k => 1 ≤ k ∧ k < (n : Int)) (size_bounds _ hn) fun size hsize => ?_
  walk_at "mine to54"
  as_aux_lemma =>
   exact by
    w_top off
    walk_at "mine fillX"
    have hn3 : (n : Int) = 3 ∨ (n : Int) = 4 ∨ (n : Int) = 5 := by omega
    refine wpAny_le (A' := Lv 500 500 _ _ _ _ _ _ _ _) (order_spec (by assumption) (by assumption) (by assumption) (by assumption) rfl (by assumption) ?_) rfl ?hd rfl rfl ?hu
    case hd => exact Nat.le_of_ble_eq_true rfl
    case hu => exact Nat.le_of_ble_eq_true rfl
    intro ol ok ovs os h9 tk9 hK9 hD0 hD1 hovs hperm
    rename Fr _ _ _ _ => F8
    rename News _ _ _ _ => N8
    have hlive := as_live6 F8 N8
    have F9 := Fr.keeps F8 hK9
    have N9 := News.grown N8 hK9
    have ho1 := new_out hlive hD0
    have ho2 := fresh_base F8.keep hD0
    obtain ⟨tail, G, NT, gG, hin, hmem⟩ := rebase_at hlive F9 (.head _)
    have N10 := news_app (news_part 0 6 N9) NT
    simp only [List.drop_zero, List.take_succ_cons, List.take_zero, List.cons_append, List.nil_append] at N10
    have gol := hin _ _ hD1 ho1
    have mol := hmem _ _ hD1 ho2 ho1
    obtain ⟨t0, t1, t2, t3, t4, t5, t6⟩ := outs gG
    clear hin hmem hD1 hlive ho1 ho2 hD0 hK9 F8 N8 N9 NT
    walk_at "mine toComp"
    rename Fr _ _ _ _ => F1
    refine LCg.ListComp_U F1 (by with_unfolding_all rfl) (by decide) rfl (by decide) rfl ?_
    walk1
    have hovl := PyProof.Rows.IntsAre.length hovs
    have hosl := hperm.length_eq
    refine LCg.CompSrc.ledger (its := ovs.toArray) rfl (by assumption) (by assumption) (by k_mem) (by rw [sizeLine_eq]; simp at hosl ⊢; omega) fun g => ?_
    clear F1
    refine rest_ind (fun i ys nw => ∃ (tl : List (Addr × Obj)), nw = (_, _) :: (_, _) :: (_, _) :: (_, _) :: (_, _) :: (_, _) :: tl ∧ (∀ q ∈ tail, q ∈ tl) ∧ (∀ q ∈ tl, q.1 ∉ [_, _, _, _, _, _, _]) ∧ (∀ h, (∀ q ∈ tl, h.get? q.1 = some q.2) → PairsAt h ys ((os.take i).map fun c => (c, way)))) ?_ ?_ _ 0 [] _ (Nat.zero_add _) ⟨tail, rfl, fun _ h => h, gG.off, fun _ _ => ⟨rfl, fun i u h => by simp at h⟩⟩
    · rintro i ys nw v I oI C oC D m2 h2 tk2 E2 hi ⟨tl, rfl, htl, hoff, hpair⟩ hP hoC hmx F6 N6 off6 hne6
      obtain ⟨c, hc, tc, rfl⟩ := int_here hovs (by simpa using hP)
      walk_at "mine toCE"
      rename Fr _ _ _ _ => F8
      rename News _ _ _ _ => N8
      rename (@LT.lt Nat _ I _ ∧ _) => l1
      have hT := out7 l1.2.2.2.1 l1.2.2.2.2.2.2.2.2.1
      refine ce_six F8 N8 off6 ⟨neA (.inr l1.1), neA (.inr l1.2.1), neA (.inr l1.2.2.1)⟩ ?hS ⟨_, rfl, ?s1, ?s2, ?s3⟩
      case hS => exact .inr ⟨_, .tail _ (.tail _ (.tail _ (.tail _ (.tail _ (.tail _ (.tail _ (htl _ mol))))))), rfl, _, rfl⟩
      case s1 => exact fun q hq => .tail _ (htl q hq)
      case s2 => exact List.forall_mem_cons.mpr ⟨hT, hoff⟩
      case s3 =>
        intro h hh
        have h2 := pairs_snoc (hpair h fun q hq => hh q (.tail _ hq)) (⟨_, hh _ (.head _), rfl, _, rfl⟩ : IsTup h _ #[.int c tc, .int way _]) (fun _ _ e => e)
        rw [List.take_add_one, hc, Option.toList_some, List.map_append]
        exact h2
    rintro ys nw ⟨tl, rfl, htl, hoff, hpair⟩ D h7 tk7 F7 N7 off7
    walk_at "mine toComp2"
    rename Below _ _ _ _ => Bz
    clear Bz
    rename Fr _ _ _ _ => F8
    rename News _ _ _ _ => N8
    rename (@LT.lt Nat _ D _ ∧ _) => l1
    rename (@LT.lt Nat _ _ _) => l2
    obtain ⟨p5, p4, p3, p2, p1, p0, -⟩ := off7
    obtain ⟨tail2, G2, N10, g2, k2, new2, old2⟩ := grow (new := [_, _, _]) gG F8 N8 (.head _) (List.forall_mem_cons.mpr ⟨out7 (Nat.lt_trans l1.2.1 l2) (Nat.lt_trans l1.2.2.2.2.2.2.1 l2), List.forall_mem_cons.mpr ⟨out7 l1.2.1 l1.2.2.2.2.2.2.1, List.forall_mem_cons.mpr ⟨out7' (N8 _ (.tail _ (.tail _ (.head _)))).2.1 (Ne.symm p1) (Ne.symm p2) (Ne.symm p3) (Ne.symm p4) (Ne.symm p5) (Ne.symm p0), List.forall_mem_nil _⟩⟩⟩) htl hoff
    have hxG := (new2 _ (.head _)).1
    have hdxG := (new2 _ (.tail _ (.head _))).1
    have hDG := (new2 _ (.tail _ (.tail _ (.head _)))).1
    have hpG := hpair G2 fun q hq => (old2 q hq).1
    have golG := k2 _ _ gol
    have molG := (old2 _ (htl _ mol)).2
    rw [List.take_of_length_le (by rw [List.size_toArray, hovl]; exact Nat.le_refl _)] at hpG
    clear gG new2 old2 htl hoff hpair gol mol k2 N8 t0 t1 t2 t3 t4 t5 t6 l1 l2 p5 p4 p3 p2 p1 p0
    obtain ⟨t0, t1, t2, t3, t4, t5, t6⟩ := outs g2
    dsimp only at hxG hdxG hDG
    as_aux_lemma =>
     exact by
      w_top off
      walk_at "mine fillX"
      have hos : ∀ c ∈ os, 0 ≤ c ∧ c < (n : Int) := fun c hc => by
        have := hperm.mem_iff.mp hc
        obtain ⟨i, hi, rfl⟩ := List.mem_map.mp this
        have := List.mem_range.mp hi
        omega
      walk_at "mine to59"
      rename Fr _ _ _ _ => F8
      rename News _ _ _ _ => N8
      rename Below _ _ _ _ => Bz
      have kG := g2.at6 F8 N8
      refine wpAny_le (A' := Lv 500 500 _ _ _ _ _ _ _ _) (cards_spec Bz F8 (by assumption) (by assumption) rfl (by omega) (isList_keeps kG ⟨_, golG, rfl, _, rfl⟩) hovs hos hway ?_) rfl ?hd rfl rfl ?hu
      case hd => exact Nat.le_of_ble_eq_true rfl
      case hu => exact Nat.le_of_ble_eq_true rfl
      intro Dm km zm tlm h9 tk9 hK9 hD0 hD1 htl0 htlD hcd hzm
      obtain ⟨tail3, G3, F9, N9, g3, k3, new3, old3⟩ := back (new := (Dm, _) :: tlm) g2 F8 N8 hK9 (List.forall_mem_cons.mpr ⟨⟨hD0, hD1⟩, htl0⟩)
      replace hxG := k3 _ _ hxG
      replace hdxG := k3 _ _ hdxG
      replace hDG := k3 _ _ hDG
      replace golG := k3 _ _ golG
      replace hpG := hpG.keeps k3
      have hmG := (new3 _ (.head _)).1
      have hmc := hcd G3 fun q hq => (new3 q (.tail _ hq)).1
      dsimp only at hmG
      clear kG g2 k3 new3 old3 hcd htl0 htlD hD1 hD0 hK9 molG F8 N8 t0 t1 t2 t3 t4 t5 t6
      obtain ⟨t0, t1, t2, t3, t4, t5, t6⟩ := outs g3
      walk_at "mine to59"
      rename Fr _ _ _ _ => F8
      rename News _ _ _ _ => N8
      rename Below _ _ _ _ => Bz
      have kG := g3.at6 F8 N8
      refine wpAny_le (A' := Lv 500 500 _ _ _ _ _ _ _ _) (cards_spec Bz F8 (by assumption) (by assumption) rfl (by omega) (isList_keeps kG ⟨_, golG, rfl, _, rfl⟩) hovs hos hway ?_) rfl ?hd rfl rfl ?hu
      case hd => exact Nat.le_of_ble_eq_true rfl
      case hu => exact Nat.le_of_ble_eq_true rfl
      intro Dn kn zn tln h10 tk10 hK10 hE0 hE1 htl1 htlE hcdn hzn
      obtain ⟨tail4, G4, F10, N10, g4, k4, new4, old4⟩ := back (new := (Dn, _) :: tln) g3 F8 N8 hK10 (List.forall_mem_cons.mpr ⟨⟨hE0, hE1⟩, htl1⟩)
      replace hxG := k4 _ _ hxG
      replace hdxG := k4 _ _ hdxG
      replace hDG := k4 _ _ hDG
      replace hpG := hpG.keeps k4
      replace hmG := k4 _ _ hmG
      replace hmc : ∀ z ∈ zm, CardAt _ G4 z.1 z.2 := fun z hz => (hmc z hz).keeps k4
      have hnG := (new4 _ (.head _)).1
      have hnc := hcdn G4 fun q hq => (new4 q (.tail _ hq)).1
      dsimp only at hnG
      clear kG g3 k4 new4 old4 hcdn htl1 htlE hE1 hE0 hK10 F8 N8 t0 t1 t2 t3 t4 t5 t6 golG
      obtain ⟨t0, t1, t2, t3, t4, t5, t6⟩ := outs g4
      as_aux_lemma =>
       exact by
        w_top off
        walk_at "mine fillX"
        walk_at "mine to90"
        have f : ListFacts _ G4 n size way os zm zn := ⟨hn, hway, idx_of hperm, hsize.1, hsize.2, hmc, hnc, hzm, hzn⟩
        clear hmc hnc hzm hzn
        rename Fr _ _ _ _ => F8
        rename News _ _ _ _ => N8
        rename Below _ _ _ _ => Bz
        have kG := g4.at6 F8 N8
        refine wpAny_le (A' := Lv 500 500 _ _ _ _ _ _ _ _) (by_numbers_spec (sel := selF os way) (cards := zm.map (·.2)) (ln := n) Bz F8 (by assumption) (by assumption) rfl (kG _ _ hxG) (kG _ _ hdxG) ⟨_, kG _ _ hDG, rfl, _, rfl⟩ (hpG.keeps kG) ⟨_, kG _ _ hmG, rfl, _, rfl⟩ (cardsAt_of fun z hz => (f.cm z hz).keeps kG)
          (fun c hc => by obtain ⟨z, hz, rfl⟩ := List.mem_map.mp hc; exact (f.om hz).len) (by omega) (fun p hp => by obtain ⟨c, hc, rfl⟩ := List.mem_map.mp hp; exact hos c hc)
          (fun c hc => by obtain ⟨z, hz, rfl⟩ := List.mem_map.mp hc; exact (f.om hz).bound f.hn f.hw f.hos)
          (fun c hc d hd => by obtain ⟨y, hy, rfl⟩ := List.mem_map.mp hc; obtain ⟨z, hz, rfl⟩ := List.mem_map.mp hd; exact ⟨(f.om hy).cmp f.hw (f.om hz), (f.om hy).same (f.om hz)⟩) ?_) rfl ?hd rfl rfl ?hu
        case hd => exact Nat.le_of_ble_eq_true rfl
        case hu => exact Nat.le_of_ble_eq_true rfl
        intro h11 tk11 hK11
        have F9 := Fr.keeps F8 hK11
        have N9 := News.grown N8 hK11
        clear F8 N8 kG
        walk_at "mine to95"
        rename Fr _ _ _ _ => F8
        rename News _ _ _ _ => N8
        have kG := g4.at6 F8 N8
        refine wpAny_le (A' := Lv 500 500 _ _ _ _ _ _ _ _) (plain_spec (fs := zm) (os := zn) (τ := -way) Bz F8 (by assumption) (by assumption) rfl ⟨_, kG _ _ hmG, rfl, _, rfl⟩ ⟨_, kG _ _ hnG, rfl, _, rfl⟩ (fun z hz => (f.cm z hz).keeps kG) (fun z hz => (f.cn z hz).keeps kG) (by omega)
          (fun z hz y hy => (f.om hz).near f.hw (f.on hy)) ?_) rfl ?hd rfl rfl ?hu
        case hd => exact Nat.le_of_ble_eq_true rfl
        case hu => exact Nat.le_of_ble_eq_true rfl
        intro h12 tk12 hK12
        have F9 := Fr.keeps F8 hK12
        have N9 := News.grown N8 hK12
        clear F8 N8 kG hK11 hK12
        walk_at "mine to66"
        as_aux_lemma =>
         exact by
          w_top off
          walk_at "mine fillX"
          rename Fr _ _ _ _ => F8
          rename News _ _ _ _ => N8
          have kG := g4.at6 F8 N8
          have live := as_live6 F8 N8
          have hDs := new_out live (get_size _)
          refine add_arrays F8 N8 ⟨_, kG _ _ hmG, rfl, _, rfl⟩ ⟨_, kG _ _ hnG, rfl, _, rfl⟩ ?_ (by rw [sizeLine_eq]; have := f.lm; have := f.ln; simp; omega)
          intro h13 F13 N13
          rw [cat_map] at N13
          clear F8 N8 kG
          walk_at "mine to66"
          rename Fr _ _ _ _ => F8
          rename News _ _ _ _ => N8
          rename Below _ _ _ _ => Bz
          have kG := g4.to F8 N8 fun _ hq => .tail _ (.tail _ (.tail _ (.tail _ (.tail _ (.tail _ (.tail _ hq))))))
          refine wpAny_le (A' := Lv 500 500 _ _ _ _ _ _ _ _) (listing_spec (zs := zm ++ zn) (sel := selF os way) (ln := n) Bz F8 (by assumption) (by assumption) rfl (kG _ _ hxG) (kG _ _ hdxG) ⟨_, kG _ _ hDG, rfl, _, rfl⟩ (hpG.keeps kG) ⟨_, (N8 _ (.head _)).1, rfl, _, rfl⟩ (fun z hz => (f.c hz).keeps kG)
            (fun z hz => by obtain ⟨_, o⟩ := f.o hz; exact o.len) (by omega) (fun p hp => by obtain ⟨c, hc, rfl⟩ := List.mem_map.mp hp; exact hos c hc) (by have := f.lm; have := f.ln; simp; omega) ?_) rfl ?hd rfl rfl ?hu
          case hd => exact Nat.le_of_ble_eq_true rfl
          case hu => exact Nat.le_of_ble_eq_true rfl
          intro Db kb h14 tk14 hK14 hB0 hB1
          obtain ⟨tail5, G5, F9, N9, g5, k5, new5, -, -⟩ := back_ex (ex := [_]) (new := [(Db, _)]) g4 F8 N8 (List.forall_mem_singleton.mpr hDs) hK14 (List.forall_mem_singleton.mpr ⟨hB0, hB1⟩)
          replace hxG := k5 _ _ hxG
          replace hdxG := k5 _ _ hdxG
          replace hDG := k5 _ _ hDG
          replace hpG := hpG.keeps k5
          replace hmG := k5 _ _ hmG
          replace hnG := k5 _ _ hnG
          replace f := f.keeps k5
          obtain ⟨hbG, hbM⟩ := new5 _ (.head _)
          dsimp only at hbG
          clear hDs live kG g4 k5 new5 hB1 hB0 hK14 F8 N8 t0 t1 t2 t3 t4 t5 t6
          obtain ⟨t0, t1, t2, t3, t4, t5, t6⟩ := outs g5
          walk_at "mine toAdd"
          rename Fr _ _ _ _ => F8
          rename News _ _ _ _ => N8
          have kG := g5.at6 F8 N8
          have live := as_live6 F8 N8
          have hDs := new_out live (get_size _)
          refine add_arrays F8 N8 ⟨_, kG _ _ hmG, rfl, _, rfl⟩ ⟨_, kG _ _ hnG, rfl, _, rfl⟩ ?_ (by rw [sizeLine_eq]; have := f.lm; have := f.ln; simp; omega)
          intro h13 F13 N13
          rw [cat_map] at N13
          clear F8 N8 kG
          have neDs := out_ne hDs
          walk_at "mine toSorted"
          as_aux_lemma =>
           exact by
            w_top off
            walk_at "mine fillX"
            rename Fr _ _ _ _ => F8
            rename News _ _ _ _ => N8
            rename (@LT.lt Nat _ _ _ ∧ _) => l1
            rename (@LT.lt Nat _ _ _) => l2
            ksk_show
            with_unfolding_all refine' ksk_sorted (kz := (zm ++ zn).map (·.2.val)) (vs := (zm ++ zn).map (·.1)) F8 N8 ⟨_, (N8 _ (.tail _ (.tail _ (.head _)))).1, rfl, _, rfl⟩ ?klen ?k64 ?a1 ?a2 ?a3 ?turn ?done
            case klen => simp
            case k64 => have := f.lm; have := f.ln; simp; omega
            case a1 => ksk_a1
            case a2 => (intro x'; ksk_a2)
            case a3 => (intro x'; ksk_a3)
            case turn =>
              intro i v k hv hk h tk own F9 N9
              simp only [List.cons_append] at N9
              clear F8 N8
              rw [List.getElem?_map] at hv hk
              obtain ⟨z, ez, rfl⟩ := Option.map_eq_some_iff.mp hv
              rw [ez] at hk
              simp only [Option.map_some, Option.some.injEq] at hk
              subst hk
              have hz := List.mem_of_getElem? ez
              obtain ⟨a1, rv1, sv1, t1, e1, hT1, -, -⟩ := f.c hz
              rw [e1]
              walk_at "mine toSub"
              rename Fr (ghostOf _ _) _ _ _ => FG
              rename Fr _ _ _ _ => F10
              rename News _ _ _ _ => N10
              have kG' : Keeps G5 _ := g5.keeps _ (fun b o e => F10.keep _ _ (FG.keep _ _ e)) (fun q hq => (N10 q (by simp only [List.mem_cons, List.mem_append, hq, true_or, or_true])).1)
              refine item_tupleT (isTup_keeps kG' hT1) (by decide) (by decide) rfl rfl ?_
              clear kG'
              repeat (walk_at "mine stepN")
            intro Do h14 tk14 outv c14 F14 N14 l14 hko
            have hout := f.sorted hko
            obtain ⟨out⟩ := outv
            simp only at hout
            subst hout
            clear F8 N8 hko F13 N13
            walk_at "mine toNe"
            rename Fr _ _ _ _ => F8
            rename News _ _ _ _ => N8
            have kG := g5.to F8 N8 fun _ hq => by simp only [List.mem_cons, hq, or_true]
            refine ne_same ⟨_, kG _ _ hbG, rfl, _, rfl⟩ ⟨_, (N8 _ (.head _)).1, rfl, _, rfl⟩ (Nat.le_of_ble_eq_true rfl) ?_
            obtain ⟨tail6, G6, N9, g6, k6, -, old6⟩ := grow (new := [_, _, _, _]) g5 F8 N8 (.head _) (List.forall_mem_cons.mpr ⟨out7 (l14 _ (.tail _ (.tail _ (.tail _ (.head _))))) (l14 _ (.tail _ (.tail _ (.tail _ (.tail _ (.tail _ (.tail _ (.tail _ (.tail _ (.head _)))))))))), List.forall_mem_cons.mpr ⟨out7 (Nat.lt_trans l1.2.1 l2) (Nat.lt_trans l1.2.2.2.2.2.2.1 l2), List.forall_mem_cons.mpr ⟨out7 l1.2.1 l1.2.2.2.2.2.2.1, List.forall_mem_singleton.mpr hDs⟩⟩⟩) (fun _ h => h) g5.off
            replace hxG := k6 _ _ hxG
            replace hdxG := k6 _ _ hdxG
            replace hDG := k6 _ _ hDG
            replace hpG := hpG.keeps k6
            replace hmG := k6 _ _ hmG
            replace hnG := k6 _ _ hnG
            replace f := f.keeps k6
            replace hbG := k6 _ _ hbG
            replace hbM := (old6 _ hbM).2
            clear hDs live kG g5 k6 old6 N8 t0 t1 t2 t3 t4 t5 t6 neDs l1 l2 l14
            obtain ⟨t0, t1, t2, t3, t4, t5, t6⟩ := outs g6
            as_aux_lemma =>
             exact by
              w_top off
              walk_at "mine fillX"
              walk_at "mine toComp"
              rename Fr _ _ _ _ => F1
              refine LCt.ListComp_T F1 (by with_unfolding_all rfl) (by decide) rfl (by decide) rfl ?_
              walk1
              refine LCt.CompSrcT.ledger (its := ((bothF os way zm zn).map (·.1)).toArray) rfl (by assumption) (by assumption) (by k_mem) (by rw [sizeLine_eq, List.size_toArray, List.length_map]; exact Nat.le_trans f.lb (by decide)) fun g => ?_
              clear F1
              refine restT_ind (fun i ys nw => nw = (_, _) :: (_, _) :: (_, _) :: (_, _) :: (_, _) :: (_, _) :: tail6 ∧ ys = (((bothF os way zm zn).take i).filter (inF zm)).map (·.1)) ?_ ?_ _ 0 [] _ (Nat.zero_add _) ⟨rfl, rfl⟩
              · rintro i ys nw v I oI C oC D m2 h2 tk2 E2 hi ⟨rfl, rfl⟩ hP hoC hmx F6 N6 off6 hne6
                have hi' : i < (bothF os way zm zn).length := by simpa using hi
                obtain ⟨z, ez⟩ : ∃ z, (bothF os way zm zn)[i]? = some z := ⟨_, List.getElem?_eq_getElem hi'⟩
                have hv : v = z.1 := by
                  rw [List.getElem?_toArray, List.getElem?_map, ez] at hP
                  exact (Option.some.inj hP).symm
                subst hv
                have hz := f.asc.2.mem_iff.mp (List.mem_of_getElem? ez)
                walk_at "mine toIn"
                have kG := g6.to F6 N6 fun _ hq => by simp only [List.mem_cons, hq, or_true]
                refine in_cards (zs := zm) (z := z) ⟨_, kG _ _ hmG, rfl, _, rfl⟩ (fun p hp => (f.cm p hp).keeps kG) ((f.c hz).keeps kG) (fun y hy e => f.ne (List.mem_append_left _ hy) hz e) (Nat.le_of_ble_eq_true rfl) ?_
                walk_at "mine toCT"
                clear kG
                obtain ⟨hi2, ez2⟩ := List.getElem?_eq_some_iff.mp ez
                refine CT.of (fun hb => ?_) fun hb => ?_
                · walk_at "mine toCE"
                  refine CE.intro _ F6 N6 (fun p hp => hp) off6 (.inr ⟨_, .tail _ (.tail _ (.tail _ (.tail _ (.tail _ (.tail _ hbM))))), rfl, _, rfl⟩) ⟨rfl, ?_⟩
                  rw [filt_yes hi2 (by rw [ez2]; exact hb), ez2]
                · refine CE.intro _ F6 N6 (fun p hp => hp) off6 (.inr ⟨_, .tail _ (.tail _ (.tail _ (.tail _ (.tail _ (.tail _ hbM))))), rfl, _, rfl⟩) ⟨rfl, ?_⟩
                  rw [filt_no hi2 (by rw [ez2]; exact hb)]
              rintro ys nw ⟨rfl, rfl⟩ Dl h7 tk7 F7 N7 off7
              rw [show ((bothF os way zm zn).map (·.1)).toArray.size = (bothF os way zm zn).length from by rw [List.size_toArray, List.length_map], List.take_length] at N7
              obtain ⟨p5, p4, p3, p2, p1, p0, -⟩ := off7
              obtain ⟨tail7, G7, N8, g7, k7, new7, old7⟩ := grow (new := [_]) g6 F7 N7 (.head _) (List.forall_mem_singleton.mpr (out7' (N7 _ (.head _)).2.1 (Ne.symm p1) (Ne.symm p2) (Ne.symm p3) (Ne.symm p4) (Ne.symm p5) (Ne.symm p0))) (fun _ h => h) g6.off
              replace hxG := k7 _ _ hxG
              replace hdxG := k7 _ _ hdxG
              replace hDG := k7 _ _ hDG
              replace hpG := hpG.keeps k7
              replace hmG := k7 _ _ hmG
              replace hnG := k7 _ _ hnG
              replace f := f.keeps k7
              replace hbG := k7 _ _ hbG
              replace hbM := (old7 _ hbM).2
              obtain ⟨hlG, hlM⟩ := new7 _ (.head _)
              dsimp only at hlG
              clear g6 k7 old7 new7 N7 t0 t1 t2 t3 t4 t5 t6 p5 p4 p3 p2 p1 p0
              obtain ⟨t0, t1, t2, t3, t4, t5, t6⟩ := outs g7
              walk_at "mine toAComp"
              rename Fr _ _ _ _ => F1
              refine LCt.Assign_ListComp_T F1 rfl (by with_unfolding_all rfl) (by with_unfolding_all rfl) (by decide) rfl (by decide) rfl rfl rfl ?_
              walk1
              refine LCt.CompSrcT.ledger (its := ((bothF os way zm zn).map (·.1)).toArray) rfl (by assumption) (by assumption) (by k_mem) (by rw [sizeLine_eq, List.size_toArray, List.length_map]; exact Nat.le_trans f.lb (by decide)) fun g => ?_
              clear F1
              refine restT_ind (fun i ys nw => nw = (_, _) :: (_, _) :: (_, _) :: (_, _) :: (_, _) :: (_, _) :: tail7 ∧ ys = (((bothF os way zm zn).take i).filter (inF zn)).map (·.1)) ?_ ?_ _ 0 [] _ (Nat.zero_add _) ⟨rfl, rfl⟩
              · rintro i ys nw v I oI C oC D m2 h2 tk2 E2 hi ⟨rfl, rfl⟩ hP hoC hmx F6 N6 off6 hne6
                have hi' : i < (bothF os way zm zn).length := by simpa using hi
                obtain ⟨z, ez⟩ : ∃ z, (bothF os way zm zn)[i]? = some z := ⟨_, List.getElem?_eq_getElem hi'⟩
                have hv : v = z.1 := by
                  rw [List.getElem?_toArray, List.getElem?_map, ez] at hP
                  exact (Option.some.inj hP).symm
                subst hv
                have hz := f.asc.2.mem_iff.mp (List.mem_of_getElem? ez)
                walk_at "mine toIn"
                have kG := g7.to F6 N6 fun _ hq => by simp only [List.mem_cons, hq, or_true]
                refine in_cards (zs := zn) (z := z) ⟨_, kG _ _ hnG, rfl, _, rfl⟩ (fun p hp => (f.cn p hp).keeps kG) ((f.c hz).keeps kG) (fun y hy e => f.ne (List.mem_append_right _ hy) hz e) (Nat.le_of_ble_eq_true rfl) ?_
                walk_at "mine toCT"
                clear kG
                obtain ⟨hi2, ez2⟩ := List.getElem?_eq_some_iff.mp ez
                refine CT.of (fun hb => ?_) fun hb => ?_
                · walk_at "mine toCE"
                  refine CE.intro _ F6 N6 (fun p hp => hp) off6 (.inr ⟨_, .tail _ (.tail _ (.tail _ (.tail _ (.tail _ (.tail _ hbM))))), rfl, _, rfl⟩) ⟨rfl, ?_⟩
                  rw [filt_yes hi2 (by rw [ez2]; exact hb), ez2]
                · refine CE.intro _ F6 N6 (fun p hp => hp) off6 (.inr ⟨_, .tail _ (.tail _ (.tail _ (.tail _ (.tail _ (.tail _ hbM))))), rfl, _, rfl⟩) ⟨rfl, ?_⟩
                  rw [filt_no hi2 (by rw [ez2]; exact hb)]
              rintro ys nw ⟨rfl, rfl⟩ Dr h8 tk8 F8 N8 off8
              rw [show ((bothF os way zm zn).map (·.1)).toArray.size = (bothF os way zm zn).length from by rw [List.size_toArray, List.length_map], List.take_length] at N8
              obtain ⟨p5, p4, p3, p2, p1, p0, -⟩ := off8
              obtain ⟨tail8, G8, N9, g8, k8, new8, old8⟩ := grow (new := [_]) g7 F8 N8 (.head _) (List.forall_mem_singleton.mpr (out7' (N8 _ (.head _)).2.1 (Ne.symm p1) (Ne.symm p2) (Ne.symm p3) (Ne.symm p4) (Ne.symm p5) (Ne.symm p0))) (fun _ h => h) g7.off
              replace hxG := k8 _ _ hxG
              replace hdxG := k8 _ _ hdxG
              replace hDG := k8 _ _ hDG
              replace hpG := hpG.keeps k8
              replace hmG := k8 _ _ hmG
              replace hnG := k8 _ _ hnG
              replace f := f.keeps k8
              replace hbG := k8 _ _ hbG
              replace hlG := k8 _ _ hlG
              replace hlM := (old8 _ hlM).2
              replace hbM := (old8 _ hbM).2
              obtain ⟨hrG, hrM⟩ := new8 _ (.head _)
              dsimp only at hrG
              clear g7 k8 old8 new8 N8 t0 t1 t2 t3 t4 t5 t6 p5 p4 p3 p2 p1 p0
              obtain ⟨t0, t1, t2, t3, t4, t5, t6⟩ := outs g8
              dsimp only
              as_aux_lemma =>
               exact by
                w_top off
                walk_at "mine fillX"
                replace f := f.two
                clear hxG hdxG hDG hpG hmG hnG hbG hbM hos
                generalize (bothF os way zm zn).filter (inF zm) = Lm at f hlG hlM
                generalize (bothF os way zm zn).filter (inF zn) = Ln at f hrG hrM
                walk_at "mine toIf"
                rename Fr _ _ _ _ => F1
                rename News _ _ _ _ => N1
                refine int_step F1 N1 (kOf n size way : Int) (fun F2 N2 => ?ev) (fun tkk hkk tk9 F9 N9 => ?_)
                case ev =>
                  clear F1 N1
                  rcases hway with rfl | rfl
                  · walk_at "mine toKPost"
                    refine KPost.intro ?_ (by assumption) (by assumption)
                    have := f.h1
                    unfold kOf
                    rw [if_pos rfl]; omega
                  · walk_at "mine toKPost"
                    refine KPost.intro ?_ (by assumption) (by assumption)
                    have := f.h2
                    unfold kOf
                    rw [if_neg (by decide)]; omega
                clear F1 N1
                dsimp only at F9
                walk_at "mine toLen"
                rename News _ _ _ _ => N1
                refine kst_len (k := Lm.length) N1 (.tail _ (.tail _ (.tail _ (.tail _ (.tail _ (.tail _ hlM)))))) (by simp) (by have := f.lm2; omega) ?_
                walk_at "mine toRange"
                as_aux_lemma =>
                 exact by
                  w_top off
                  walk_at "mine fillX"
                  rename IsRange _ _ _ _ _ _ _ _ => R0
                  rename Fr _ _ _ _ => F0
                  rename News _ _ _ _ => N0
                  refine iter_rangeS (["m"] : List Str) (fun i _ nw => nw = (_, _) :: (_, _) :: (_, _) :: (_, _) :: (_, _) :: (_, _) :: tail8) R0 F0 N0 (range1 f.lm2).1 (range1 f.lm2).2 rfl rfl ?_ ?_
                  · rintro i t u news₁ h tk I oI hi rfl hoff F1 N1
                    clear F0 N0 R0
                    have hw1 := f.hw
                    obtain ⟨mm, hmm⟩ : ∃ mm : Int, 1 + (i : Int) = mm := ⟨_, rfl⟩
                    rw [hmm]
                    have hm1 : 0 ≤ mm := by omega
                    have hm2 : mm ≤ 10 := by have := f.lm2; omega
                    have hm3 : mm.toNat ≤ Lm.length := by omega
                    walk_at "mine toSlice"
                    rename Fr _ _ _ _ => F2
                    rename News _ _ _ _ => N2
                    refine kms_slice_lit F2 N2 ⟨_, (N2 _ (.tail _ (.tail _ (.tail _ (.tail _ (.tail _ (.tail _ (.tail _ hlM)))))))).1, rfl, _, rfl⟩ .none (.int _ _) (slice_upto hm1) ?_ (by with_unfolding_all rfl) (by intro _; with_unfolding_all rfl) (by rw [sizeLine_eq, List.size_toArray, List.length_map]; exact Nat.le_trans f.lm2 (by decide))
                    intro S1 hs1 F3 N3 ls1
                    clear F2 N2 F1 N1
                    walk_at "mine to71"
                    rename Fr _ _ _ _ => F2
                    rename News _ _ _ _ => N2
                    have kG := g8.to F2 N2 fun _ hq => by simp only [List.mem_cons, hq, or_true]
                    refine wpAny_le (A' := Lv 500 500 _ _ _ _ _ _ _ _) (met_spec (fs := Lm.take mm.toNat) (os := Ln) (τ := -way) Bz F2 (by assumption) (by assumption) rfl ⟨_, (N2 _ (.head _)).1, rfl, _, rfl⟩ ⟨_, kG _ _ hrG, rfl, _, rfl⟩ (fun z hz => (f.cm z (List.mem_of_mem_take hz)).keeps kG) (fun z hz => (f.cn z hz).keeps kG) (by rw [List.length_take]; omega) (by have := f.ln; omega) ?_) rfl ?hd rfl rfl ?hu
                    case hd => exact Nat.le_of_ble_eq_true rfl
                    case hu => exact Nat.le_of_ble_eq_true rfl
                    intro D2 n2 h2 tk2 hK2 hD0 hD1
                    have F5 := Fr.keeps F2 hK2
                    have N5 := news_more F2 N2 hK2 hD0 hD1
                    clear F2 N2 hK2 hD0 hD1 kG
                    walk_at "mine to85"
                    rename Fr _ _ _ _ => F2
                    rename News _ _ _ _ => N2
                    have hk := f.k1
                    refine wpAny_le (A' := Lv 600 600 _ _ _ _ _ _ _ _) (least_spec Bz F2 (by assumption) (by assumption) rfl hm1 hm2 (by omega) (by omega) ?_) rfl ?hd rfl rfl ?hu
                    case hd => exact Nat.le_of_ble_eq_true rfl
                    case hu => exact Nat.le_of_ble_eq_true rfl
                    intro t5 h5 tk5 hK5
                    have F6 := Fr.keeps F2 hK5
                    have N6 := News.grown N2 hK5
                    clear F2 N2 hK5
                    rw [Int.toNat_natCast]
                    have hle := leF_bounds hk.2 hm1 hm2
                    walk_at "mine toSlice"
                    rename Fr _ _ _ _ => F2
                    rename News _ _ _ _ => N2
                    refine kms_slice_lit F2 N2 ⟨_, (N2 _ (.tail _ (.tail _ (.tail _ (.tail _ (.tail _ (.tail _ (.tail _ (.tail _ (.tail _ hrM)))))))))).1, rfl, _, rfl⟩ .none (.int _ _) (slice_upto hle.1) ?_ (by with_unfolding_all rfl) (by intro _; with_unfolding_all rfl) (by rw [sizeLine_eq, List.size_toArray, List.length_map]; exact Nat.le_trans f.ln (by decide))
                    intro S2 hs2 F7 N7 ls2
                    clear F2 N2
                    have htk := f.take hm3
                    have em : ((mm.toNat : Nat) : Int) = mm := by omega
                    rw [em] at htk
                    rw [htk] at N7
                    walk_at "mine toNe"
                    rename Fr _ _ _ _ => F2
                    rename News _ _ _ _ => N2
                    refine ne_same ⟨_, (N2 _ (.tail _ (.head _))).1, rfl, _, rfl⟩ ⟨_, (N2 _ (.head _)).1, rfl, _, rfl⟩ (Nat.le_of_ble_eq_true rfl) ?_
                    walk_at "mine toTE"
                    refine TEnd.introS ((_, _) :: (_, _) :: (_, _) :: (_, _) :: (_, _) :: (_, _) :: tail8) F2 N2 (.tail _ (.tail _ (.tail _ (.head _)))) (fun p hp => .tail _ (.tail _ (.tail _ (.tail _ hp)))) hoff ?_ rfl
                    intro z hz
                    simp only [List.contains_cons, List.contains_nil, Bool.or_false, beq_eq_false_iff_ne, ne_eq] at hz
                    simp [hz]
                  rintro u news₁ h tk rfl F1 N1
                  dsimp only
                  clear F0 N0 R0
                  as_aux_lemma =>
                   exact by
                    w_top off
                    walk_at "mine fillX"
                    have hq1 : (Lm.map (·.1)).length = Lm.length := by simp
                    have hq2 := f.lm2
                    have hq3 : ((Lm.length : Nat) : Int) ≠ 0 := by have := f.lm1; omega
                    have hq4 : (0 : Int) < ((Lm.length : Nat) : Int) := by have := f.lm1; omega
                    walk_at "mine toAComp"
                    rename IntsAre _ (_ ++ _) => hpk
                    clear hq3 hq4
                    rename Fr _ _ _ _ => F1
                    rename News _ _ _ _ => N1
                    refine LCt.Assign_ListComp_T F1 rfl (by with_unfolding_all rfl) (by with_unfolding_all rfl) (by decide) rfl (by decide) rfl rfl rfl ?_
                    walk_at "mine toRange"
                    rename IsRange _ _ _ _ _ _ _ _ => R0
                    rename Fr _ _ _ _ => F1
                    rename News _ _ _ _ => N1
                    refine LCt.CompSrcT.range rfl F1 N1 R0 (range0 f.lm2).1 (range0 f.lm2).2 (by rw [sizeLine_eq]; omega) fun g => ?_
                    clear F1 N1 R0
                    refine restT_ind (fun i ys nw => nw = (_, _) :: (_, _) :: (_, _) :: (_, _) :: (_, _) :: (_, _) :: (_, _) :: (_, _) :: (_, _) :: (_, _) :: tail8 ∧ ∃ fs : List (Value × Crd), fs.Sublist (Lm.take i) ∧ ys = fs.map (·.1)) ?_ ?_ _ 0 [] _ (Nat.zero_add _) ⟨rfl, [], List.Sublist.slnil, rfl⟩
                    · rintro i ys nw v I oI C oC D m2 h2 tk2 E2 hi ⟨rfl, fs, hfs, rfl⟩ ⟨tv, rfl⟩ hoC hmx F6 N6 off6 hne6
                      obtain ⟨ii, hii⟩ : ∃ ii : Int, 0 + (i : Int) = ii := ⟨_, rfl⟩
                      rw [hii] at hmx
                      walk_at "mine toIn"
                      refine in_list_ints ⟨_, (N6 _ (.tail _ (.tail _ (.tail _ (.head _))))).1, rfl, _, rfl⟩ hpk ?_
                      walk_at "mine toCT"
                      refine CT.of (fun hb => ?_) fun hb => ?_
                      · walk_at "mine toSub"
                        rename Fr _ _ _ _ => F8
                        rename News _ _ _ _ => N8
                        refine item_lst (zs := Lm) N8 (.tail _ (.tail _ (.tail _ (.tail _ (.tail _ (.tail _ (.tail _ (.tail _ (.tail _ (.tail _ (.tail _ (.tail _ (.tail _ hlM))))))))))))) (by omega) (by omega) f.lm2 fun z hz => ?_
                        rw [show ii.toNat = i from by omega] at hz
                        walk_at "mine toCE"
                        refine CE.intro _ F8 N8 (fun p hp => hp) off6 trivial ⟨rfl, fs ++ [z], fam_yes hfs hz, by rw [List.map_append]; rfl⟩
                      · refine CE.intro _ F6 N6 (fun p hp => hp) off6 trivial ⟨rfl, fs, fam_no hfs, rfl⟩
                    rintro ys nw ⟨rfl, fs, hfs, rfl⟩ Df h7 tk7 F7 N7 off7
                    rw [List.take_length] at hfs
                    dsimp only at F7 ⊢
                    as_aux_lemma =>
                     exact by
                      w_top off
                      walk_at "mine fillX"
                      have hw1 := f.hw
                      have hk := f.k1
                      have hfl : fs.length ≤ 10 := Nat.le_trans hfs.length_le f.lm2
                      have hml : (metF fs Ln (-way)).length ≤ 10 := Nat.le_trans (List.length_filter_le _ _) f.ln
                      have hle := leF_bounds hk.2 (show 0 ≤ ((fs.length : Nat) : Int) by omega) (by omega)
                      have hfin : leF (kOf n size way) ((fs.length : Nat) : Int) ≤ (((metF fs Ln (-way)).length : Nat) : Int) := by
                        have := f.least hfs
                        omega
                      walk_at "mine to71"
                      rename Fr _ _ _ _ => F2
                      rename News _ _ _ _ => N2
                      have kG := g8.to F2 N2 fun _ hq => by simp only [List.mem_cons, hq, or_true]
                      refine wpAny_le (A' := Lv 500 500 _ _ _ _ _ _ _ _) (met_spec (fs := fs) (os := Ln) (τ := -way) Bz F2 (by assumption) (by assumption) rfl ⟨_, (N2 _ (.head _)).1, rfl, _, rfl⟩ ⟨_, kG _ _ hrG, rfl, _, rfl⟩ (fun z hz => (f.cm z (hfs.subset hz)).keeps kG) (fun z hz => (f.cn z hz).keeps kG) (by omega) (by have := f.ln; omega) ?_) rfl ?hd rfl rfl ?hu
                      case hd => exact Nat.le_of_ble_eq_true rfl
                      case hu => exact Nat.le_of_ble_eq_true rfl
                      intro D2 n2 h2 tk2 hK2 hD0 hD1
                      have F5 := Fr.keeps F2 hK2
                      have N5 := news_more F2 N2 hK2 hD0 hD1
                      clear F2 N2 hK2 hD0 hD1 kG
                      walk_at "mine toLen"
                      rename News _ _ _ _ => N2
                      refine kst_len (k := (metF fs Ln (-way)).length) N2 (.head _) (by simp) (by omega) ?_
                      walk_at "mine toLen"
                      rename News _ _ _ _ => N3
                      refine kst_len (k := fs.length) N3 (.tail _ (.head _)) (by simp) (by omega) ?_
                      walk_at "mine to85"
                      rename Fr _ _ _ _ => F2
                      rename News _ _ _ _ => N2
                      refine wpAny_le (A' := Lv 600 600 _ _ _ _ _ _ _ _) (least_spec Bz F2 (by assumption) (by assumption) rfl (by omega) (by omega) (by omega) (by omega) ?_) rfl ?hd rfl rfl ?hu
                      case hd => exact Nat.le_of_ble_eq_true rfl
                      case hu => exact Nat.le_of_ble_eq_true rfl
                      intro t5 h5 tk5 hK5
                      have F6 := Fr.keeps F2 hK5
                      have N6 := News.grown N2 hK5
                      clear F2 N2 hK5
                      rw [Int.toNat_natCast]
                      walk_at "mine toGe"
                      refine PyProof.Rows.ge_int ?_
                      rw [decide_eq_true hfin]
                      k_steps)
end Mine

theorem PySem.Challenge.cw_mq0048_01_holds : PySem.Challenge.rw_mq0048_01.Holds :=
  Mine.law_holds
