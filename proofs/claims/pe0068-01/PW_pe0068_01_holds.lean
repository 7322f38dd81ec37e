import PyProof.Rows.All
import Wide.All
import OpenK.AllK
import Wide.FinOn
import Lean
import PySem.Challenge.RW_pe0068_01
open PySem PySem.W PyProof.Rows
set_option Elab.async false
set_option maxRecDepth 100000

set_option maxHeartbeats 8000000
namespace Mine
open_top hd68 for PySem.Challenge.rw_pe0068_01
end Mine
set_option maxHeartbeats 8000000
namespace Mine
open PySem.Calls PySem.Spec PyProof.V

noncomputable abbrev P68 : Program := PySem.Challenge.rw_pe0068_01.row.prog
noncomputable abbrev K68 (w : World) : Frag := hd68.heap_39 w.params
abbrev Ar (dp un : Nat) (fr : Option (List Env)) (gd : Option (List Code)) : Around := { handled := none, depth := dp, frames := fr, guards := gd, units := un }
/-- everything that stood stands -/
abbrev Kp (h h' : Heap) : Prop := ∀ b o, h.get? b = some o → h'.get? b = some o

/-- a goal that the walk leaves -/
def Stop (P : Prop) : Prop := P
theorem Stop.mk {P : Prop} (h : Stop P) : P := h

theorem enter0 {prog : Program} {w : World} {A : Around} {s : Shared} {K : Frag} {p : Program} {loose : List PySem.Str} {mean : ExcName → Option Value} {mg mb : PySem.Str → Option Value} {Q E : Value → Shared → Prop} {name qual : PySem.Str} {params : Arguments} {body : List Stmt} {scope : Scope} {dV kV doc pm cdv ct oc : Value} {an od : Option Addr} {osl : Array (Option Value)} {f : Addr} {args : List Value} {binds : List (PySem.Str × Value)}
    (X : K.In s.heap) (T : Top p loose mean mg mb s.heap)
    (ho : K.lookup f = some ⟨oc, od, .func (fnOf name qual params body scope dV kV doc pm an cdv ct), osl⟩) (hcd : codeIn K cdv qual = true) (hroom : A.depth < recursionLimit)
    (hbind : BindsTo s (fnOf name qual params body scope dV kV doc pm an cdv ct) ⟨args, []⟩ binds) (hloc : ∀ y ∈ binds, scope.names.lookup y.1 = some .local)
    (h : ∀ L' h₁ tk, Fr s.heap L' h₁ (fun y => binds.reverse.lookup y) → News s.heap L' h₁ [] →
      wpAny (model prog w) (A.deeper (envOf qual scope L' f cdv)) (execs body (envOf qual scope L' f cdv))
        (fun fl s' => Q (match fl with | .ret v => v | _ => .none) s') (fun _ _ => False)
        { s with heap := h₁, toks := tk })
    (hco : scope.isCoroutine = false) (hgen : scope.isGenerator = false) (hk : scope.kind = .function)
    (hcell : ∀ x ∈ scope.names, x.2 ≠ .cell) : wpAny (model prog w) A (call (.ref f) args) Q E s := by
  refine wpAny_call ?_
  refine codeAny_call_def (fd := fnOf name qual params body scope dV kV doc pm an cdv ct) (body := body) (binds := binds) hroom (X _ _ ho) rfl T.nolimit (codeRec_of X hcd) rfl hbind hcell hloc (fun h₁ hns hk₁ => ?_) hco hgen hk
  exact wpAny_mono (h s.heap.objs.size h₁ _ ⟨hns, fun b o e => hk₁ b o e, Nat.le_refl _⟩ News.nil) (fun fl s' hl => by cases fl <;> exact hl) (fun _ _ y => y.elim)
theorem enter0C {prog : Program} {w : World} {A : Around} {s : Shared} {K : Frag} {p : Program} {loose : List PySem.Str} {mean : ExcName → Option Value} {mg mb : PySem.Str → Option Value} {Q E : Value → Shared → Prop} {name qual : PySem.Str} {params : Arguments} {body : List Stmt} {scope : Scope} {dV kV doc pm cdv ct oc : Value} {an od : Option Addr} {osl : Array (Option Value)} {f : Addr} {args : List Value} {binds : List (PySem.Str × Value)}
    (X : K.In s.heap) (T : Top p loose mean mg mb s.heap)
    (ho : K.lookup f = some ⟨oc, od, .func (fnX name qual params body scope [] dV kV doc pm an cdv ct), osl⟩) (hcd : codeIn K cdv qual = true) (hroom : A.depth < recursionLimit)
    (hbind : BindsTo s (fnX name qual params body scope [] dV kV doc pm an cdv ct) ⟨args, []⟩ binds)
    (hkind : ∀ n, ∀ x ∈ binds, scope.names.lookup x.1 = some .local ∨ (scope.names.lookup x.1 = some .cell ∧ ((cellsFrom n scope.names []).lookup x.1).isSome = true))
    (hnd : ((cellsFrom 0 scope.names []).map (·.1)).Nodup)
    (h : ∀ L' h₁ tk cells, Fr s.heap L' h₁ (bindL (envOfC qual scope L' f cdv).kindOf binds fun _ => none) → News s.heap L' h₁ cells →
      CellsAre (bindC (envOfC qual scope L' f cdv).kindOf binds fun _ => none) (cellsFrom (L' + 1) scope.names []) cells →
      wpAny (model prog w) (A.deeper (envOfC qual scope L' f cdv)) (execs body (envOfC qual scope L' f cdv))
        (fun fl s' => Q (match fl with | .ret v => v | _ => .none) s') (fun _ _ => False)
        { s with heap := h₁, toks := tk })
    (hco : scope.isCoroutine = false) (hgen : scope.isGenerator = false) (hk : scope.kind = .function) : wpAny (model prog w) A (call (.ref f) args) Q E s := by
  refine wpAny_call ?_
  refine codeAny_call_function hroom (X _ _ ho) rfl hco hgen rfl (codeRec_of X hcd) (hbind _ _ _ _ ?_)
  refine wpAny_newFunctionEnv_cells hk (hkind _) fun env' he s' x => ?_
  subst he
  refine ⟨T.nolimit.keeps x.toInCall.keep, codeAny_func ?_⟩
  obtain ⟨h₁, tk, rfl, _⟩ := x.done
  have hk₁ := x.toInCall.keep
  obtain ⟨cells, NC, Y⟩ := Cl.news (h₀ := s.heap) (Nat.le_refl _) fun n c hm => ⟨x.cell n c (lookup_of_mem_nodup (cellsFrom_names scope.names 0 (s.heap.objs.size + 1) [] [] rfl ▸ hnd) hm), x.above n c hm⟩
  exact wpAny_mono (h s.heap.objs.size h₁ tk cells ⟨x.toInCall.ns, fun b o e => hk₁ b o e, Nat.le_refl _⟩ NC Y) (fun fl s' hl => by cases fl <;> exact hl) (fun _ _ y => y.elim)
/-- a comprehension over a list of texts whose element makes a text of each -/
theorem lc_strs {prog : Program} {w : World} {A : Around} {E : Value → Shared → Prop} {s : Shared} {env : Env} {elt iter : PySem.Expr} {x : PySem.Str} {px : Pos} {scope : Scope} {pos : Pos} {Q : Value → Shared → Prop} {ax : Addr} {vs : List Value} {xs : List PySem.Str} (f : PySem.Str → PySem.Str)
    (hh : A.handled = none) (hfree : ∀ y ∈ scope.names, y.2 ≠ .free) (hcell : ∀ y ∈ scope.names, y.2 ≠ .cell) (hkind : scope.kind = .function)
    (hnames : ∀ y ∈ scope.names, y.2 = .local → scope.names.lookup y.1 = some .local) (hx : scope.names.lookup x = some .local)
    (hl : s.heap.IsList ax vs.toArray) (hS : StrsAre vs xs) (hsz : vs.length ≤ sizeLine)
    (hiter : ∀ Q' : Value → Shared → Prop, Q' (.ref ax) s → wpAny (model prog w) A (eval iter env) Q' E s)
    (helt : ∀ C y t s₂ m₂ E', y ∈ xs → s₂.heap.Ns C m₂ → m₂ x = some (.str y t) → Kp s.heap s₂.heap → wpAny (model prog w) A (eval elt (compEnv scope C env)) (fun r s₃ => (∃ t', r = .str (f y) t') ∧ Keeps s₂ s₃) E' s₂)
    (hQ : ∀ D h' tk ys, s.heap.get? D = none → h'.IsList D ys.toArray → StrsAre ys (xs.map f) → Kp s.heap h' → Q (.ref D) { s with heap := h', toks := tk })
    (hs : ∀ x, foldedSetIterable iter env x = pure x := by intro _; rfl) :
    wpAny (model prog w) A (eval (.ListComp elt [⟨.Name x px, iter, [], 0⟩] scope pos) env) Q E s := by
  refine wpAny_ListComp_map (fun _ => true) (fun v y => ∃ z t t', v = .str z t ∧ y = .str (f z) t') hh hfree hcell hkind hnames hx (hiter _ ?_) hs
  refine ⟨ax, vs.toArray, rfl, hl, by simpa using hsz, ?_, ?_, ?_⟩
  · intro C v s₂ m₂ E' _ _ _ _
    exact wpAny_tests_nil ⟨rfl, s₂.heap, s₂.toks, rfl, fun _ _ e => e⟩
  · intro C v s₂ m₂ E' hv _ hns hm hk
    have hv' : v ∈ vs := by simpa using hv
    have : ∃ y t, v = .str y t ∧ y ∈ xs := by
      clear hl hsz hiter helt hQ hns hm hv
      induction hS with
      | nil => cases hv'
      | cons y t _ ih =>
        rcases List.mem_cons.mp hv' with rfl | hv'
        · exact ⟨y, t, rfl, .head _⟩
        · obtain ⟨y', t', h1, h2⟩ := ih hv'
          exact ⟨y', t', h1, .tail _ h2⟩
    obtain ⟨y, t, rfl, hy⟩ := this
    refine wpAny_mono (helt C y t s₂ m₂ E' hy hns hm hk) (fun r s₃ h => ?_) fun _ _ e => e
    obtain ⟨⟨t', rfl⟩, hk'⟩ := h
    exact ⟨⟨y, t, t', rfl, rfl⟩, hk'⟩
  · intro D h' tk ys hD hlD hp hk
    have hfl : ((vs.toArray.toList).filter fun _ => true) = vs := by simp
    rw [hfl] at hp
    refine hQ D h' tk ys.toList hD (by simpa using hlD) ?_ hk
    have : ∀ {vs ys : List Value} {xs : List PySem.Str}, StrsAre vs xs → Paired (fun v y => ∃ z t t', v = Value.str z t ∧ y = .str (f z) t') vs ys → StrsAre ys (xs.map f) := by
      intro vs ys xs h1
      induction h1 generalizing ys with
      | nil => intro h2; cases h2; exact .nil
      | cons y t _ ih =>
        intro h2
        cases h2 with
        | cons h3 h4 =>
          obtain ⟨z, t1, t2, e1, rfl⟩ := h3
          cases e1
          exact .cons _ _ (ih h4)
    exact this hS hp
end Mine
set_option maxHeartbeats 8000000
namespace Mine
open PySem.Calls PySem.Spec PyProof.V
structure HS where
  res : List PySem.Str
  part : PySem.Str
  escape : Bool
  quote : Bool
def hstep (s : HS) (c : Int) : HS :=
  if s.escape then ⟨s.res, s.part ++ ⟨#[c.toNat]⟩, false, s.quote⟩
  else if s.quote then
    if c = 92 then ⟨s.res, s.part, true, s.quote⟩
    else if c = 34 then ⟨s.res, s.part ++ ⟨#[c.toNat]⟩, s.escape, false⟩
    else ⟨s.res, s.part ++ ⟨#[c.toNat]⟩, s.escape, s.quote⟩
  else if c = 44 then ⟨s.res ++ [s.part], PySem.Str.empty, s.escape, s.quote⟩
  else if c = 34 then ⟨s.res, s.part ++ ⟨#[c.toNat]⟩, s.escape, true⟩
  else ⟨s.res, s.part ++ ⟨#[c.toNat]⟩, s.escape, s.quote⟩
def hrun (l : List Int) : HS := l.foldl hstep ⟨[], PySem.Str.empty, false, false⟩
def HP (pre : List Int) (res : List PySem.Str) (part : PySem.Str) (escape quote : Bool) : Prop := hrun pre = ⟨res, part, escape, quote⟩
theorem hp_start : HP [] [] (PySem.Str.ofString "") false false := by unfold HP; rw [show PySem.Str.ofString "" = PySem.Str.empty by decide +kernel]; rfl
theorem one_eq (n k : Nat) : (({ cps := #[n] } : PySem.Str) == ({ cps := #[k] } : PySem.Str)) = decide (n = k) := by
  by_cases h : n = k
  · subst h; simp
  · have : ({ cps := #[n] } : PySem.Str) ≠ { cps := #[k] } := by intro e; injection e with e; apply h; simpa using e
    simp [h, this]
theorem q_eq (n : Nat) : (({ cps := #[n] } : PySem.Str) == PySem.Str.ofString "\"") = decide (n = 34) := by
  rw [show PySem.Str.ofString "\"" = ({ cps := #[34] } : PySem.Str) by decide +kernel]; exact one_eq n 34
theorem b_eq (n : Nat) : (({ cps := #[n] } : PySem.Str) == PySem.Str.ofString "\\") = decide (n = 92) := by
  rw [show PySem.Str.ofString "\\" = ({ cps := #[92] } : PySem.Str) by decide +kernel]; exact one_eq n 92
theorem c_eq (n : Nat) : (({ cps := #[n] } : PySem.Str) == PySem.Str.ofString ",") = decide (n = 44) := by
  rw [show PySem.Str.ofString "," = ({ cps := #[44] } : PySem.Str) by decide +kernel]; exact one_eq n 44
theorem hrun_snoc (pre : List Int) (c : Int) : hrun (pre ++ [c]) = hstep (hrun pre) c := by
  unfold hrun; rw [List.foldl_append]; rfl
theorem len_one (part : PySem.Str) (n : Nat) : (part ++ ({ cps := #[n] } : PySem.Str)).length = part.length + 1 := by
  rw [PySem.Str.length_append]; rfl
theorem snoc_ind {α : Type} {P : List α → Prop} (h0 : P []) (h1 : ∀ l a, P l → P (l ++ [a])) (l : List α) : P l := by
  have : ∀ n (l : List α), l.length = n → P l := by
    intro n
    induction n with
    | zero => intro l h; rw [List.length_eq_zero_iff.mp h]; exact h0
    | succ n ih =>
      intro l h
      have hne : l ≠ [] := by intro e; rw [e] at h; cases h
      rw [← List.dropLast_concat_getLast hne]
      exact h1 _ _ (ih _ (by rw [List.length_dropLast, h]; rfl))
  exact this _ l rfl
theorem hrun_bound (pre : List Int) : (hrun pre).part.length ≤ pre.length ∧ (hrun pre).res.length ≤ pre.length ∧ ∀ y ∈ (hrun pre).res, y.length ≤ pre.length := by
  induction pre using snoc_ind with
  | h0 => exact ⟨Nat.le_refl _, Nat.le_refl _, fun _ h => nomatch h⟩
  | h1 l a ih =>
    rw [hrun_snoc, List.length_append, List.length_singleton]
    generalize hrun l = s at ih
    obtain ⟨res, part, e, q⟩ := s
    obtain ⟨h1, h2, h3⟩ := ih
    dsimp only at h1 h2 h3
    have h3' : ∀ y ∈ res, y.length ≤ l.length + 1 := fun y hy => Nat.le_succ_of_le (h3 y hy)
    have h2' := Nat.le_succ_of_le h2
    have e1 : ∀ n : Nat, (part ++ ({ cps := #[n] } : PySem.Str)).length ≤ l.length + 1 := fun n => by rw [len_one]; omega
    unfold hstep
    dsimp only
    split
    · exact ⟨e1 _, h2', h3'⟩
    · split
      · split
        · exact ⟨Nat.le_succ_of_le h1, h2', h3'⟩
        · split
          · exact ⟨e1 _, h2', h3'⟩
          · exact ⟨e1 _, h2', h3'⟩
      · split
        · refine ⟨Nat.zero_le _, ?_, ?_⟩
          · dsimp only; rw [List.length_append, List.length_singleton]; omega
          · intro y hy
            rcases List.mem_append.mp hy with hy | hy
            · exact h3' y hy
            · rw [List.mem_singleton.mp hy]; exact Nat.le_succ_of_le h1
        · split
          · exact ⟨e1 _, h2', h3'⟩
          · exact ⟨e1 _, h2', h3'⟩
theorem HP.bound {pre : List Int} {res : List PySem.Str} {part : PySem.Str} {e q : Bool} (h : HP pre res part e q) : part.length ≤ pre.length ∧ res.length ≤ pre.length ∧ ∀ y ∈ res, y.length ≤ pre.length := by
  have := hrun_bound pre
  rw [h] at this
  exact this
section ways
variable {pre : List Int} {n : Nat} {res : List PySem.Str} {part : PySem.Str} {e q : Bool}
theorem hp_w1 (h : HP pre res part e q) (a : e = true) : HP (pre ++ [(n : Int)]) res (part ++ { cps := #[n] }) false q := by
  unfold HP at h ⊢
  rw [hrun_snoc, h]; simp [hstep, a]
theorem hp_w2 (h : HP pre res part e q) (a : e = false) (b : q = true) (c : (({ cps := #[n] } : PySem.Str) == PySem.Str.ofString "\\") = true) : HP (pre ++ [(n : Int)]) res part true q := by
  rw [b_eq] at c
  have c := of_decide_eq_true c
  unfold HP at h ⊢
  rw [hrun_snoc, h]; simp [hstep, a, b, c]
theorem hp_w3 (h : HP pre res part e q) (a : e = false) (b : q = true) (c' : (({ cps := #[n] } : PySem.Str) == PySem.Str.ofString "\\") = false) (d : (({ cps := #[n] } : PySem.Str) == PySem.Str.ofString "\"") = true) : HP (pre ++ [(n : Int)]) res (part ++ { cps := #[n] }) e false := by
  rw [q_eq] at d
  have d := of_decide_eq_true d
  unfold HP at h ⊢
  rw [hrun_snoc, h]; simp [hstep, a, b, d]
theorem hp_w4 (h : HP pre res part e q) (a : e = false) (b : q = true) (c : (({ cps := #[n] } : PySem.Str) == PySem.Str.ofString "\\") = false) (d : (({ cps := #[n] } : PySem.Str) == PySem.Str.ofString "\"") = false) : HP (pre ++ [(n : Int)]) res (part ++ { cps := #[n] }) e q := by
  rw [b_eq] at c; rw [q_eq] at d
  have c := of_decide_eq_false c
  have d := of_decide_eq_false d
  have c' : ¬ ((n : Int) = 92) := by omega
  have d' : ¬ ((n : Int) = 34) := by omega
  unfold HP at h ⊢
  rw [hrun_snoc, h]; simp [hstep, a, b, c', d']
theorem hp_w5 (h : HP pre res part e q) (a : e = false) (b : q = false) (c : (({ cps := #[n] } : PySem.Str) == PySem.Str.ofString ",") = true) : HP (pre ++ [(n : Int)]) (res ++ [part]) (PySem.Str.ofString "") e q := by
  rw [c_eq] at c
  have c := of_decide_eq_true c
  have : PySem.Str.ofString "" = PySem.Str.empty := by decide +kernel
  unfold HP at h ⊢
  rw [hrun_snoc, h]; simp [hstep, a, b, c, this]
theorem hp_w6 (h : HP pre res part e q) (a : e = false) (b : q = false) (c' : (({ cps := #[n] } : PySem.Str) == PySem.Str.ofString ",") = false) (d : (({ cps := #[n] } : PySem.Str) == PySem.Str.ofString "\"") = true) : HP (pre ++ [(n : Int)]) res (part ++ { cps := #[n] }) e true := by
  rw [q_eq] at d
  have d := of_decide_eq_true d
  unfold HP at h ⊢
  rw [hrun_snoc, h]; simp [hstep, a, b, d]
theorem hp_w7 (h : HP pre res part e q) (a : e = false) (b : q = false) (c : (({ cps := #[n] } : PySem.Str) == PySem.Str.ofString ",") = false) (d : (({ cps := #[n] } : PySem.Str) == PySem.Str.ofString "\"") = false) : HP (pre ++ [(n : Int)]) res (part ++ { cps := #[n] }) e q := by
  rw [c_eq] at c; rw [q_eq] at d
  have c := of_decide_eq_false c
  have d := of_decide_eq_false d
  have c' : ¬ ((n : Int) = 44) := by omega
  have d' : ¬ ((n : Int) = 34) := by omega
  unfold HP at h ⊢
  rw [hrun_snoc, h]; simp [hstep, a, b, c', d']
end ways
structure HSt where
  us : List Value
  res : List PySem.Str
  n : Nat
  part : PySem.Str
  t : Tok
  e : Bool
  q : Bool

abbrev HInv (l : Addr) (x : PySem.Str) (m₀ : PySem.Str → Option Value) (pre : List Int) : (PySem.Str → Option Value) → List (Addr × Obj) → Prop :=
  KstS (σ := HSt) (fun c => [(l, PySem.W.listOf c.us.toArray c.n)]) (fun c => [(PySem.Str.ofString "part", .str c.part c.t), (PySem.Str.ofString "escape", .bool c.e), (PySem.Str.ofString "quote", .bool c.q), (PySem.Str.ofString "res", .ref l)]) (fun c => StrsAre c.us c.res) x [] m₀ (fun pre c => HP pre c.res c.part c.e c.q) pre
theorem http_end {h₀ h' : Heap} {L l : Addr} {x : PySem.Str} {m' m₀ : PySem.Str → Option Value} {own : List (Addr × Obj)} {us : List Value} {res : List PySem.Str} {n₀ : Nat} {part : PySem.Str} {t : Tok} {e q : Bool} {pre : List Int} {s₁ : Shared} {tk : Nat}
    (F : Fr h₀ L h' m') (N : News h₀ L h' ((l, PySem.W.listOf us.toArray n₀) :: own)) (hS : StrsAre us res) (hP : HP pre res part e q) (h1 : m' (PySem.Str.ofString "part") = some (.str part t)) (h2 : m' (PySem.Str.ofString "escape") = some (.bool e)) (h3 : m' (PySem.Str.ofString "quote") = some (.bool q)) (h4 : m' (PySem.Str.ofString "res") = some (.ref l))
    (hr : ∀ z, z ≠ x → z ≠ PySem.Str.ofString "part" → z ≠ PySem.Str.ofString "escape" → z ≠ PySem.Str.ofString "quote" → z ≠ PySem.Str.ofString "res" → m' z = m₀ z) :
    InvEndN h₀ L (HInv l x m₀ pre) own [l] s₁ { s₁ with heap := h', toks := tk } := by
  refine InvEndN.intro (nx := [(l, PySem.W.listOf us.toArray n₀)]) F N ⟨⟨us, res, n₀, part, t, e, q⟩, rfl, hS, ?_, ?_, hP⟩ rfl ?_ ?_
  · intro p hp
    simp only [List.mem_cons, List.not_mem_nil, or_false] at hp
    rcases hp with rfl | rfl | rfl | rfl
    · exact h1
    · exact h2
    · exact h3
    · exact h4
  · intro z hz hp _
    exact hr z hz (hp _ (.head _)) (hp _ (.tail _ (.head _))) (hp _ (.tail _ (.tail _ (.head _)))) (hp _ (.tail _ (.tail _ (.tail _ (.head _)))))
  · intro p hp
    rw [List.mem_singleton.mp hp]; exact .head _
  · intro p hp; exact .tail _ hp
theorem http_loop {prog : Program} {w : World} {A : Around} {E : Value → Shared → Prop} {s : Shared} {env : Env} {h₀ : Heap} {x : PySem.Str} {body : List Stmt} {Q : Flow → Shared → Prop} {xt : PySem.Str} {tx t₀ : Tok} {m₀ : PySem.Str → Option Value} {l : Addr}
    (hh : A.handled = none) (F : Fr h₀ env.locals s.heap m₀) (N : News h₀ env.locals s.heap [(l, PySem.W.listOf #[] 0)]) (hk : ∀ p ∈ [(PySem.Str.ofString "part", Value.str (PySem.Str.ofString "") t₀), (PySem.Str.ofString "escape", .bool false), (PySem.Str.ofString "quote", .bool false), (PySem.Str.ofString "res", .ref l)], m₀ p.1 = some p.2)
    (turn : ∀ (m₀ : PySem.Str → Option Value) (us : List Value) (res : List PySem.Str) (n₀ : Nat) (part : PySem.Str) (t₁ : Tok) (e q : Bool) (pre post : List Int) (n : Nat) (t : Tok) (h : Heap) (tk : Nat) (own : List (Addr × Obj)), KStt.codes xt = pre ++ (n : Int) :: post → OwnOff own [l] → StrsAre us res → HP pre res part e q →
      Fr h₀ env.locals h (fun y => if y = x then some (.str ⟨#[n]⟩ t) else if y = PySem.Str.ofString "part" then some (.str part t₁) else if y = PySem.Str.ofString "escape" then some (.bool e) else if y = PySem.Str.ofString "quote" then some (.bool q) else if y = PySem.Str.ofString "res" then some (.ref l) else m₀ y) → News h₀ env.locals h ((l, PySem.W.listOf us.toArray n₀) :: own) →
      wpAny (model prog w) A (execs body env) (InvPostN h₀ env.locals (HInv l x m₀ (pre ++ [(n : Int)])) own [l] { s with heap := h, toks := tk } Q) E { s with heap := h, toks := tk })
    (done : ∀ (us : List Value) (res : List PySem.Str) (n₀ : Nat) (part : PySem.Str) (t₁ : Tok) (e q : Bool) (u : PySem.Str → Option Value) h tk, StrsAre us res → HP (KStt.codes xt) res part e q → Fr h₀ env.locals h (fun y => if y = x then u y else if y = PySem.Str.ofString "part" then some (.str part t₁) else if y = PySem.Str.ofString "escape" then some (.bool e) else if y = PySem.Str.ofString "quote" then some (.bool q) else if y = PySem.Str.ofString "res" then some (.ref l) else m₀ y) → News h₀ env.locals h [(l, PySem.W.listOf us.toArray n₀)] → Q .next { s with heap := h, toks := tk }) :
    wpAny (model prog w) A (pyIter (.str xt tx)) (fun it s₂ => LoopAtV prog w A h₀ env x body Q E it s₂) E s := by
  refine KStt.kst_text (σ := HSt) (fun c => [(l, PySem.W.listOf c.us.toArray c.n)]) (fun c => [(PySem.Str.ofString "part", .str c.part c.t), (PySem.Str.ofString "escape", .bool c.e), (PySem.Str.ofString "quote", .bool c.q), (PySem.Str.ofString "res", .ref l)]) (fun c => StrsAre c.us c.res) [] (fun pre c => HP pre c.res c.part c.e c.q) ⟨[], [], 0, PySem.Str.ofString "", t₀, false, false⟩ hh F N .nil hk hp_start ?_ ?_
  · intro c pre post n t u h tk own h1 h2 h3 h4 h5 h6
    exact turn m₀ c.us c.res c.n c.part c.t c.e c.q pre post n t h tk own h1 h2 h3 h4 h5 h6
  · intro c u h tk h1 h2 h3 h4
    exact done c.us c.res c.n c.part c.t c.e c.q u h tk h1 h2 h3 h4
def httpList (x : PySem.Str) : List PySem.Str :=
  (if (hrun (KStt.codes x)).part.length = 0 then (hrun (KStt.codes x)).res else (hrun (KStt.codes x)).res ++ [(hrun (KStt.codes x)).part]).map Txt.strip
theorem httpList_0 {x : PySem.Str} {res : List PySem.Str} {part : PySem.Str} {e q : Bool} (h : HP (KStt.codes x) res part e q) (h0 : part.length = 0) : httpList x = res.map Txt.strip := by
  unfold httpList; rw [show hrun (KStt.codes x) = _ from h]; simp [h0]
theorem httpList_1 {x : PySem.Str} {res : List PySem.Str} {part : PySem.Str} {e q : Bool} (h : HP (KStt.codes x) res part e q) (h0 : part.length ≠ 0) : httpList x = (res ++ [part]).map Txt.strip := by
  unfold httpList; rw [show hrun (KStt.codes x) = _ from h]; simp [h0]
local macro_rules | `(tactic| walk_at "InvEndN") => `(tactic| ((rename News _ _ _ _ => nE'); (try simp only [List.push_toArray] at nE'); (refine http_end (by assumption) nE' (by first | assumption | exact KStt.strs_snoc (by assumption)) ?_ (by rfl) (by rfl) (by rfl) (by rfl) (by intro z z0 z1 z2 z3 z4; simp only [z0, z1, z2, z3, z4, if_false])); first | exact hp_w1 (by assumption) (by assumption) | exact hp_w2 (by assumption) (by assumption) (by assumption) (by assumption) | exact hp_w3 (by assumption) (by assumption) (by assumption) (by assumption) (by assumption) | exact hp_w4 (by assumption) (by assumption) (by assumption) (by assumption) (by assumption) | exact hp_w5 (by assumption) (by assumption) (by assumption) (by assumption) | exact hp_w6 (by assumption) (by assumption) (by assumption) (by assumption) (by assumption) | exact hp_w7 (by assumption) (by assumption) (by assumption) (by assumption) (by assumption)))
theorem strip_elt {prog : Program} {w : World} {A : Around} {E : Value → Shared → Prop} {s : Shared} {env : Env} {scope : Scope} {C : Addr} {p1 p2 p3 : Pos} {y : PySem.Str} {t : Tok} {m : PySem.Str → Option Value}
    (hk : scope.kind = .function) (hl : scope.names.lookup (PySem.Str.ofString "part") = some .local) (hn : s.heap.Ns C m) (hm : m (PySem.Str.ofString "part") = some (.str y t)) (hy : y.length ≤ 100000) (hline : (p2.endLine == p3.line) = true) :
    wpAny (model prog w) A (eval (.Call (.Attribute (.Name (PySem.Str.ofString "part") p1) (PySem.Str.ofString "strip") p2) [] [] p3) (compEnv scope C env)) (fun r s₃ => (∃ t', r = .str (Txt.strip y) t') ∧ Keeps s s₃) E s := by
  refine Call_method0 rfl hline (wpAny_Name (wpAny_loadName_local hk hl hn hm ?_) (by decide +kernel))
  exact SB.strip (fun t' k => ⟨⟨t', rfl⟩, s.heap, k, rfl, fun _ _ e => e⟩) (by rw [sizeLine_eq]; omega)
local macro_rules | `(tactic| walk_at "eval ListComp") => `(tactic| (with_reducible refine Stop.mk ?_))
set_option maxHeartbeats 8000000 in
theorem http_c {w : World} {lo : List PySem.Str} {mean : ExcName → Option Value} {mg mb : PySem.Str → Option Value} {dp un : Nat} {fr : Option (List Env)} {gd : Option (List Code)} {s : Shared} {x : PySem.Str} {t : Tok} {Q E : Value → Shared → Prop}
    (X : (hd68.heap_39 w.params).In s.heap) (T : Top topProg lo mean mg mb s.heap) (hd : dp + 5 < recursionLimit) (hu : un + 40 < cLine) (hx : x.length ≤ 100000)
    (ret : ∀ a vs h' tk', Kp s.heap h' → h'.IsList a vs.toArray → StrsAre vs (httpList x) → Q (.ref a) { s with heap := h', toks := tk' }) :
    wpAny (model PySem.Challenge.rw_pe0068_01.row.prog w) (Ar dp un fr gd) (call (.ref 56) [.str x t]) Q E s := by
  revert X; k_fill; intro X
  k_with_none
  w_top off
  (k_with "pyIter str" => with_reducible refine Stop.mk ?_)
  refine' enter0 X T ?k6 ?k7 ?k8 ?k9 ?kB ?_ ?c2 ?c3 ?c4 ?c5
  (case k6 => k_is)
  (case k7 => k_is)
  (case k8 => show dp < _; omega)
  (case k9 => exact BindsTo.of_eq rfl)
  (case kB => exact locs rfl)
  (case c2 => exact rfl)
  (case c3 => exact rfl)
  (case c4 => exact rfl)
  (case c5 => decide)
  intro L' h₁ tk F' N'
  (try dsimp only); (try k_fold)
  k_steps
  unfold Stop
  rename Fr _ _ _ _ => lF'
  rename News _ _ _ _ => lN'
  (with_unfolding_all refine' http_loop (by rfl) lF' lN' ?kk ?_ ?_)
  case kk => kst_all
  · clear lF' lN' ret
    intro m₀ us res n₀ part t₁ e q pre post n t' h tk own hEq hOff hS hP F' N'
    have hlen : pre.length + 1 ≤ 100000 := by
      have h1 := congrArg List.length hEq
      rw [KStt.codes_length] at h1
      simp at h1
      omega
    have hpl : part.length ≤ 100000 := Nat.le_trans hP.bound.1 (by omega)
    have hrl : res.length ≤ 100000 := Nat.le_trans hP.bound.2.1 (by omega)
    k_steps
  · clear lF' lN'
    intro us res n₀ part t₁ e q u h tk hS hP F' N'
    have hlen : (KStt.codes x).length ≤ 100000 := by rw [KStt.codes_length]; exact hx
    have hpl : part.length ≤ 100000 := Nat.le_trans hP.bound.1 hlen
    have hrl : res.length ≤ 100000 := Nat.le_trans hP.bound.2.1 hlen
    have hul : us.length ≤ 100000 := by rw [hS.length]; exact hrl
    have hrb : ∀ y, y ∈ res ∨ y = part → y.length ≤ 100000 := by
      rintro y (hy | rfl)
      · exact Nat.le_trans (hP.bound.2.2 y hy) hlen
      · exact hpl
    (try dsimp only)
    k_steps
    all_goals (
      refine show _ from ?_
      (rename Fr _ _ _ _ => cF); (rename News _ _ _ _ => cN); (try simp only [List.push_toArray] at cN)
      unfold Stop
      refine lc_strs Txt.strip (by rfl) (by decide) (by decide) (by rfl) (by decide) (by rfl) ⟨_, (cN _ (.head _)).1, rfl, _, rfl⟩ (by first | assumption | exact KStt.strs_snoc (by assumption)) ?lc1 (fun Q' hq => ld cF rfl hq) ?lc2 ?lc3
      case lc1 => simp only [List.length_append, List.length_singleton, sizeLine_eq]; omega
      case lc2 => intro C y t s₂ m₂ E' hy hn hm hk; exact strip_elt rfl rfl hn hm (hrb _ (by first | exact Or.inl hy | exact (List.mem_append.mp hy).imp (fun h => h) (fun h => List.mem_singleton.mp h))) rfl
      case lc3 => intro D h' tk ys hD hlD hS' hk; exact ret D ys h' tk (fun b o e => hk b o (Fr.keep cF b o e)) hlD (by first | (rw [httpList_0 hP (by omega)]; exact hS') | (rw [httpList_1 hP (by omega)]; exact hS')))
end Mine
set_option maxHeartbeats 8000000
namespace Mine
open PySem.Calls PySem.Spec PyProof.V
/-- an item of a header -/
def hdr (p : PySem.Str × PySem.Str) : PySem.Str := p.1 ++ PySem.Str.ofString "=" ++ (PySem.Str.ofString "\"" ++ p.2 ++ PySem.Str.ofString "\"")
/-- the pairs of a dict of texts -/
def KV (ps : List (PySem.Str × Value)) (l : List (PySem.Str × PySem.Str)) : Prop := ps.map (·.1) = l.map (·.1) ∧ StrsAre (ps.map (·.2)) (l.map (·.2))
def KInv (prog : Program) (w : World) (D : Addr) (l : List (PySem.Str × PySem.Str)) (m : PySem.Str → Option Value) (nx : List (Addr × Obj)) : Prop :=
  ∃ o ps, nx = [(D, o)] ∧ o.IsDictOf (PySem.strKind prog w) ps ∧ KV ps l ∧ m (PySem.Str.ofString "parsed") = some (.ref D)
theorem strs_at {vs : List Value} {xs : List PySem.Str} (h : StrsAre vs xs) : ∀ {i : Nat} {v : Value}, vs[i]? = some v → ∃ x t, xs[i]? = some x ∧ v = .str x t := by
  induction h with
  | nil => intro i v e; simp at e
  | cons y t _ ih =>
    intro i v e
    cases i with
    | zero => simp at e; exact ⟨y, t, by simp, e.symm⟩
    | succ i => simp at e; obtain ⟨x, t', h1, h2⟩ := ih e; exact ⟨x, t', by simpa using h1, h2⟩
theorem frame_at {h₀ h : Heap} {L : Addr} {m : PySem.Str → Option Value} {x : PySem.Str} {v : Value} (F : Fr h₀ L h m) (hm : m x = some v) : Fr h₀ L h (fun y => if y = x then some v else m y) := by
  have e : (fun y => if y = x then some v else m y) = m := by
    funext y
    by_cases h : y = x
    · rw [if_pos h, h, hm]
    · rw [if_neg h]
  rw [e]; exact F
theorem keqv_loop {prog : Program} {w : World} {A : Around} {E : Value → Shared → Prop} {s : Shared} {env : Env} {h₀ : Heap} {body : List Stmt} {Q : Flow → Shared → Prop} {m₀ : PySem.Str → Option Value} {l D : Addr} {o₀ : Obj} {vs : List Value} {kvs : List (PySem.Str × PySem.Str)}
    (hh : A.handled = none) (hl : h₀.IsList l vs.toArray) (hS : StrsAre vs (kvs.map hdr)) (F : Fr h₀ env.locals s.heap m₀) (N : News h₀ env.locals s.heap [(D, o₀)]) (ho : o₀.IsDictOf (PySem.strKind prog w) []) (hm : m₀ (PySem.Str.ofString "parsed") = some (.ref D))
    (turn : ∀ (m₁ : PySem.Str → Option Value) (o : Obj) (ps : List (PySem.Str × Value)) (pre : List (PySem.Str × PySem.Str)) (k v : PySem.Str) (rest : List (PySem.Str × PySem.Str)) (t : Tok) (h : Heap) (tk : Nat) (own : List (Addr × Obj)), kvs = pre ++ (k, v) :: rest → OwnOff own [D] → o.IsDictOf (PySem.strKind prog w) ps → KV ps pre →
      Fr h₀ env.locals h (fun y => if y = PySem.Str.ofString "elt" then some (.str (hdr (k, v)) t) else if y = PySem.Str.ofString "parsed" then some (.ref D) else m₁ y) → News h₀ env.locals h ((D, o) :: own) →
      wpAny (model prog w) A (execs body env) (InvPostN h₀ env.locals (KInv prog w D (pre ++ [(k, v)])) own [D] { s with heap := h, toks := tk } Q) E { s with heap := h, toks := tk })
    (done : ∀ (m₁ : PySem.Str → Option Value) (o : Obj) (ps : List (PySem.Str × Value)) h tk, o.IsDictOf (PySem.strKind prog w) ps → KV ps kvs → Fr h₀ env.locals h (fun y => if y = PySem.Str.ofString "parsed" then some (.ref D) else m₁ y) → News h₀ env.locals h [(D, o)] → Q .next { s with heap := h, toks := tk }) :
    wpAny (model prog w) A (pyIter (.ref l)) (fun it s₂ => LoopAtV prog w A h₀ env (PySem.Str.ofString "elt") body Q E it s₂) E s := by
  have hls : s.heap.IsList l vs.toArray := hl.at fun o e => F.keep l o e
  obtain ⟨ol, hol, _⟩ := id hl
  have hlt : l < h₀.objs.size := Heap.lt_size hol
  have hne : l ≠ s.heap.objs.size := Nat.ne_of_lt (Nat.lt_trans (Nat.lt_of_lt_of_le hlt F.above) F.ns.lt)
  have hlen : vs.length = kvs.length := by rw [hS.length, List.length_map]
  have hD := N (D, o₀) (.head _)
  refine wpAny_pyIter_list hls ?_
  refine loop_invN (fun i m nx => KInv prog w D (kvs.take i) m nx) (Walks.list (prog := prog) (w := w) hh s.heap.objs.size l hne vs.toArray) ?_ ?_ ?_ ?_
    ⟨⟨_, Heap.get?_push_size _ rfl, rfl, rfl⟩, hls.at fun o e => Heap.get?_push_of_some _ e⟩ (F.push _) (fun p hp => ⟨Heap.get?_push_of_some _ (N p hp).1, (N p hp).2⟩) ⟨o₀, [], rfl, ho, ⟨by simp, by simpa using StrsAre.nil⟩, hm⟩ ?_ ?_
  · intro hx
    rcases List.mem_cons.mp hx with e | hx
    · exact absurd F.ns.lt (e ▸ Nat.lt_irrefl _)
    · exact absurd (Nat.lt_of_lt_of_le hlt F.above) ((List.mem_singleton.mp hx) ▸ Nat.lt_irrefl _)
  · intro b hb
    rw [List.mem_singleton.mp hb]
    exact next_is_new F
  · intro p hp hI
    exact absurd (Heap.lt_size (N p hp).1) ((List.mem_singleton.mp hI) ▸ Nat.lt_irrefl _)
  · intro p hp hI
    rw [List.mem_singleton.mp hp] at hI
    rcases List.mem_cons.mp hI with e | hI
    · exact absurd (Heap.lt_size hD.1) (e ▸ Nat.lt_irrefl _)
    · have := hD.2.2
      dsimp only at this hI
      rw [List.mem_singleton.mp hI, hol] at this
      cases this
  · rintro i v m₁ nx h tk own hi hv _ hoff ⟨o, ps, rfl, hd, hkv, hm₁⟩ F₁ N₁
    have hv' : vs[i]? = some v := by simpa using hv
    obtain ⟨x, t, hx, rfl⟩ := strs_at hS hv'
    rw [List.getElem?_map] at hx
    obtain ⟨kv, hkv', rfl⟩ := Option.map_eq_some_iff.mp hx
    have hs : kvs.take (i + 1) = kvs.take i ++ [kv] := by simp [List.take_add_one, hkv']
    have e : kvs = kvs.take i ++ (kv.1, kv.2) :: kvs.drop (i + 1) := by
      have ht := List.take_append_drop (i + 1) kvs
      rw [hs, List.append_assoc] at ht
      exact ht.symm
    rw [hs]
    refine turn m₁ o ps (kvs.take i) kv.1 kv.2 (kvs.drop (i + 1)) t h tk own e hoff hd hkv ?_ N₁
    have e2 : (fun y => if y = PySem.Str.ofString "elt" then some (Value.str (hdr (kv.1, kv.2)) t) else if y = PySem.Str.ofString "parsed" then some (Value.ref D) else m₁ y) = fun y => if y = PySem.Str.ofString "elt" then some (Value.str (hdr kv) t) else m₁ y := by
      funext y
      by_cases h1 : y = PySem.Str.ofString "elt"
      · rw [if_pos h1, if_pos h1]
      · rw [if_neg h1, if_neg h1]
        by_cases h2 : y = PySem.Str.ofString "parsed"
        · rw [if_pos h2, h2, hm₁]
        · rw [if_neg h2]
    rw [e2]; exact F₁
  · rintro m₁ nx h tk ⟨o, ps, rfl, hd, hkv, hm₁⟩ F₁ N₁
    have : vs.toArray.size = kvs.length := by simpa using hlen
    rw [this, List.take_length] at hkv
    exact done m₁ o ps h tk hd hkv (frame_at F₁ hm₁) N₁
theorem keqv_end {prog : Program} {w : World} {h₀ h' : Heap} {L D : Addr} {m' : PySem.Str → Option Value} {own news : List (Addr × Obj)} {o : Obj} {ps : List (PySem.Str × Value)} {l : List (PySem.Str × PySem.Str)} {s₁ : Shared} {tk : Nat}
    (F : Fr h₀ L h' m') (N : News h₀ L h' news) (hd : o.IsDictOf (PySem.strKind prog w) ps) (hkv : KV ps l) (hm : m' (PySem.Str.ofString "parsed") = some (.ref D)) (h1 : (D, o) ∈ news) (h2 : ∀ p ∈ own, p ∈ news) :
    InvEndN h₀ L (KInv prog w D l) own [D] s₁ { s₁ with heap := h', toks := tk } :=
  InvEndN.intro (nx := [(D, o)]) F N ⟨o, ps, rfl, hd, hkv, hm⟩ rfl (fun p hp => by rw [List.mem_singleton.mp hp]; exact h1) h2
end Mine
set_option maxHeartbeats 8000000
namespace Mine
open PySem.Calls PySem.Spec PyProof.V
theorem str_eq {x y : PySem.Str} (h : x.cps.toList = y.cps.toList) : x = y := PySem.Str.ext' (Array.toList_inj.mp h)
theorem toL_app (x y : PySem.Str) : (x ++ y).cps.toList = x.cps.toList ++ y.cps.toList := by rw [PySem.Str.cps_append, Array.toList_append]
def quo (v : PySem.Str) : PySem.Str := PySem.Str.ofString "\"" ++ v ++ PySem.Str.ofString "\""
theorem q_toL : (PySem.Str.ofString "\"").cps.toList = [34] := by decide +kernel
theorem quo_toL (v : PySem.Str) : (quo v).cps.toList = 34 :: (v.cps.toList ++ [34]) := by
  unfold quo; rw [toL_app, toL_app, q_toL]; rfl
theorem quo_len (v : PySem.Str) : (quo v).length = v.length + 2 := by
  have : (quo v).cps.toList.length = v.cps.toList.length + 2 := by rw [quo_toL]; simp
  simpa [PySem.Str.length] using this
theorem hdr_eq (k v : PySem.Str) : hdr (k, v) = k ++ PySem.Str.ofString "=" ++ quo v := rfl
theorem hdr_toL (k v : PySem.Str) : (hdr (k, v)).cps.toList = k.cps.toList ++ 61 :: (quo v).cps.toList := by
  rw [hdr_eq, toL_app, toL_app, show (PySem.Str.ofString "=").cps.toList = [61] by decide +kernel]; simp
theorem hdr_len (k v : PySem.Str) : (hdr (k, v)).length = k.length + v.length + 3 := by
  have : (hdr (k, v)).cps.toList.length = k.cps.toList.length + v.cps.toList.length + 3 := by rw [hdr_toL, quo_toL]; simp; omega
  simpa [PySem.Str.length] using this
theorem get_toL (x : PySem.Str) (i : Nat) : x.cps[i]? = x.cps.toList[i]? := by simp
theorem seq_0 (n : Nat) : seqIndex? 0 (n + 1) = some 0 := by
  unfold seqIndex?
  have h1 : ¬ ((0 : Int) < 0) := by decide
  simp only [h1, if_false]
  rw [if_pos]
  · rfl
  · simp
theorem seq_m1 (n : Nat) : seqIndex? (-1) (n + 1) = some n := by
  unfold seqIndex?
  have h1 : ((-1 : Int) < 0) := by decide
  simp only [h1, if_true]
  rw [if_pos]
  · congr 1; omega
  · simp only [Bool.and_eq_true, decide_eq_true_eq]; omega
theorem quo_0 (v : PySem.Str) : Txt.item (quo v) 0 = PySem.Str.ofString "\"" := by
  have h : Txt.charAt (quo v) 0 = some 34 := by
    unfold Txt.charAt
    rw [quo_len, seq_0 (v.length + 1)]
    show (quo v).cps[0]? = _
    rw [get_toL, quo_toL]; rfl
  unfold Txt.item
  rw [h]
  decide +kernel
theorem quo_1 (v : PySem.Str) : Txt.item (quo v) (-1) = PySem.Str.ofString "\"" := by
  have h : Txt.charAt (quo v) (-1) = some 34 := by
    unfold Txt.charAt
    rw [quo_len, seq_m1 (v.length + 1)]
    show (quo v).cps[v.length + 1]? = _
    rw [get_toL, quo_toL]
    have : v.length = v.cps.toList.length := by simp [PySem.Str.length]
    rw [this]
    simp
  unfold Txt.item
  rw [h]
  decide +kernel
theorem range_get {α : Type} (m : List α) : ∀ (l : List α), (List.range l.length).filterMap (fun k => (l ++ m)[k]?) = l
  | [] => rfl
  | a :: l => by
    rw [List.length_cons, List.range_succ_eq_map, List.filterMap_cons, List.filterMap_map]
    have e : ((fun k => (a :: l ++ m)[k]?) ∘ Nat.succ) = fun k => (l ++ m)[k]? := by
      funext k
      show (a :: (l ++ m))[k + 1]? = _
      simp
    rw [e, range_get m l]
    rfl
theorem quo_cut (v : PySem.Str) : Txt.slice (quo v) (some 1) (some (-1)) = v := by
  have hl : v.length = v.cps.toList.length := by simp [PySem.Str.length]
  have hi : Builtin.Str.strSliceIndices (some 1) (some (-1)) 1 (quo v).length = (List.range v.length).map fun k => 1 + k := by
    unfold Builtin.Str.strSliceIndices sliceRange
    rw [quo_len]
    have h1 : ¬ ((1 : Int) < 0) := by decide
    have h2 : ((-1 : Int) < 0) := by decide
    have h3 : ((1 : Int) > 0) := by decide
    simp only [h1, h2, h3, if_true, if_false]
    have e1 : max 0 (min 1 ((v.length + 2 : Nat) : Int)) = 1 := by omega
    have e2 : max 0 (min (-1 + ((v.length + 2 : Nat) : Int)) ((v.length + 2 : Nat) : Int)) = (v.length : Int) + 1 := by omega
    rw [e1, e2]
    have e3 : (if (1 : Int) < (v.length : Int) + 1 then ((v.length : Int) + 1 - 1 + 1 - 1) / 1 else 0).toNat = v.length := by
      split <;> omega
    rw [e3]
    apply List.map_congr_left
    intro k _
    omega
  unfold Txt.slice
  rw [hi, if_neg]
  · apply str_eq
    show (((List.range v.length).map fun k => 1 + k).filterMap fun i => (quo v).cps[i]?) = _
    rw [List.filterMap_map]
    have hf : ((fun i => (quo v).cps[i]?) ∘ fun k => 1 + k) = fun k => (v.cps.toList ++ [34])[k]? := by
      funext k
      show (quo v).cps[1 + k]? = _
      rw [get_toL, quo_toL, Nat.add_comm]; rfl
    rw [hf, hl]
    exact range_get [34] _
  · simp [quo_len]
theorem hdr_split {k v : PySem.Str} (hk : ∀ c ∈ k.cps.toList, c ≠ 61) : Txt.splitMax (hdr (k, v)) (PySem.Str.ofString "=") 1 = [k, quo v] := by
  have he : PySem.Str.ofString "=" = ⟨#[61]⟩ := by decide +kernel
  have hat : ∀ i, StrLaws.At (hdr (k, v)) ⟨#[61]⟩ (hdr (k, v)).length i ↔ (hdr (k, v)).cps.toList[i]? = some 61 := fun i => StrLaws.subAt_one _ 61 i
  have hkl : k.length = k.cps.toList.length := by simp [PySem.Str.length]
  have hocc : Builtin.Str.occurrences (hdr (k, v)) ⟨#[61]⟩ 0 (hdr (k, v)).length 1 = [k.length] := by
    have hlen := StrLaws.occ_length_le (hdr (k, v)) ⟨#[61]⟩ 0 (hdr (k, v)).length 1
    rcases StrLaws.occ_head (hdr (k, v)) ⟨#[61]⟩ 1 (Nat.le_refl _) with ⟨_, hn⟩ | ⟨i, r, e, hi, hn⟩
    · exfalso
      refine hn k.length ((hat _).mpr ?_)
      rw [hdr_toL, hkl]; simp
    · rw [e] at hlen ⊢
      have hr : r = [] := by
        cases r with
        | nil => rfl
        | cons _ _ => simp at hlen
      rw [hr]
      have h1 : ¬ k.length < i := fun h => hn _ h ((hat _).mpr (by rw [hdr_toL, hkl]; simp))
      have h2 : ¬ i < k.length := fun h => by
        have := (hat i).mp hi
        rw [hdr_toL, List.getElem?_append_left (by omega)] at this
        exact hk 61 (List.mem_of_getElem? this) rfl
      have : i = k.length := by omega
      rw [this]
  rw [he]
  unfold Txt.splitMax
  have hlim : limitOf (hdr (k, v)) 1 = 1 := rfl
  rw [hlim, hocc]
  rw [if_neg, if_neg]
  · unfold Builtin.Str.partsBetween
    simp only [List.map_cons, List.map_nil, List.cons_append, List.nil_append, List.zip_cons_cons, List.zip_nil_right]
    congr 1
    · apply str_eq
      rw [StrLaws.strSub_toList, hdr_toL, hkl]
      simp
    · congr 1
      apply str_eq
      rw [StrLaws.strSub_toList, hdr_len, hdr_toL]
      show ((k.cps.toList ++ 61 :: (quo v).cps.toList).drop (k.length + 1)).take _ = _
      have : k.length + 1 = (k.cps.toList ++ [61]).length := by simp [PySem.Str.length]
      have e2 : k.cps.toList ++ 61 :: (quo v).cps.toList = (k.cps.toList ++ [61]) ++ (quo v).cps.toList := by simp
      rw [e2, this, List.drop_left]
      apply List.take_of_length_le
      have := quo_len v
      simp only [PySem.Str.length] at this ⊢
      simp
      omega
  · simp
  · simp only [Bool.or_eq_true, decide_eq_true_eq, not_or]
    refine ⟨by rw [hdr_len]; show ¬ _ < 1; omega, ?_⟩
    exact fun h => StrLaws.kind_free _ 61 h (by rw [hdr_toL]; simp)
end Mine
set_option maxHeartbeats 8000000
namespace Mine
open PySem.Calls PySem.Spec PyProof.V
theorem two_of {l : List (PySem.Str × Tok)} {a b : PySem.Str} (h : l.map (·.1) = [a, b]) : ∃ t u, l = [(a, t), (b, u)] := by
  match l, h with
  | [(x, t), (y, u)], h =>
    simp only [List.map_cons, List.map_nil, List.cons.injEq, and_true] at h
    obtain ⟨rfl, rfl⟩ := h
    exact ⟨t, u, rfl⟩
theorem kv_snoc {ps : List (PySem.Str × Value)} {l : List (PySem.Str × PySem.Str)} {k v : PySem.Str} {t : Tok} (h : KV ps l) (hn : k ∉ l.map (·.1)) : KV (stored ps k (.str v t)) (l ++ [(k, v)]) := by
  have e : stored ps k (.str v t) = ps ++ [(k, .str v t)] := by
    unfold stored
    rw [if_neg]
    intro ha
    obtain ⟨p, hp, hpk⟩ := List.any_eq_true.mp ha
    apply hn
    rw [← h.1, ← of_decide_eq_true hpk]
    exact List.mem_map_of_mem hp
  rw [e]
  refine ⟨by simp [h.1], ?_⟩
  rw [List.map_append, List.map_append]
  exact h.2.append' (.cons _ _ .nil)
theorem kv_length {ps : List (PySem.Str × Value)} {l : List (PySem.Str × PySem.Str)} (h : KV ps l) : ps.length = l.length := by
  have := congrArg List.length h.1
  simpa using this
theorem quo_no0 {v : PySem.Str} (h : (Txt.item (quo v) 0 == PySem.Str.ofString "\"") = false) : False := by rw [quo_0] at h; simp at h
theorem quo_no1 {v : PySem.Str} (h : (Txt.item (quo v) (-1) == PySem.Str.ofString "\"") = false) : False := by rw [quo_1] at h; simp at h
local macro_rules | `(tactic| walk_at "no such key 0") => `(tactic| skip)
local macro_rules | `(tactic| walk_at "InvEndN") => `(tactic| with_reducible refine Stop.mk ?_)
local macro_rules | `(tactic| walk_at "setItem ref str") => `(tactic| with_reducible refine Stop.mk ?_)
theorem keqv_c {w : World} {lo : List PySem.Str} {mean : ExcName → Option Value} {mg mb : PySem.Str → Option Value} {dp un : Nat} {fr : Option (List Env)} {gd : Option (List Code)} {s : Shared} {a : Addr} {vs : List Value} {kvs : List (PySem.Str × PySem.Str)} {Q E : Value → Shared → Prop}
    (X : (hd68.heap_39 w.params).In s.heap) (T : Top topProg lo mean mg mb s.heap) (hd : dp + 5 < recursionLimit) (hu : un + 40 < cLine) (hl : s.heap.IsList a vs.toArray) (hS : StrsAre vs (kvs.map hdr)) (hn : vs.length ≤ 100000) (hb : ∀ p ∈ kvs, (hdr p).length ≤ 100000)
    (hk : ∀ p ∈ kvs, ∀ c ∈ p.1.cps.toList, c ≠ 61)
    (hnk : (kvs.map (·.1)).Nodup)
    (ret : ∀ d o ps h' tk', Kp s.heap h' → h'.get? d = some o → o.IsDictOf (PySem.strKind PySem.Challenge.rw_pe0068_01.row.prog w) ps → KV ps kvs → (d == sysModules) = false → Q (.ref d) { s with heap := h', toks := tk' }) :
    wpAny (model PySem.Challenge.rw_pe0068_01.row.prog w) (Ar dp un fr gd) (call (.ref 51) [.ref a]) Q E s := by
  revert X; k_fill; intro X
  k_with_none
  w_top off
  (k_with "pyIter ref" => with_reducible refine Stop.mk ?_)
  refine' enter0 X T ?k6 ?k7 ?k8 ?k9 ?kB ?_ ?c2 ?c3 ?c4 ?c5
  (case k6 => k_is)
  (case k7 => k_is)
  (case k8 => show dp < _; omega)
  (case k9 => exact BindsTo.of_eq rfl)
  (case kB => exact locs rfl)
  (case c2 => exact rfl)
  (case c3 => exact rfl)
  (case c4 => exact rfl)
  (case c5 => decide)
  intro L' h₁ tk F' N'
  (try dsimp only); (try k_fold)
  k_steps
  unfold Stop
  rename Fr _ _ _ _ => lF'
  rename News _ _ _ _ => lN'
  (with_unfolding_all refine' keqv_loop (by rfl) hl hS lF' lN' (by assumption) (by rfl) ?_ ?_)
  · clear lF' lN' ret
    intro m₁ o ps pre k v rest t h tk own hE hOff ho hkv F' N'
    have hxl : (hdr (k, v)).length ≤ 100000 := hb _ (by rw [hE]; exact List.mem_append.mpr (.inr (.head _)))
    have hDlt := Heap.lt_size (N' _ (.head _)).1
    have hnd : k ∉ pre.map (·.1) := by
      intro hm
      rw [hE, List.map_append, List.map_cons] at hnk
      have := (List.nodup_append.mp hnk).2.2
      exact this k hm k (.head _) rfl
    have hpre : pre.length ≤ 100000 := by
      have h1 := congrArg List.length hE
      rw [List.length_append] at h1
      have h2 : vs.length = kvs.length := by rw [hS.length, List.length_map]
      omega
    have hsp : Txt.splitMax (hdr (k, v)) (PySem.Str.ofString "=") 1 = [k, quo v] := hdr_split (hk _ (by rw [hE]; exact List.mem_append.mpr (.inr (.head _))))
    have hql : (quo v).length ≤ 100000 := by rw [quo_len]; rw [hdr_len] at hxl; omega
    have hqp : 2 ≤ (quo v).length := by rw [quo_len]; omega
    k_steps
    rename (List.map _ _ = Txt.splitMax _ _ _) => hl2
    rw [hsp] at hl2
    obtain ⟨t1, t2, rfl⟩ := two_of hl2
    simp only [strValues, List.map_cons, List.map_nil] at *
    k_steps
    any_goals (exact (quo_no0 (by assumption)).elim)
    any_goals (exact (quo_no1 (by assumption)).elim)
    · rw [quo_cut]
      unfold Stop
      rename Fr _ _ _ _ => cF
      rename News _ _ _ _ => cN
      refine kda_set cF cN (UpdF.tail (Nat.ne_of_gt (hDlt)) (UpdF.head (fun p hp => hOff p hp _ (.head _)))) ho (strKind_is _ _ _ _) (by rw [kv_length hkv]; simp only [sizeLine_eq]; omega) ?_
      clear cF cN
      intro h' o' F' N' hd'
      dsimp only
      k_steps
      unfold Stop
      refine keqv_end (by assumption) N' hd' (kv_snoc hkv hnd) rfl (.tail _ (.head _)) (fun p hp => .tail _ (.tail _ hp))
  · clear lF' lN'
    intro m₁ o ps h tk ho hkv F' N'
    dsimp only
    k_steps
    exact ret _ o ps _ _ F'.keep (N' _ (.head _)).1 ho hkv (by assumption)
end Mine
set_option maxHeartbeats 8000000
namespace Mine
open PySem.Calls PySem.Spec PyProof.V
theorem strs_of_pairs {α : Type} {V : α → Value → Prop} (f : α → PySem.Str) : ∀ {vs ys : List Value} {as : List α}, vs.length = as.length → (∀ (j : Nat) v, vs[j]? = some v → ∃ a, as[j]? = some a ∧ V a v) → (∀ a b v, V a v → V b v → f a = f b) →
    Paired (fun v r => ∃ a t', V a v ∧ r = Value.str (f a) t') vs ys → StrsAre ys (as.map f)
  | [], ys, as, hl, _, _, hp => by
    cases hp
    rw [List.length_eq_zero_iff.mp hl.symm]
    exact .nil
  | v :: vs, ys, [], hl, _, _, _ => nomatch hl
  | v :: vs, ys, a :: as, hl, hv, hi, hp => by
    cases hp with
    | cons h3 h4 =>
      obtain ⟨a', t', h5, rfl⟩ := h3
      obtain ⟨b, hb, hb'⟩ := hv 0 v rfl
      cases hb
      rw [List.map_cons, hi _ _ _ h5 hb']
      exact .cons _ _ (strs_of_pairs f (by simpa using hl) (fun j u hu => by simpa using hv (j + 1) u (by simpa using hu)) hi h4)
theorem isKeyStr {prog : Program} {w : World} {k : PySem.Str} {v : Value} (h : (PySem.strKind prog w).is k v = true) : ∃ t, v = .str k t := Value.isStrOf_shape h

/-- a comprehension over a text's signs whose element makes a text of each -/
theorem lc_signs {prog : Program} {w : World} {A : Around} {E : Value → Shared → Prop} {s : Shared} {env : Env} {elt iter : PySem.Expr} {x : PySem.Str} {px : Pos} {scope : Scope} {pos : Pos} {Q : Value → Shared → Prop} (f : Nat → PySem.Str)
    (hh : A.handled = none) (hfree : ∀ y ∈ scope.names, y.2 ≠ .free) (hcell : ∀ y ∈ scope.names, y.2 ≠ .cell) (hkind : scope.kind = .function)
    (hnames : ∀ y ∈ scope.names, y.2 = .local → scope.names.lookup y.1 = some .local) (hx : scope.names.lookup x = some .local)
    (h : wpAny (model prog w) A (eval iter env) (fun v s₁ => ∃ y t, v = .str y t ∧ y.length ≤ sizeLine ∧
      (∀ C n t s₃ m₃ E', s₁.heap.objs.size ≤ C → n ∈ y.cps.toList → s₃.heap.Ns C m₃ → m₃ x = some (.str ⟨#[n]⟩ t) → Kp s₁.heap s₃.heap → wpAny (model prog w) A (eval elt (compEnvC scope [] C env)) (fun r s₄ => (∃ t', r = .str (f n) t') ∧ Keeps s₃ s₄) E' s₃) ∧
      (∀ D h' tk ys, s₁.heap.get? D = none → h'.IsList D ys.toArray → StrsAre ys (y.cps.toList.map f) → Kp s₁.heap h' → Q (.ref D) { s₁ with heap := h', toks := tk })) E s)
    (hs : ∀ x, foldedSetIterable iter env x = pure x := by intro _; rfl) :
    wpAny (model prog w) A (eval (.ListComp elt [⟨.Name x px, iter, [], 0⟩] scope pos) env) Q E s := by
  refine wpAny_ListComp_free (fun _ => true) (fun v r => ∃ n t', (∃ t, v = .str ⟨#[n]⟩ t) ∧ r = .str (f n) t') (closureFor_none hfree) hcell hkind hnames hx (wpAny_mono h (fun v s₁ h₁ => ?_) fun _ _ e => e) hs
  obtain ⟨y, t, rfl, hy, he, hQ⟩ := h₁
  refine wpAny_pyIter_str fun o St hW hst => ?_
  have hnew : ∀ b o', s₁.heap.get? b = some o' → b ∉ [s₁.heap.objs.size] := fun b o' e hm => by
    have := Heap.lt_size e
    rw [List.mem_singleton.mp hm] at this
    exact Nat.lt_irrefl _ this
  have up : ∀ b o', s₁.heap.get? b = some o' → (s₁.heap.push o).get? b = some o' := fun b o' e => Heap.get?_push_of_some _ e
  refine ⟨s₁.heap.objs.size, [s₁.heap.objs.size], [s₁.heap.objs.size], y.cps.size, SignAt y, St, rfl, hW A hh, hy, hst, ?_, ⟨?_, ?_⟩, ?_⟩
  · intro b hb
    rw [List.mem_singleton.mp hb, Heap.size_push]
    exact Nat.lt_succ_self _
  · intro C i v s₃ m₃ E' _ _ _ _ _ _
    exact wpAny_tests_nil ⟨rfl, s₃.heap, s₃.toks, rfl, fun _ _ e => e⟩
  · rintro C i v s₃ m₃ E' hC ⟨n, u, hn, rfl⟩ _ hns hm hk _
    refine wpAny_mono (he C n u s₃ m₃ E' (Nat.le_trans (by rw [Heap.size_push]; exact Nat.le_succ _) hC) ?_ hns hm (fun b o' e => hk b o' (hnew b o' e) (up b o' e))) (fun r s₄ hr => ?_) fun _ _ e => e
    · have : y.cps.toList[i]? = some n := by simpa using hn
      exact List.mem_of_getElem? this
    · obtain ⟨⟨t', rfl⟩, hk'⟩ := hr
      exact ⟨⟨n, t', ⟨u, rfl⟩, rfl⟩, hk'⟩
  · intro D h' tk ys vs hD hl _ hlen hP hp hk
    have hfl : (vs.filter fun _ => true) = vs := by simp
    rw [hfl] at hp
    refine hQ D h' tk ys.toList ?_ (by simpa using hl) ?_ (fun b o' e => hk b o' (hnew b o' e) (up b o' e))
    · cases e : s₁.heap.get? D with
      | none => rfl
      | some o' => have hD' : (s₁.heap.push o).get? D = none := hD
                   rw [up D o' e] at hD'; cases hD'
    · refine strs_of_pairs (V := fun n v => ∃ t, v = Value.str ⟨#[n]⟩ t) f (by simpa using hlen) (fun j v hv => ?_) ?_ hp
      · obtain ⟨c, u, hc, rfl⟩ := hP j v hv
        exact ⟨c, by simpa using hc, u, rfl⟩
      · rintro a b v ⟨t1, rfl⟩ ⟨t2, e⟩
        injection e with e1 _
        injection e1 with e1
        have : a = b := by simpa using e1
        rw [this]

/-- a comprehension over a dict's keys, texts, whose element makes a text of each -/
theorem lc_keys {prog : Program} {w : World} {A : Around} {E : Value → Shared → Prop} {s : Shared} {env : Env} {elt iter : PySem.Expr} {x : PySem.Str} {px : Pos} {scope : Scope} {cl : List (PySem.Str × Addr)} {pos : Pos} {Q : Value → Shared → Prop} {d : Addr} {kvs : List (PySem.Str × Value)} (f : PySem.Str → PySem.Str)
    (hh : A.handled = none) (hclos : closureFor scope env = pure cl) (hcell : ∀ y ∈ scope.names, y.2 ≠ .cell) (hkind : scope.kind = .function)
    (hnames : ∀ y ∈ scope.names, y.2 = .local → scope.names.lookup y.1 = some .local) (hx : scope.names.lookup x = some .local)
    (hd : s.heap.DictOf (PySem.strKind prog w) d kvs) (lo : (d == sysModules) = false) (hsz : kvs.length ≤ sizeLine)
    (hiter : ∀ Q' : Value → Shared → Prop, Q' (.ref d) s → wpAny (model prog w) A (eval iter env) Q' E s)
    (helt : ∀ C k u t s₃ m₃ E', s.heap.objs.size ≤ C → (k, u) ∈ kvs → s₃.heap.Ns C m₃ → m₃ x = some (.str k t) → Kp s.heap s₃.heap → wpAny (model prog w) A (eval elt (compEnvC scope cl C env)) (fun r s₄ => (∃ t', r = .str (f k) t') ∧ Keeps s₃ s₄) E' s₃)
    (hQ : ∀ D h' tk ys, s.heap.get? D = none → h'.IsList D ys.toArray → StrsAre ys (kvs.map fun p => f p.1) → Kp s.heap h' → Q (.ref D) { s with heap := h', toks := tk })
    (hs : ∀ x, foldedSetIterable iter env x = pure x := by intro _; rfl) :
    wpAny (model prog w) A (eval (.ListComp elt [⟨.Name x px, iter, [], 0⟩] scope pos) env) Q E s := by
  refine wpAny_ListComp_free (fun _ => true) (fun v r => ∃ p : PySem.Str × Value, ∃ t', (∃ t, v = .str p.1 t) ∧ r = .str (f p.1) t') hclos hcell hkind hnames hx (hiter _ ?_) hs
  obtain ⟨od, es, ep, hod, hrest⟩ := id hd
  have hat : s.heap.DictAt (PySem.strKind prog w) d kvs ep := ⟨od, es, hod, hrest⟩
  refine wpAny_pyIter_dict lo hat ?_
  have hne : d ≠ s.heap.objs.size := Nat.ne_of_lt (Heap.lt_size hod)
  have hnew : ∀ b o', s.heap.get? b = some o' → b ∉ [s.heap.objs.size] := fun b o' e hm => by
    have := Heap.lt_size e
    rw [List.mem_singleton.mp hm] at this
    exact Nat.lt_irrefl _ this
  have up : ∀ b o', s.heap.get? b = some o' → (s.heap.push { cls := .type "dict_keyiterator", data := .fields #[.ref d, .int 0 0, .int kvs.length 0, .int ep 0] }).get? b = some o' := fun b o' e => Heap.get?_push_of_some _ e
  refine ⟨s.heap.objs.size, [s.heap.objs.size, d], [s.heap.objs.size], kvs.length, _, _, rfl, Walks.dictKeys (knd := PySem.strKind prog w) hh s.heap.objs.size d hne kvs ep, hsz, ⟨⟨_, Heap.get?_push_size _ rfl, rfl, rfl⟩, hat.at' fun o e => up d o e⟩, ?_, ⟨?_, ?_⟩, ?_⟩
  · intro b hb
    dsimp only
    rw [Heap.size_push]
    rcases List.mem_cons.mp hb with rfl | hb
    · exact Nat.lt_succ_self _
    · rw [List.mem_singleton.mp hb]; exact Nat.lt_succ_of_lt (Heap.lt_size hod)
  · intro C i v s₃ m₃ E' _ _ _ _ _ _
    exact wpAny_tests_nil ⟨rfl, s₃.heap, s₃.toks, rfl, fun _ _ e => e⟩
  · rintro C i v s₃ m₃ E' hC ⟨k, u, hku, hkey⟩ _ hns hm hk _
    obtain ⟨t, rfl⟩ := isKeyStr hkey
    refine wpAny_mono (helt C k u t s₃ m₃ E' (Nat.le_trans (by dsimp only; rw [Heap.size_push]; exact Nat.le_succ _) hC) (List.mem_of_getElem? hku) hns hm (fun b o' e => hk b o' (hnew b o' e) (up b o' e))) (fun r s₄ hr => ?_) fun _ _ e => e
    obtain ⟨⟨t', rfl⟩, hk'⟩ := hr
    exact ⟨⟨(k, u), t', ⟨t, rfl⟩, rfl⟩, hk'⟩
  · intro D h' tk ys vs hD hl _ hlen hP hp hk
    have hfl : (vs.filter fun _ => true) = vs := by simp
    rw [hfl] at hp
    refine hQ D h' tk ys.toList ?_ (by simpa using hl) ?_ (fun b o' e => hk b o' (hnew b o' e) (up b o' e))
    · cases e : s.heap.get? D with
      | none => rfl
      | some o' => dsimp only at hD; rw [up D o' e] at hD; cases hD
    · refine strs_of_pairs (V := fun (p : PySem.Str × Value) v => ∃ t, v = Value.str p.1 t) (fun p => f p.1) hlen (fun j v hv => ?_) ?_ hp
      · obtain ⟨k, u, hku, hkey⟩ := hP j v hv
        obtain ⟨t, rfl⟩ := isKeyStr hkey
        exact ⟨(k, u), hku, t, rfl⟩
      · rintro a b v ⟨t1, rfl⟩ ⟨t2, e⟩
        injection e with e1 _
        rw [e1]
theorem strs_values {ys : List Value} {xs : List PySem.Str} (h : StrsAre ys xs) : ∃ l, ys = strValues l ∧ l.map (·.1) = xs := by
  induction h with
  | nil => exact ⟨[], rfl, rfl⟩
  | cons y t _ ih =>
    obtain ⟨l, h1, h2⟩ := ih
    exact ⟨(y, t) :: l, by rw [h1]; rfl, by rw [← h2]; rfl⟩
theorem joinOk_of {sep : PySem.Str} {texts : List PySem.Str} (h : (texts.map (·.length)).sum + texts.length * sep.length ≤ 16777216) : JoinOk sep texts = true := by
  unfold JoinOk
  rw [StrLaws.joinTotal]
  unfold Builtin.Str.tooLong
  simp only [Bool.not_eq_true', decide_eq_false_iff_not, sizeLine_eq]
  omega
end Mine
set_option maxHeartbeats 8000000
namespace Mine
open PySem.Calls PySem.Spec PyProof.V
def escOne (n : Nat) : PySem.Str := if n = 34 ∨ n = 92 then ⟨#[92, n]⟩ else ⟨#[n]⟩
theorem in_menu (n : Nat) : (!(Builtin.Str.occurrences (PySem.Str.ofString "\"\\") ⟨#[n]⟩ 0 (PySem.Str.ofString "\"\\").length 1).isEmpty) = decide (n = 34 ∨ n = 92) := by
  rw [StrLaws.found_one, show (PySem.Str.ofString "\"\\").cps.toList = [34, 92] by decide +kernel]
  simp
theorem sign_elt {prog : Program} {w : World} {A : Around} {E : Value → Shared → Prop} {s : Shared} {env : Env} {scope : Scope} {C : Addr} {n : Nat} {t : Tok} {m : PySem.Str → Option Value} {p1 p2 p3 p4 p5 p6 p7 p8 : Pos} {i1 i2 : Nat}
    (hk : scope.kind = .function) (hl : (relabel scope env).names.lookup (PySem.Str.ofString "sign") = some .local) (hn : s.heap.Ns C m) (hm : m (PySem.Str.ofString "sign") = some (.str ⟨#[n]⟩ t)) :
    wpAny (model prog w) A (eval (.IfExp (.Compare (.Name (PySem.Str.ofString "sign") p1) [.In] [.Constant (.str (PySem.Str.ofString "\"\\")) i1 p2] p3) (.BinOp (.Constant (.str (PySem.Str.ofString "\\")) i2 p4) .Add (.Name (PySem.Str.ofString "sign") p5) p6) (.Name (PySem.Str.ofString "sign") p7) p8) (compEnvC scope [] C env)) (fun r s₃ => (∃ t', r = .str (escOne n) t') ∧ Keeps s s₃) E s := by
  have kp : ∀ tk, Keeps s { s with toks := tk } := fun tk => ⟨s.heap, tk, rfl, fun _ _ e => e⟩
  refine wpAny_IfExp (wpAny_isTrue_Compare1 (wpAny_Name (wpAny_loadName_local hk hl hn hm ?_) (by decide +kernel)))
  refine wpAny_Constant_str ?_
  refine PyProof.Rows.in_str ?_
  rw [in_menu]
  refine wpAny_truthy_bool ?_
  by_cases h : n = 34 ∨ n = 92
  · rw [decide_eq_true h]
    simp only [if_true]
    refine wpAny_BinOp (wpAny_Constant_str (wpAny_Name (wpAny_loadName_local hk hl hn hm ?_) (by decide +kernel)))
    refine PyProof.Rows.add_str (fun t' tk => ⟨⟨t', ?_⟩, kp _⟩) ?_
    · rw [escOne, if_pos h]; rfl
    · rw [show (PySem.Str.ofString "\\").length = 1 by decide +kernel]; show 1 + 1 ≤ sizeLine; rw [sizeLine_eq]; omega
  · rw [decide_eq_false h]
    simp only [Bool.false_eq_true, if_false]
    refine wpAny_Name (wpAny_loadName_local hk hl hn hm ⟨⟨t, ?_⟩, kp _⟩) (by decide +kernel)
    rw [escOne, if_neg h]
/-- a text with a backslash ahead of each mark and backslash -/
def esc (x : PySem.Str) : PySem.Str := Txt.join (PySem.Str.ofString "") (x.cps.toList.map escOne)
def wItem (k y : PySem.Str) : PySem.Str := k ++ PySem.Str.ofString "=\"" ++ esc y ++ PySem.Str.ofString "\""
theorem escOne_len (n : Nat) : (escOne n).length ≤ 2 := by
  unfold escOne; split
  · exact Nat.le_refl 2
  · exact Nat.le_succ 1
theorem esc_sum : ∀ l : List Nat, ((l.map escOne).map (·.length)).sum ≤ 2 * l.length
  | [] => Nat.le_refl _
  | n :: l => by
    have := esc_sum l
    have h2 := escOne_len n
    simp only [List.map_cons, List.sum_cons, List.length_cons]
    omega
theorem esc_ok {x : PySem.Str} (h : x.length ≤ 100000) : JoinOk (PySem.Str.ofString "") (x.cps.toList.map escOne) = true := by
  refine joinOk_of ?_
  have h1 := esc_sum x.cps.toList
  have h2 : x.cps.toList.length = x.length := by simp [PySem.Str.length]
  rw [show (PySem.Str.ofString "").length = 0 by decide +kernel]
  omega
theorem esc_len {x : PySem.Str} (h : x.length ≤ 100000) : (esc x).length ≤ 200000 := by
  have h1 := esc_sum x.cps.toList
  have h2 : x.cps.toList.length = x.length := by simp [PySem.Str.length]
  have h3 := StrLaws.join_length_le (PySem.Str.ofString "") (x.cps.toList.map escOne)
  unfold esc Txt.join
  rw [StrLaws.glued_eq_join]
  rw [show (PySem.Str.ofString "").length = 0 by decide +kernel] at h3
  omega
theorem Keeps.trans' {s s₁ s₂ : Shared} (h : Keeps s s₁) (h' : Keeps s₁ s₂) : Keeps s s₂ := by
  obtain ⟨h1, t1, rfl, k1⟩ := h
  obtain ⟨h2, t2, rfl, k2⟩ := h'
  exact ⟨h2, t2, rfl, fun b o e => k2 b o (k1 b o e)⟩
end Mine
set_option maxHeartbeats 8000000
namespace Mine
open PySem.Calls PySem.Spec PyProof.V
theorem key_elt {w : World} {lo : List PySem.Str} {mean : ExcName → Option Value} {mg mb : PySem.Str → Option Value} {A : Around} {E : Value → Shared → Prop} {s : Shared} {env : Env} {scope isc : Scope} {cl : List (PySem.Str × Addr)} {C c a : Addr} {k y : PySem.Str} {u : Value} {kvs : List (PySem.Str × Value)} {t : Tok} {m : PySem.Str → Option Value}
    {p1 p2 p3 p4 p5 p6 p7 p8 p9 p10 p11 p12 p13 p14 p15 p16 p17 p18 p19 p20 p21 p22 p23 p24 : Pos} {i1 i2 i3 i4 i5 : Nat}
    (X : (hd68.heap_39 w.params).In s.heap) (T : Top topProg lo mean mg mb s.heap) (hh : A.handled = none)
    (hg : env.globals = mainGlobals) (hk : scope.kind = .function) (hik : isc.kind = .function)
    (l1 : (relabel scope env).names.lookup (PySem.Str.ofString "key") = some .local) (l2 : (relabel scope env).names.lookup (PySem.Str.ofString "tree") = some .cell) (l3 : (relabel scope env).names.lookup (PySem.Str.ofString "_law_written") = some .globalImplicit)
    (l4 : isc.names.lookup (PySem.Str.ofString "sign") = some .local) (f1 : ∀ y ∈ isc.names, y.2 ≠ .free) (f2 : ∀ y ∈ isc.names, y.2 ≠ .cell) (f3 : ∀ y ∈ isc.names, y.2 = .local → isc.names.lookup y.1 = some .local)
    (hc : cl.lookup (PySem.Str.ofString "tree") = some c) (hcell : s.heap.IsCell c (some (.ref a)))
    (hn : s.heap.Ns C m) (hm : m (PySem.Str.ofString "key") = some (.str k t)) (hd : s.heap.DictOf (PySem.strKind PySem.Challenge.rw_pe0068_01.row.prog w) a kvs) (hv : valueAt kvs k = some u)
    (hline : (p2.endLine == p19.line) = true) (hkl : k.length ≤ 100000) (hyl : y.length ≤ 100000)
    (IH : ∀ (s₁ : Shared) (Q' E' : Value → Shared → Prop), Kp s.heap s₁.heap → (∀ t h' tk, Kp s₁.heap h' → Q' (.str y t) { s₁ with heap := h', toks := tk }) → wpAny (model PySem.Challenge.rw_pe0068_01.row.prog w) A (call (.ref 68) [u]) Q' E' s₁) :
    wpAny (model PySem.Challenge.rw_pe0068_01.row.prog w) A (eval (.BinOp (.BinOp (.BinOp (.Name (PySem.Str.ofString "key") p1) .Add (.Constant (.str (PySem.Str.ofString "=\"")) i1 p3) p4) .Add
      (.Call (.Attribute (.Constant (.str (PySem.Str.ofString "")) i2 p5) (PySem.Str.ofString "join") p2) [.ListComp (.IfExp (.Compare (.Name (PySem.Str.ofString "sign") p6) [.In] [.Constant (.str (PySem.Str.ofString "\"\\")) i3 p7] p8) (.BinOp (.Constant (.str (PySem.Str.ofString "\\")) i4 p9) .Add (.Name (PySem.Str.ofString "sign") p10) p11) (.Name (PySem.Str.ofString "sign") p12) p13)
        [⟨.Name (PySem.Str.ofString "sign") p14, .Call (.Name (PySem.Str.ofString "_law_written") p15) [.Subscript (.Name (PySem.Str.ofString "tree") p16) (.Name (PySem.Str.ofString "key") p17) p18] [] p20, [], 0⟩] isc p21] [] p19) p22) .Add (.Constant (.str (PySem.Str.ofString "\"")) i5 p23) p24) (compEnvC scope cl C env))
      (fun r s₄ => (∃ t', r = .str (wItem k y) t') ∧ Keeps s s₄) E s := by
  revert X; k_fill; intro X
  have e1 : (PySem.Str.ofString "=\"").length = 2 := by decide +kernel
  have e2 : (PySem.Str.ofString "\"").length = 1 := by decide +kernel
  refine wpAny_BinOp (wpAny_BinOp (wpAny_BinOp (wpAny_Name (wpAny_loadName_local hk l1 hn hm ?_) (by decide +kernel))))
  refine wpAny_Constant_str (PyProof.Rows.add_str (fun t1 tk1 => ?_) (by rw [e1, sizeLine_eq]; omega))
  refine Call_method1 rfl rfl hline (wpAny_Constant_str ?_)
  refine SB.join ?_
  refine lc_signs escOne hh f1 f2 hik f3 l4 ?_
  refine Call_ (Name_function_global hk l3 (loadGlobal_global (by show _; rw [show (compEnvC scope cl C env).globals = mainGlobals from hg]; exact T.g) (mg_of X T.g (v := .ref 68) (by k_is)) ?_) (by decide +kernel))
  refine callWith_K X (by k_is) ?_
  refine spliced_more (Subscript_ (wpAny_Name (wpAny_loadName_cell hk l2 hc hcell ?_) (by decide +kernel)))
  refine wpAny_Name (wpAny_loadName_local hk l1 hn hm ?_) (by decide +kernel)
  refine subscriptTail_builtin hd.typeIs slot_dict_getitem.lookup (wpAny_getItem_of (strKind_is _ w k t) hd.mapOf hv ?_) (by with_unfolding_all rfl) (by intro _; with_unfolding_all rfl)
  refine spliced_none ⟨X, ?_⟩
  refine IH _ _ _ (fun _ _ e => e) (fun t2 h2 tk2 k2 => ⟨y, t2, rfl, by rw [sizeLine_eq]; omega, ?_, ?_⟩)
  · intro C' n t' s₃ m₃ E' _ _ hn' hm' _
    exact sign_elt hik (lookup_relabel_local l4) hn' hm'
  · intro D h' tk ys hD hl hS hkp
    obtain ⟨l, rfl, hl2⟩ := strs_values hS
    refine ⟨D, l, rfl, hl, _, hl2, esc_ok hyl, fun t3 k3 => ?_⟩
    refine PyProof.Rows.add_str (fun t4 tk4 => ?_) ?_
    · refine wpAny_Constant_str (PyProof.Rows.add_str (fun t5 tk5 => ⟨⟨t5, rfl⟩, h', tk5, rfl, fun b o e => hkp b o (k2 b o e)⟩) ?_)
      have := esc_len hyl
      rw [PySem.Str.length_append, PySem.Str.length_append, e1, e2, sizeLine_eq]
      show _ + 2 + (esc y).length + 1 ≤ _
      omega
    · have := esc_len hyl
      rw [PySem.Str.length_append, e1, sizeLine_eq]
      show _ + 2 + (esc y).length ≤ _
      omega
/-- what is written of a value: a text itself, a dict of such (n deep) as a header -/
def Wrt (w : World) (h : Heap) : Nat → Value → PySem.Str → Prop
  | 0, v, x => (∃ t, v = .str x t)
  | n + 1, v, x => (∃ t, v = .str x t) ∨ ∃ a kvs, ∃ g : PySem.Str → PySem.Str, v = .ref a ∧ h.DictOf (PySem.strKind PySem.Challenge.rw_pe0068_01.row.prog w) a kvs ∧ (a == sysModules) = false ∧ kvs.length ≤ 3 ∧
      (∀ k u, (k, u) ∈ kvs → Wrt w h n u (g k) ∧ (g k).length ≤ 100000 ∧ k.length ≤ 100000) ∧ x = Txt.join (PySem.Str.ofString ", ") (kvs.map fun p => wItem p.1 (g p.1))
theorem Wrt.mono {w : World} {h h' : Heap} (hk : Kp h h') : ∀ {n : Nat} {v : Value} {x : PySem.Str}, Wrt w h n v x → Wrt w h' n v x
  | 0, _, _, H => H
  | n + 1, v, x, H => by
    rcases H with H | ⟨a, kvs, g, h1, h2, h3, h4, h5, h6⟩
    · exact .inl H
    · obtain ⟨o, es, ep, ho, r⟩ := h2
      exact .inr ⟨a, kvs, g, h1, ⟨o, es, ep, hk _ _ ho, r⟩, h3, h4, fun k u hm => ⟨(h5 k u hm).1.mono hk, (h5 k u hm).2⟩, h6⟩
theorem valueAt_mem {kvs : List (PySem.Str × Value)} {k : PySem.Str} {u : Value} (hn : (kvs.map (·.1)).Nodup) (h : (k, u) ∈ kvs) : valueAt kvs k = some u := by
  unfold valueAt
  induction kvs with
  | nil => cases h
  | cons p r ih =>
    rw [List.map_cons, List.nodup_cons] at hn
    rcases List.mem_cons.mp h with rfl | h
    · simp
    · have hne : p.1 ≠ k := fun e => hn.1 (by rw [e]; exact List.mem_map_of_mem (f := (·.1)) h)
      rw [List.find?_cons_of_neg (by simpa using hne)]
      exact ih hn.2 h
theorem wItem_len {k y : PySem.Str} (hk : k.length ≤ 100000) (hy : y.length ≤ 100000) : (wItem k y).length ≤ 300003 := by
  have := esc_len hy
  have e1 : (PySem.Str.ofString "=\"").length = 2 := by decide +kernel
  have e2 : (PySem.Str.ofString "\"").length = 1 := by decide +kernel
  unfold wItem
  rw [PySem.Str.length_append, PySem.Str.length_append, PySem.Str.length_append, e1, e2]
  omega
theorem sum_le_mul {l : List Nat} {b : Nat} (h : ∀ x ∈ l, x ≤ b) : l.sum ≤ l.length * b := by
  induction l with
  | nil => simp
  | cons x r ih =>
    have h1 := h x (.head _)
    have h2 := ih fun y hy => h y (.tail _ hy)
    simp only [List.sum_cons, List.length_cons, Nat.succ_mul]
    omega
local macro_rules | `(tactic| walk_at "eval Call Attribute") => `(tactic| with_reducible refine Stop.mk ?_)
theorem written_s {w : World} {lo : List PySem.Str} {mean : ExcName → Option Value} {mg mb : PySem.Str → Option Value} {dp un : Nat} {fr : Option (List Env)} {gd : Option (List Code)} {s : Shared} {x : PySem.Str} {t : Tok} {Q E : Value → Shared → Prop}
    (X : (hd68.heap_39 w.params).In s.heap) (T : Top topProg lo mean mg mb s.heap) (hd : dp < recursionLimit)
    (ret : ∀ t h' tk', Kp s.heap h' → Q (.str x t) { s with heap := h', toks := tk' }) :
    wpAny (model PySem.Challenge.rw_pe0068_01.row.prog w) (Ar dp un fr gd) (call (.ref 68) [.str x t]) Q E s := by
  revert X; k_fill; intro X
  k_with_none
  w_top off
  refine' enter0C X T ?k6 ?k7 ?k8 ?k9 ?kB ?kN ?_ ?c2 ?c3 ?c4
  (case k6 => k_is)
  (case k7 => k_is)
  (case k8 => exact hd)
  (case k9 => exact BindsTo.of_eq rfl)
  (case kN => decide +kernel)
  (case kB => exact kindsX (by rfl))
  (case c2 => exact rfl)
  (case c3 => exact rfl)
  (case c4 => exact rfl)
  intro L' h₁ tk cells F' N' hC
  obtain ⟨o, rfl, ho⟩ := CellsAre.one hC
  clear hC
  (try dsimp only); (try k_fold)
  k_steps
  exact ret t _ _ (Fr.keep (by assumption))
theorem written_c (n : Nat) : ∀ {w : World} {lo : List PySem.Str} {mean : ExcName → Option Value} {mg mb : PySem.Str → Option Value} {dp un : Nat} {fr : Option (List Env)} {gd : Option (List Code)} {s : Shared} {v : Value} {x : PySem.Str} {Q E : Value → Shared → Prop},
    (hd68.heap_39 w.params).In s.heap → Top topProg lo mean mg mb s.heap → dp + n < recursionLimit → Wrt w s.heap n v x →
    (∀ t h' tk', Kp s.heap h' → Q (.str x t) { s with heap := h', toks := tk' }) →
    wpAny (model PySem.Challenge.rw_pe0068_01.row.prog w) (Ar dp un fr gd) (call (.ref 68) [v]) Q E s := by
  induction n with
  | zero =>
    intro w lo mean mg mb dp un fr gd s v x Q E X T hd hv ret
    obtain ⟨t, rfl⟩ := hv
    exact written_s X T hd ret
  | succ n ih =>
  intro w lo mean mg mb dp un fr gd s v x Q E X T hd hv ret
  rcases hv with ⟨t, rfl⟩ | ⟨a, kvs, g, rfl, hdict, hsys, hlen, hsub, rfl⟩
  · exact written_s X T (by omega) ret
  revert X; k_fill; intro X
  k_with_none
  w_top off
  refine' enter0C X T ?k6 ?k7 ?k8 ?k9 ?kB ?kN ?_ ?c2 ?c3 ?c4
  (case k6 => k_is)
  (case k7 => k_is)
  (case k8 => show dp < _; omega)
  (case k9 => exact BindsTo.of_eq rfl)
  (case kN => decide +kernel)
  (case kB => exact kindsX (by rfl))
  (case c2 => exact rfl)
  (case c3 => exact rfl)
  (case c4 => exact rfl)
  intro L' h₁ tk cells F' N' hC
  obtain ⟨o, rfl, ho⟩ := CellsAre.one hC
  clear hC
  (try dsimp only); (try k_fold)
  obtain ⟨od, es, ep, hod, hex, hdat, hkeys, hpairs, hnd⟩ := id hdict
  k_steps
  rename Fr _ _ _ _ => cF
  refine IsiPair.dict_str (cF.keep _ _ hod) hex.1 ?_
  k_steps
  rename News _ _ _ _ => cN
  unfold Stop
  have up : Kp s.heap _ := cF.keep
  refine Call_method1 rfl rfl rfl (wpAny_Constant_str ?_)
  refine SB.join ?_
  have hcell : Heap.IsCell _ (L' + 1) (some (.ref a)) := ⟨o, (cN _ (.head _)).1, ho⟩
  refine lc_keys (fun k => wItem k (g k)) rfl rfl (by decide) rfl (by decide) rfl (kvs := kvs) (d := a) ⟨od, es, ep, up _ _ hod, hex, hdat, hkeys, hpairs, hnd⟩ hsys (by rw [sizeLine_eq]; omega) (fun Q' hq => wpAny_Name (wpAny_loadName_cell rfl rfl rfl hcell hq) (by decide +kernel)) ?_ ?_
  · intro C k u t s₃ m₃ E' hC hku hn hm hkp
    have up3 : Kp s.heap s₃.heap := fun b o e => hkp b o (up b o e)
    have hs := hsub k u hku
    refine key_elt (X.keeps up3) (T.keeps up3) rfl rfl rfl rfl rfl rfl rfl rfl (by decide) (by decide) (by decide) rfl (kvs := kvs) (a := a) (let ⟨oc, h1, h2⟩ := hcell; ⟨oc, hkp _ _ h1, h2⟩) hn hm ⟨od, es, ep, up3 _ _ hod, hex, hdat, hkeys, hpairs, hnd⟩ (valueAt_mem hnd hku) rfl hs.2.2 hs.2.1 ?_
    intro s₁ Q' E'' hk' hr
    have up1 : Kp s.heap s₁.heap := fun b o e => hk' b o (up3 b o e)
    exact ih (dp := dp + 1) (un := un + 3) (X.keeps up1) (T.keeps up1) (by omega) (hs.1.mono up1) hr
  · intro D h' tk ys hD hl hS hkp
    obtain ⟨l, rfl, hl2⟩ := strs_values hS
    refine ⟨D, l, rfl, hl, _, hl2, joinOk_of ?_, fun t3 k3 => ret t3 h' k3 (fun b o e => hkp b o (up b o e))⟩
    have h1 := sum_le_mul (l := (kvs.map fun p => wItem p.1 (g p.1)).map (·.length)) (b := 300003) (by
      intro x hx
      obtain ⟨y, hy, rfl⟩ := List.mem_map.mp hx
      obtain ⟨⟨k, u⟩, hku, rfl⟩ := List.mem_map.mp hy
      have := hsub k u hku
      exact wItem_len this.2.2 this.2.1)
    rw [show (PySem.Str.ofString ", ").length = 2 by decide +kernel]
    rw [List.length_map, List.length_map] at h1
    rw [List.length_map]
    have h2 : kvs.length * 300003 ≤ 3 * 300003 := Nat.mul_le_mul_right _ hlen
    omega
end Mine
set_option maxHeartbeats 8000000
namespace Mine
open PySem.Calls PySem.Spec PyProof.V
section
variable {prog : Program} {w : World} {A : Around} {E : Value → Shared → Prop} {s : Shared}
/-- a pair put into a dict -/
theorem put_pairs {d : Addr} {kvs : List (PySem.Str × Value)} {k : PySem.Str} {key v : Value} {Q : Unit → Shared → Prop} (hkey : (PySem.strKind prog w).is k key = true) (hm : s.heap.DictOf (PySem.strKind prog w) d kvs)
    (hQ : ∀ h', h'.DictOf (PySem.strKind prog w) d (stored kvs k v) → Heap.SameBut d s.heap h' → Q () { s with heap := h' }) (hsz : kvs.length ≤ sizeLine) :
    wpAny (model prog w) A (dictPut d ((PySem.strKind prog w).hash k) key v) Q E s := by
  obtain ⟨o, es, ep, ho, hc, hd, hk, hp, hn⟩ := hm
  have hes : es.size ≤ sizeLine := by
    have e1 := hp.length
    have e2 : es.toList.length = es.size := by simp
    omega
  have hidx : (es.findIdx? fun e => (PySem.strKind prog w).is k e.key) = kvs.findIdx? fun kv => decide (kv.1 = k) := by
    rw [← hp.findIdx k]; obtain ⟨l⟩ := es; simp
  unfold dictPut
  refine wpAny_bind (wpAny_dictFind_of hkey ho hd hk ?_)
  cases hi : es.findIdx? fun e => (PySem.strKind prog w).is k e.key with
  | some i =>
    have hany := any_of_findIdx_some (hidx ▸ hi)
    refine wpAny_updateDict ho hd (hQ _ ⟨_, _, ep, Heap.get?_update_self _ ho (Obj.isFreed_of_dict (Obj.data_mapDict hd _)), hc.mapDict _, Obj.data_mapDict hd _, hk.modify _ _, ?_, ?_⟩ (Heap.SameBut.update ..))
    · rw [stored, if_pos hany]
      have hl : (es.toList.findIdx? fun e => (PySem.strKind prog w).is k e.key) = some i := by rw [← hi]; obtain ⟨l⟩ := es; simp
      have := hp.modify hn hl v
      obtain ⟨l⟩ := es
      simpa using this
    · rw [stored, if_pos hany, keys_map_store]; exact hn
  | none =>
    have hnot : k ∉ kvs.map (·.1) := not_mem_of_findIdx_none (hidx ▸ hi)
    have hany : ¬ (kvs.any fun kv => decide (kv.1 = k)) = true := by
      intro h
      obtain ⟨kv, hkv, he⟩ := List.any_eq_true.mp h
      exact hnot (List.mem_map.mpr ⟨kv, hkv, of_decide_eq_true he⟩)
    refine wpAny_updateDictKeys (hz := hes) ho hd (hQ _ ⟨_, _, ep + 1, Heap.get?_update_self _ ho (Obj.isFreed_of_dict (Obj.data_mapDictKeys hd _)), hc.mapDictKeys _, Obj.data_mapDictKeys hd _, hk.push hkey _, ?_, ?_⟩ (Heap.SameBut.update ..))
    · rw [stored, if_neg hany]
      have := hp.append hkey ((PySem.strKind prog w).hash k) v
      obtain ⟨l⟩ := es
      simpa using this
    · rw [stored, if_neg hany, List.map_append, List.nodup_append]
      refine ⟨hn, by simp, fun a ha b hb e => hnot ?_⟩
      simp only [List.map_cons, List.map_nil, List.mem_singleton] at hb
      rw [← hb, ← e]; exact ha
/-- a dict merged into another -/
theorem merge_dict {d a : Addr} {kvs more : List (PySem.Str × Value)} {Q : Unit → Shared → Prop} (hda : d ≠ a) (hS : (a == sysModules) = false) (hd : s.heap.DictOf (PySem.strKind prog w) d kvs) (ha : s.heap.DictOf (PySem.strKind prog w) a more)
    (hQ : ∀ h', h'.DictOf (PySem.strKind prog w) d (merged kvs more) → Heap.SameBut d s.heap h' → Q () { s with heap := h' }) (hsz : kvs.length + more.length ≤ sizeLine) :
    wpAny (model prog w) A (mergeMapping d (.ref a) false) Q E s := by
  obtain ⟨od, esd, epd, hod, hcd, hdd, hkd, hpd, hnd⟩ := id hd
  obtain ⟨oo, eso, epo, hoo, hco, hdo', hko, hpo, hno⟩ := id ha
  have hlen : more.length = eso.size := by rw [← hpo.length]; simp
  unfold mergeMapping
  refine wpAny_bind (m := isInstance (.ref a) (.type "dict")) (wpAny_isInstance ha.typeIs F.sub_dict_dict ?_)
  simp only [if_true]
  refine wpAny_bind (m := specialOf (.ref a) (PySem.Str.ofString "__iter__")) (wpAny_specialOf ha.typeIs F.slot_dict_iter.lookup ?_)
  have hbeq : (some (Value.builtin "dict.__iter__") == some (Value.builtin "dict.__iter__")) = true := by decide
  rw [hbeq]
  refine wpAny_bind (wpAny_pure ?_)
  dsimp only
  rw [if_neg (by rw [hS]; exact Bool.false_ne_true)]
  refine wpAny_bind (wpAny_dictEntries hod hdd ?_)
  have loop : wpAny (model prog w) A (do
      let es ← dictEntries a
      let epoch ← dictEpoch a
      forIn (List.range es.size) PUnit.unit fun i (_ : PUnit) => (do
        let l ← dictEntries a
        match l[i]? with
          | some e => do
            holding [e.key, e.val] (dictPut d e.hash e.key e.val)
            let ep ← dictEpoch a
            if (ep != epoch) = true then do
                (unsupported "dict.changed-during-merge" : Sem PUnit)
                pure (ForInStep.yield PUnit.unit)
              else pure (ForInStep.yield PUnit.unit)
          | _ => do
            (unsupported "dict.changed-during-merge" : Sem PUnit)
            pure (ForInStep.yield PUnit.unit) : Sem (ForInStep PUnit))
      pure ()) Q E s := by
    refine wpAny_bind (wpAny_dictEntries hoo hdo' ?_)
    refine wpAny_bind (wpAny_dictEpoch hoo hdo' ?_)
    refine wpAny_bind ?_
    refine wpAny_forIn_list _
      (fun rest _ s' => ∃ h' i, s' = { s with heap := h' } ∧ rest = List.range' i (eso.size - i) ∧ i ≤ eso.size ∧ h'.DictOf (PySem.strKind prog w) d (merged kvs (more.take i)) ∧ h'.get? a = some oo ∧ Heap.SameBut d s.heap h')
      _ ?_ ?_ _ _ ⟨s.heap, 0, rfl, by simp [List.range_eq_range'], Nat.zero_le _, by simpa [merged] using hd, hoo, Heap.SameBut.refl _ _⟩
    · rintro x rest b s' ⟨h', i, rfl, hr, hi, hd', hoo', hs'⟩
      have hlt : i < eso.size := by
        rcases Nat.lt_or_ge i eso.size with h | h
        · exact h
        · rw [Nat.sub_eq_zero_of_le h] at hr; simp at hr
      have hxr : x = i ∧ rest = List.range' (i + 1) (eso.size - (i + 1)) := by
        have e : eso.size - i = (eso.size - (i + 1)) + 1 := by omega
        rw [e, List.range'_succ] at hr
        injection hr with h1 h2
        exact ⟨h1, h2⟩
      obtain ⟨rfl, hrest⟩ := hxr
      refine wpAny_bind (wpAny_dictEntries hoo' hdo' ?_)
      rw [Array.getElem?_eq_getElem hlt]
      obtain ⟨⟨k, v⟩, hkv⟩ : ∃ kv, more[x]? = some kv := ⟨more[x]'(by rw [hlen]; exact hlt), List.getElem?_eq_getElem _⟩
      obtain ⟨hkey, hval⟩ := hpo.get? (e := eso[x]) (by simp [hlt]) hkv
      obtain ⟨k', hkey', hhash⟩ := hko eso[x] (Array.getElem_mem hlt)
      obtain rfl : k' = k := (PySem.strKind prog w).inj _ _ _ hkey' hkey
      dsimp only
      rw [hhash, hval]
      have hmx : (merged kvs (more.take x)).length ≤ sizeLine := by
        have e1 := merged_length_le kvs (more.take x)
        have e2 : (more.take x).length ≤ more.length := by rw [List.length_take]; omega
        omega
      refine wpAny_bind (wpAny_holding (put_pairs hkey hd' (fun h'' hd'' hs'' => ?_) hmx))
      have hoo'' : h''.get? a = some oo := (hs''.2 a (Ne.symm hda)).trans hoo'
      refine wpAny_bind (wpAny_dictEpoch hoo'' hdo' ?_)
      rw [if_neg (by simp)]
      exact wpAny_pure ⟨h'', x + 1, rfl, hrest, hlt, by rw [merged_take_succ kvs more x (k', v) hkv]; exact hd'', hoo'', hs'.trans hs''⟩
    · rintro b s' ⟨h', i, rfl, hr, hi, hd', hoo', hs'⟩
      have hin : eso.size - i = 0 := by
        have := congrArg List.length hr
        simpa using this.symm
      have hi' : i = more.length := by omega
      rw [hi', List.take_length] at hd'
      exact wpAny_pure (hQ h' hd' hs')
  have keys : wpAny (model prog w) A (forIn eso PUnit.unit fun e (_ : PUnit) =>
      (match e.key with
      | Value.ref a => do
        let eqs ← specialOf e.key (PySem.Str.ofString "__eq__")
        if (eqs != some (Value.builtin "object.__eq__")) = true then
            if (Array.filter (fun x => x.hash == e.hash) eso).size > 1 then do
              (unsupported "dict.merge-into-an-empty-dict:keys-of-equal-hash" : Sem PUnit)
              pure (ForInStep.yield PUnit.unit)
            else pure (ForInStep.yield PUnit.unit)
          else pure (ForInStep.yield PUnit.unit)
      | _ => pure (ForInStep.yield PUnit.unit) : Sem (ForInStep PUnit))) (fun _ s' => s' = s) E s := by
    rw [← Array.forIn_toList]
    refine wpAny_forIn_list _ (fun rest _ s' => s' = s ∧ ∀ e ∈ rest, e ∈ eso.toList) _ ?_ ?_ _ _ ⟨rfl, fun _ h => h⟩
    · rintro e rest b s' ⟨rfl, hm⟩
      obtain ⟨k, hk, _⟩ := hko e (Array.mem_toList_iff.mp (hm e (.head _)))
      obtain ⟨t, ht⟩ := Value.isStrOf_shape hk
      rw [ht]
      exact wpAny_pure ⟨rfl, fun x hx => hm x (.tail _ hx)⟩
    · rintro b s' ⟨rfl, _⟩; rfl
  by_cases hem : esd.isEmpty = true
  · rw [if_pos hem]
    refine wpAny_bind (wpAny_dictEntries hoo hdo' ?_)
    refine wpAny_bind (wpAny_mono keys (fun _ s' h => ?_) fun _ _ e => e)
    subst h
    exact loop
  · rw [if_neg hem]
    exact loop
end
end Mine
set_option maxHeartbeats 8000000
namespace Mine
open PySem.Calls PySem.Spec PyProof.V
section
variable {prog : Program} {w : World} {A : Around} {E : Value → Shared → Prop} {s : Shared}
theorem empty_dict {h : Heap} {a : Addr} (ha : h.get? a = some { cls := .type "dict", data := .dict #[] }) : h.DictOf (PySem.strKind prog w) a [] :=
  ⟨_, #[], _, ha, ⟨rfl, rfl, rfl⟩, rfl, fun e he => by simp at he, .nil, List.nodup_nil⟩
theorem DictOf.up {h h' : Heap} {a : Addr} {kvs : List (PySem.Str × Value)} (hd : h.DictOf (PySem.strKind prog w) a kvs) (e : ∀ o, h.get? a = some o → h'.get? a = some o) : h'.DictOf (PySem.strKind prog w) a kvs :=
  let ⟨o, es, ep, ho, r⟩ := hd
  ⟨o, es, ep, e _ ho, r⟩
/-- «{**a, k: v}» -/
theorem star_display {env : Env} {kE vE e1 : PySem.Expr} {pos : Pos} {a : Addr} {more : List (PySem.Str × Value)} {R : PySem.Str → Value → Shared → Prop} {Q : Value → Shared → Prop}
    (ha : s.heap.DictOf (PySem.strKind prog w) a more) (hS : (a == sysModules) = false) (hlen : more.length ≤ 100) (hlow : sysModules < s.heap.objs.size)
    (h1 : ∀ (s' : Shared) (Q' : Value → Shared → Prop), Kp s.heap s'.heap → (∀ tk, Q' (.ref a) { s' with toks := tk }) → wpAny (model prog w) A (eval e1 env) Q' E s')
    (h2 : ∀ (s' : Shared), (∃ h tk, s' = { s with heap := h, toks := tk }) → Kp s.heap s'.heap → s.heap.objs.size + 1 < s'.heap.objs.size → wpAny (model prog w) A (eval kE env) (fun kv s₂ => wpAny (model prog w) A (eval vE env) (fun vv s₃ => ∃ k t, kv = .str k t ∧ Keeps s' s₃ ∧ R k vv s₃) E s₂) E s')
    (hQ : ∀ k vv s₃ h' tk, R k vv s₃ → (∃ h tk, s₃ = { s with heap := h, toks := tk }) → h'.DictOf (PySem.strKind prog w) s.heap.objs.size (stored more k vv) → Kp s.heap h' → (∀ b o, b ≠ s.heap.objs.size → s.heap.objs.size + 1 < b → s₃.heap.get? b = some o → h'.get? b = some o) → s.heap.objs.size < h'.objs.size →
      Q (.ref s.heap.objs.size) { s with heap := h', toks := tk }) :
    wpAny (model prog w) A (eval (.Dict [none, some kE] [e1, vE] pos) env) Q E s := by
  rw [arm_eval_Dict]
  refine wpAny_bind (wpAny_standAt ?_)
  show wpAny _ _ (dictDisplay [(none, do let x ← eval e1 env; standAt pos; pure x), (some (eval kE env), do let x ← eval vE env; standAt pos; pure x)]) _ _ _
  unfold dictDisplay
  simp only [List.forIn_cons, List.forIn_nil]
  have hD : s.heap.objs.size ≠ a := by
    obtain ⟨o, _, _, ho, _⟩ := ha
    exact Nat.ne_of_gt (Heap.lt_size ho)
  refine wpAny_bind (wpAny_bind (wpAny_bind (wpAny_pure ?_)))
  refine wpAny_bind (wpAny_alloc ?_)
  have k1 : Kp s.heap (s.heap.push { cls := .type "dict", data := .dict #[] }) := fun b o e => Heap.get?_push_of_some _ e
  refine wpAny_bind (wpAny_holding (wpAny_bind (h1 _ _ k1 fun tk1 => wpAny_bind (wpAny_standAt (wpAny_pure ?_)))))
  refine wpAny_bind (wpAny_onRaise (wpAny_tryCatch (wpAny_onRaise (wpAny_holding (merge_dict hD hS (empty_dict (Heap.get?_push_size _ rfl)) (DictOf.up ha fun o e => k1 _ _ e) (fun hh2 hd2 hs2 => ?_) (by rw [sizeLine_eq]; simp; omega))))))
  have hmg : merged [] more = more := merged_nil_of_nodup more (by obtain ⟨_, _, _, _, _, _, _, _, hn⟩ := ha; exact hn)
  rw [hmg] at hd2
  dsimp only at hs2 hd2 ⊢
  refine wpAny_pure ?_
  dsimp only
  simp only [List.nil_append, List.length_singleton, show ((1 : Nat) == 17) = false from rfl, Bool.false_eq_true, if_false]
  refine wpAny_bind (wpAny_pure (wpAny_pure ?_))
  dsimp only
  simp only [List.isEmpty_cons, Bool.false_eq_true, if_false]
  have k2 : Kp s.heap hh2 := fun b o e => hs2.extBut b o (Nat.ne_of_lt (Heap.lt_size e)) (k1 b o e)
  have sz2 : hh2.objs.size = s.heap.objs.size + 1 := by rw [hs2.1, Heap.size_push]
  refine wpAny_bind (wpAny_bind (wpAny_holding (wpAny_subDict (knd := PySem.strKind prog w) (by simp) ?_)))
  refine evalPairs_cons ?_
  have k3 : Kp s.heap (hh2.push { cls := .type "dict", data := .dict #[] }) := fun b o e => Heap.get?_push_of_some _ (k2 b o e)
  refine wpAny_mono (h2 _ ⟨_, _, rfl⟩ k3 (by dsimp only; rw [Heap.size_push, sz2]; omega)) (fun kv s₂ hq => ?_) fun _ _ e => e
  refine wpAny_bind (wpAny_mono hq (fun vv s₃ hq3 => ?_) fun _ _ e => e)
  obtain ⟨k, t, rfl, hkp, hR⟩ := hq3
  refine wpAny_bind (wpAny_standAt (wpAny_pure (evalPairs_nil ?_)))
  obtain ⟨h3, tk3, rfl, kk3⟩ := hkp
  dsimp only at kk3 ⊢
  refine ⟨[(k, vv)], ⟨strKind_is _ _ _ _, rfl, trivial⟩, empty_dict (kk3 _ _ (Heap.get?_push_size _ rfl)), fun h4 hd4 hs4 => ?_⟩
  have hd4' : h4.DictOf (PySem.strKind prog w) hh2.objs.size [(k, vv)] := by
    have : merged [] [(k, vv)] = [(k, vv)] := rfl
    rw [this] at hd4; exact hd4
  have hDd : h4.DictOf (PySem.strKind prog w) s.heap.objs.size more := DictOf.up hd2 fun o e => hs4.extBut _ o (by rw [sz2]; exact Nat.ne_of_lt (Nat.lt_succ_self _)) (kk3 _ _ (Heap.get?_push_of_some _ e))
  refine wpAny_bind (wpAny_onRaise (wpAny_holding (merge_dict (by rw [sz2]; exact Nat.ne_of_lt (Nat.lt_succ_self _)) ?_ hDd hd4' (fun h5 hd5 hs5 => ?_) (by rw [sizeLine_eq]; simp; omega))))
  · rw [sz2]
    exact beq_eq_false_iff_ne.mpr (Nat.ne_of_gt (Nat.lt_succ_of_lt hlow))
  · refine wpAny_pure ?_
    dsimp only
    refine wpAny_pure ?_
    have hlt4 : s.heap.objs.size < h4.objs.size := by obtain ⟨_, _, _, e, _⟩ := hDd; exact Heap.lt_size e
    refine hQ k vv _ h5 _ hR ⟨_, _, rfl⟩ hd5 (fun b o e => ?_) (fun b o hb hb2 e => ?_) (by rw [hs5.1]; exact hlt4)
    · have hlt := Heap.lt_size e
      exact hs5.extBut b o (Nat.ne_of_lt hlt) (hs4.extBut b o (by rw [sz2]; exact Nat.ne_of_lt (Nat.lt_succ_of_lt hlt)) (kk3 b o (k3 b o e)))
    · exact hs5.extBut b o hb (hs4.extBut b o (by rw [sz2]; exact Nat.ne_of_gt hb2) e)
end
end Mine
set_option maxHeartbeats 8000000
namespace Mine
open PySem.Calls PySem.Spec PyProof.V
section
variable {prog : Program} {w : World} {A : Around} {E : Value → Shared → Prop} {s : Shared} {name : PySem.Str} {scope : Scope} {L f : Addr} {cd : Value} {h₀ : Heap} {m : PySem.Str → Option Value} {kA kB : List (PySem.Str × Value)} {tA tB : Addr} {x : PySem.Str} {tx : Tok} {Q : Value → Shared → Prop}
theorem fr_at {h : Heap} (F : Fr h₀ L h m) {s' : Shared} (hk : Kp h s'.heap) : Fr h₀ L s'.heap m := F.keeps hk
/-- «{**tree, 'b': {**tree['b'], 'c': text}}» -/
theorem disp1 {p1 p2 p3 p4 p5 p6 p7 p8 p9 : Pos} {i1 i2 i3 : Nat} (F : Fr h₀ L s.heap m) (hk : scope.kind = .function) (l1 : (envOf name scope L f cd).kindOf (PySem.Str.ofString "tree") = some .local) (l2 : (envOf name scope L f cd).kindOf (PySem.Str.ofString "text") = some .local)
    (m1 : m (PySem.Str.ofString "tree") = some (.ref tA)) (m2 : m (PySem.Str.ofString "text") = some (.str x tx)) (hA : s.heap.DictOf (PySem.strKind prog w) tA kA) (hB : s.heap.DictOf (PySem.strKind prog w) tB kB) (sA : (tA == sysModules) = false) (sB : (tB == sysModules) = false)
    (nA : kA.length ≤ 100) (nB : kB.length ≤ 100) (hv : valueAt kA (PySem.Str.ofString "b") = some (.ref tB)) (hlow : sysModules < s.heap.objs.size)
    (hQ : ∀ (B' : Nat) h' tk, s.heap.objs.size < B' → h'.DictOf (PySem.strKind prog w) s.heap.objs.size (stored kA (PySem.Str.ofString "b") (.ref B')) → h'.DictOf (PySem.strKind prog w) B' (stored kB (PySem.Str.ofString "c") (.str x tx)) → Kp s.heap h' → Q (.ref s.heap.objs.size) { s with heap := h', toks := tk }) :
    wpAny (model prog w) A (eval (.Dict [none, some (.Constant (.str (PySem.Str.ofString "b")) i1 p1)] [.Name (PySem.Str.ofString "tree") p2, .Dict [none, some (.Constant (.str (PySem.Str.ofString "c")) i2 p3)] [.Subscript (.Name (PySem.Str.ofString "tree") p4) (.Constant (.str (PySem.Str.ofString "b")) i3 p5) p6, .Name (PySem.Str.ofString "text") p7] p8] p9) (envOf name scope L f cd)) Q E s := by
  refine star_display (R := fun k vv s₃ => k = PySem.Str.ofString "b" ∧ ∃ B' : Nat, vv = .ref B' ∧ s.heap.objs.size + 1 < B' ∧ s₃.heap.DictOf (PySem.strKind prog w) B' (stored kB (PySem.Str.ofString "c") (.str x tx))) hA sA nA hlow ?_ ?_ ?_
  · intro s' Q' hkp hq
    exact ld (F.keeps hkp) m1 (hq s'.toks) hk l1 (by decide +kernel)
  · intro s' _ hkp hsz
    refine wpAny_Constant_str ?_
    have hB' := DictOf.up hB fun o e => hkp _ _ e
    refine star_display (R := fun k vv s₃ => k = PySem.Str.ofString "c" ∧ vv = .str x tx) hB' sB nB (Nat.lt_trans (Nat.lt_succ_of_lt hlow) hsz) ?_ ?_ ?_
    · intro s'' Q'' hkp2 hq
      have up : Kp s.heap s''.heap := fun b o e => hkp2 b o (hkp b o e)
      have hA2 := DictOf.up hA fun o e => up _ _ e
      refine Subscript_ (ld (F.keeps up) m1 ?_ hk l1 (by decide +kernel))
      refine wpAny_Constant_str ?_
      exact subscriptTail_builtin hA2.typeIs slot_dict_getitem.lookup (wpAny_getItem_of (strKind_is _ w _ _) hA2.mapOf hv (hq _)) (by with_unfolding_all rfl) (by intro _; with_unfolding_all rfl)
    · intro s'' _ hkp2 _
      have up : Kp s.heap s''.heap := fun b o e => hkp2 b o (hkp b o e)
      refine wpAny_Constant_str ?_
      refine ld (F.keeps up) m2 ?_ hk l2 (by decide +kernel)
      exact ⟨_, _, rfl, ⟨_, _, rfl, fun _ _ e => e⟩, rfl, rfl⟩
    · rintro k vv s₃ h' tk ⟨rfl, rfl⟩ _ hd hkp3 _ _
      refine ⟨_, _, rfl, ⟨h', tk, rfl, hkp3⟩, rfl, _, rfl, hsz, hd⟩
  · rintro k vv s₃ h' tk ⟨rfl, B', rfl, hlt, hdB⟩ _ hd hkp hup _
    exact hQ B' h' tk (by omega) hd (DictOf.up hdB fun o e => hup B' o (by omega) hlt e) hkp
/-- «{**tree, 'b': {**tree['b'], 'a': {'d': text}}}» -/
theorem disp2 {p1 p2 p3 p4 p5 p6 p7 p8 p9 p10 p11 : Pos} {i1 i2 i3 i4 : Nat} (F : Fr h₀ L s.heap m) (hk : scope.kind = .function) (l1 : (envOf name scope L f cd).kindOf (PySem.Str.ofString "tree") = some .local) (l2 : (envOf name scope L f cd).kindOf (PySem.Str.ofString "text") = some .local)
    (m1 : m (PySem.Str.ofString "tree") = some (.ref tA)) (m2 : m (PySem.Str.ofString "text") = some (.str x tx)) (hA : s.heap.DictOf (PySem.strKind prog w) tA kA) (hB : s.heap.DictOf (PySem.strKind prog w) tB kB) (sA : (tA == sysModules) = false) (sB : (tB == sysModules) = false)
    (nA : kA.length ≤ 100) (nB : kB.length ≤ 100) (hv : valueAt kA (PySem.Str.ofString "b") = some (.ref tB)) (hlow : sysModules < s.heap.objs.size)
    (hQ : ∀ (B' D' : Nat) h' tk, s.heap.objs.size < B' → B' < D' → h'.DictOf (PySem.strKind prog w) s.heap.objs.size (stored kA (PySem.Str.ofString "b") (.ref B')) → h'.DictOf (PySem.strKind prog w) B' (stored kB (PySem.Str.ofString "a") (.ref D')) → h'.DictOf (PySem.strKind prog w) D' [(PySem.Str.ofString "d", .str x tx)] → Kp s.heap h' → Q (.ref s.heap.objs.size) { s with heap := h', toks := tk }) :
    wpAny (model prog w) A (eval (.Dict [none, some (.Constant (.str (PySem.Str.ofString "b")) i1 p1)] [.Name (PySem.Str.ofString "tree") p2, .Dict [none, some (.Constant (.str (PySem.Str.ofString "a")) i2 p3)] [.Subscript (.Name (PySem.Str.ofString "tree") p4) (.Constant (.str (PySem.Str.ofString "b")) i3 p5) p6, .Dict [some (.Constant (.str (PySem.Str.ofString "d")) i4 p10)] [.Name (PySem.Str.ofString "text") p7] p11] p8] p9) (envOf name scope L f cd)) Q E s := by
  refine star_display (R := fun k vv s₃ => k = PySem.Str.ofString "b" ∧ ∃ B' D' : Nat, vv = .ref B' ∧ s.heap.objs.size + 1 < B' ∧ B' < D' ∧ s₃.heap.DictOf (PySem.strKind prog w) B' (stored kB (PySem.Str.ofString "a") (.ref D')) ∧ s₃.heap.DictOf (PySem.strKind prog w) D' [(PySem.Str.ofString "d", .str x tx)]) hA sA nA hlow ?_ ?_ ?_
  · intro s' Q' hkp hq
    exact ld (F.keeps hkp) m1 (hq s'.toks) hk l1 (by decide +kernel)
  · intro s' _ hkp hsz
    refine wpAny_Constant_str ?_
    have hB' := DictOf.up hB fun o e => hkp _ _ e
    refine star_display (R := fun k vv s₃ => k = PySem.Str.ofString "a" ∧ ∃ D' : Nat, vv = .ref D' ∧ s'.heap.objs.size + 1 < D' ∧ s₃.heap.DictOf (PySem.strKind prog w) D' [(PySem.Str.ofString "d", .str x tx)]) hB' sB nB (Nat.lt_trans (Nat.lt_succ_of_lt hlow) hsz) ?_ ?_ ?_
    · intro s'' Q'' hkp2 hq
      have up : Kp s.heap s''.heap := fun b o e => hkp2 b o (hkp b o e)
      have hA2 := DictOf.up hA fun o e => up _ _ e
      refine Subscript_ (ld (F.keeps up) m1 ?_ hk l1 (by decide +kernel))
      refine wpAny_Constant_str ?_
      exact subscriptTail_builtin hA2.typeIs slot_dict_getitem.lookup (wpAny_getItem_of (strKind_is _ w _ _) hA2.mapOf hv (hq _)) (by with_unfolding_all rfl) (by intro _; with_unfolding_all rfl)
    · intro s'' _ hkp2 hsz2
      have up : Kp s.heap s''.heap := fun b o e => hkp2 b o (hkp b o e)
      refine wpAny_Constant_str ?_
      refine wpAny_Dict_pairs (knd := PySem.strKind prog w) (pairs := [(eval (.Constant (.str (PySem.Str.ofString "d")) i4 p10) (envOf name scope L f cd), do let x ← eval (.Name (PySem.Str.ofString "text") p7) (envOf name scope L f cd); standAt p11; pure x)]) rfl (by simp) (by simp) ?_
      refine evalPairs_cons (wpAny_Constant_str (wpAny_bind (ld (F.keeps (fun b o e => Heap.get?_push_of_some _ (up b o e))) m2 (wpAny_bind (wpAny_standAt (wpAny_pure (evalPairs_nil ?_)))) hk l2 (by decide +kernel))))
      refine ⟨[(PySem.Str.ofString "d", .str x tx)], ⟨strKind_is _ _ _ _, rfl, trivial⟩, empty_dict (Heap.get?_push_size _ rfl), fun h4 hd4 hs4 => ?_⟩
      refine ⟨_, _, rfl, ⟨h4, _, rfl, fun b o e => hs4.extBut b o (Nat.ne_of_lt (Heap.lt_size e)) (Heap.get?_push_of_some _ e)⟩, rfl, _, rfl, hsz2, hd4⟩
    · rintro k vv s₃ h' tk ⟨rfl, D', rfl, hltD, hdD⟩ _ hd hkp3 hup3 _
      refine ⟨_, _, rfl, ⟨h', tk, rfl, hkp3⟩, rfl, _, D', rfl, hsz, ?_, hd, DictOf.up hdD fun o e => hup3 D' o ?_ hltD e⟩
      · dsimp only; omega
      · dsimp only; omega
  · rintro k vv s₃ h' tk ⟨rfl, B', D', rfl, hlt, hlt2, hdB, hdD⟩ _ hd hkp hup _
    exact hQ B' D' h' tk (by omega) hlt2 hd (DictOf.up hdB fun o e => hup B' o (by omega) hlt e) (DictOf.up hdD fun o e => hup D' o (by omega) (by omega) e) hkp
/-- «{**tree, 'ae'[x % 4 // 3]: text}» -/
theorem disp3 {p1 p2 p3 p4 p5 p6 p7 p8 p9 p10 : Pos} {i1 i2 i3 : Nat} {n : Int} {tn : Tok} (F : Fr h₀ L s.heap m) (hk : scope.kind = .function) (l1 : (envOf name scope L f cd).kindOf (PySem.Str.ofString "tree") = some .local) (l2 : (envOf name scope L f cd).kindOf (PySem.Str.ofString "text") = some .local) (l3 : (envOf name scope L f cd).kindOf (PySem.Str.ofString "x") = some .local)
    (m1 : m (PySem.Str.ofString "tree") = some (.ref tA)) (m2 : m (PySem.Str.ofString "text") = some (.str x tx)) (m3 : m (PySem.Str.ofString "x") = some (.int n tn)) (hn : n.fmod 4 = 0 ∨ n.fmod 4 = 3) (hA : s.heap.DictOf (PySem.strKind prog w) tA kA) (sA : (tA == sysModules) = false)
    (nA : kA.length ≤ 100) (hlow : sysModules < s.heap.objs.size)
    (hQ : ∀ k h' tk, (n.fmod 4 = 0 ∧ k = PySem.Str.ofString "a" ∨ n.fmod 4 = 3 ∧ k = PySem.Str.ofString "e") → h'.DictOf (PySem.strKind prog w) s.heap.objs.size (stored kA k (.str x tx)) → Kp s.heap h' → Q (.ref s.heap.objs.size) { s with heap := h', toks := tk }) :
    wpAny (model prog w) A (eval (.Dict [none, some (.Subscript (.Constant (.str (PySem.Str.ofString "ae")) i1 p1) (.BinOp (.BinOp (.Name (PySem.Str.ofString "x") p2) .Mod (.Constant (.int 4) i2 p3) p4) .FloorDiv (.Constant (.int 3) i3 p5) p6) p7)] [.Name (PySem.Str.ofString "tree") p8, .Name (PySem.Str.ofString "text") p9] p10) (envOf name scope L f cd)) Q E s := by
  refine star_display (R := fun k vv s₃ => (n.fmod 4 = 0 ∧ k = PySem.Str.ofString "a" ∨ n.fmod 4 = 3 ∧ k = PySem.Str.ofString "e") ∧ vv = .str x tx) hA sA nA hlow ?_ ?_ ?_
  · intro s' Q' hkp hq
    exact ld (F.keeps hkp) m1 (hq s'.toks) hk l1 (by decide +kernel)
  · intro s' _ hkp hsz
    refine Subscript_ (wpAny_Constant_str (wpAny_BinOp (wpAny_BinOp (ld (F.keeps hkp) m3 (wpAny_Constant_int (mod_int' (by decide) ?_)) hk l3 (by decide +kernel)))))
    refine wpAny_Constant_int ?_
    rcases hn with h0 | h0
    · rw [h0]
      refine floordiv_int (by decide) ?_ (Or.inl (PyProof.noPylong_small (by decide)))
      refine item_str (by decide +kernel) (by decide +kernel) (by decide +kernel) (fun _ => ?_) (by with_unfolding_all rfl) (by intro _; with_unfolding_all rfl)
      refine ld (F.keeps hkp) m2 ?_ hk l2 (by decide +kernel)
      exact ⟨_, _, rfl, ⟨_, _, rfl, fun _ _ e => e⟩, .inl ⟨rfl, by decide +kernel⟩, rfl⟩
    · rw [h0]
      refine floordiv_int (by decide) ?_ (Or.inl (PyProof.noPylong_small (by decide)))
      refine item_str (by decide +kernel) (by decide +kernel) (by decide +kernel) (fun _ => ?_) (by with_unfolding_all rfl) (by intro _; with_unfolding_all rfl)
      refine ld (F.keeps hkp) m2 ?_ hk l2 (by decide +kernel)
      exact ⟨_, _, rfl, ⟨_, _, rfl, fun _ _ e => e⟩, .inr ⟨rfl, by decide +kernel⟩, rfl⟩
  · rintro k vv s₃ h' tk ⟨hk', rfl⟩ _ hd hkp hup _
    exact hQ k h' tk hk' hd hkp
end
end Mine
set_option maxHeartbeats 8000000
namespace Mine
open PySem.Calls PySem.Spec PyProof.V
/-- a loop over a list of the base, its state in the frame and the ledger, which may grow -/
theorem list_loopV {prog : Program} {w : World} {A : Around} {E : Value → Shared → Prop} {s : Shared} {env : Env} {h₀ : Heap} {x : PySem.Str} {body : List Stmt} {Q : Flow → Shared → Prop} {m₀ : PySem.Str → Option Value} {l : Addr} {vs : List Value} {news : List (Addr × Obj)}
    (J : Nat → (PySem.Str → Option Value) → List (Addr × Obj) → Prop) (hh : A.handled = none) (hl : h₀.IsList l vs.toArray) (F : Fr h₀ env.locals s.heap m₀) (N : News h₀ env.locals s.heap news) (hj : J 0 m₀ news)
    (turn : ∀ i v m₁ news₁ h tk own I oI, vs[i]? = some v → J i m₁ news₁ → (I, oI) ∈ own → (∀ p ∈ own, p.1 = I) → (∀ p ∈ news₁, p.1 ≠ I) → Fr h₀ env.locals h (fun y => if y = x then some v else m₁ y) → News h₀ env.locals h (news₁ ++ own) →
      wpAny (model prog w) A (execs body env) (LoopStepV h₀ env.locals [I] own (J (i + 1)) { s with heap := h, toks := tk } (fun v s' => Q (.ret v) s') fun s' => Q .next s') E { s with heap := h, toks := tk })
    (done : ∀ m₁ news₁ h tk, J vs.length m₁ news₁ → Fr h₀ env.locals h m₁ → News h₀ env.locals h news₁ → Q .next { s with heap := h, toks := tk }) :
    wpAny (model prog w) A (pyIter (.ref l)) (fun it s₂ => LoopAtV prog w A h₀ env x body Q E it s₂) E s := by
  have hls : s.heap.IsList l vs.toArray := hl.at fun o e => F.keep l o e
  obtain ⟨ol, hol, _⟩ := id hl
  have hlt : l < h₀.objs.size := Heap.lt_size hol
  have hne : l ≠ s.heap.objs.size := Nat.ne_of_lt (Nat.lt_trans (Nat.lt_of_lt_of_le hlt F.above) F.ns.lt)
  refine wpAny_pyIter_list hls ?_
  have hnI : ∀ p ∈ news, p.1 ∉ [s.heap.objs.size] := fun p hp hI => absurd (Heap.lt_size (N p hp).1) ((List.mem_singleton.mp hI) ▸ Nat.lt_irrefl _)
  refine ⟨s.heap.objs.size, [s.heap.objs.size, l], [s.heap.objs.size], vs.toArray.size, _, _, m₀, news, J, rfl, Walks.list (prog := prog) (w := w) hh s.heap.objs.size l hne vs.toArray, ?_, ?_, hnI, ⟨⟨_, Heap.get?_push_size _ rfl, rfl, rfl⟩, hls.at fun o e => Heap.get?_push_of_some _ e⟩, F.push _, (fun p hp => ⟨Heap.get?_push_of_some _ (N p hp).1, (N p hp).2⟩), hj, ?_, ?_⟩
  · intro hx
    rcases List.mem_cons.mp hx with e | hx
    · exact absurd F.ns.lt (e ▸ Nat.lt_irrefl _)
    · exact absurd (Nat.lt_of_lt_of_le hlt F.above) ((List.mem_singleton.mp hx) ▸ Nat.lt_irrefl _)
  · intro b hb
    rw [List.mem_singleton.mp hb]
    exact next_is_new F
  · rintro i v m₁ news₁ s₁ own ⟨h, tk, rfl⟩ hi hv hJ hnw hof hog hin hst F₁ N₁
    have hnone : h₀.get? s.heap.objs.size = none := next_is_new F
    obtain ⟨oI, hoI, _⟩ := hst.1
    refine turn i v m₁ news₁ h tk own s.heap.objs.size oI (by simpa using hv) hJ (hin _ (.head _) hnone _ hoI) ?_ (fun p hp e => hnw p hp (e ▸ .head _)) F₁ (fun p hp => N₁ p ?_)
    · intro p hp
      rcases List.mem_cons.mp (hof p hp) with e | e
      · exact e
      · have := (N₁ p (List.mem_append.mpr (.inl hp))).2.2
        rw [List.mem_singleton.mp e, hol] at this
        cases this
    · rcases List.mem_append.mp hp with hp | hp
      · exact List.mem_append.mpr (.inr hp)
      · exact List.mem_append.mpr (.inl hp)
  · intro h' tk m' news' F' N' _ hJ
    exact done m' news' h' tk (by simpa using hJ) F' N'
def menu (i : Int) : PySem.Str := ([PySem.Str.ofString "", PySem.Str.ofString "x", PySem.Str.ofString "\"", PySem.Str.ofString "\\", PySem.Str.ofString ",", PySem.Str.ofString " "][i.toNat]?).getD (PySem.Str.ofString "")
theorem menu_item {prog : Program} {w : World} {A : Around} {E : Value → Shared → Prop} {s : Shared} {value slice : PySem.Expr} {l : Addr} {k : Int} {u t0 t1 t2 t3 t4 t5 : Tok} {Q : Value → Shared → Prop}
    (hl : s.heap.IsList l #[.str (PySem.Str.ofString "") t0, .str (PySem.Str.ofString "x") t1, .str (PySem.Str.ofString "\"") t2, .str (PySem.Str.ofString "\\") t3, .str (PySem.Str.ofString ",") t4, .str (PySem.Str.ofString " ") t5]) (h0 : 0 ≤ k) (h6 : k < 6)
    (h : ∀ t, Q (.str (menu k) t) s)
    (hs : subscripted slice false (.ref l) (.int k u) = operate [.ref l, .int k u] (getItem (.ref l) (.int k u)) := by with_unfolding_all rfl) (hg : ∀ r, letTemporaryGo value (.ref l) r = pure () := by intro _; with_unfolding_all rfl) :
    wpAny (model prog w) A (subscriptTail value slice (.ref l) (.int k u)) Q E s := by
  have : k = 0 ∨ k = 1 ∨ k = 2 ∨ k = 3 ∨ k = 4 ∨ k = 5 := by omega
  have key : ∃ t, (#[Value.str (PySem.Str.ofString "") t0, .str (PySem.Str.ofString "x") t1, .str (PySem.Str.ofString "\"") t2, .str (PySem.Str.ofString "\\") t3, .str (PySem.Str.ofString ",") t4, .str (PySem.Str.ofString " ") t5])[k.toNat]? = some (.str (menu k) t) := by
    rcases this with rfl | rfl | rfl | rfl | rfl | rfl
    · exact ⟨t0, rfl⟩
    · exact ⟨t1, rfl⟩
    · exact ⟨t2, rfl⟩
    · exact ⟨t3, rfl⟩
    · exact ⟨t4, rfl⟩
    · exact ⟨t5, rfl⟩
  obtain ⟨t, ht⟩ := key
  exact subscriptTail_builtin hl.typeIs slot_list_getitem.lookup (wpAny_getItem_list hl h0 (by omega) ht (h t)) hs hg
theorem frame_two {h₀ h : Heap} {L : Addr} {m : PySem.Str → Option Value} {x y : PySem.Str} {v u : Value} (F : Fr h₀ L h (fun z => if z = x then some v else m z)) (hm : m y = some u) : Fr h₀ L h (fun z => if z = x then some v else if z = y then some u else m z) := by
  have e : (fun z => if z = x then some v else if z = y then some u else m z) = fun z => if z = x then some v else m z := by
    funext z
    by_cases h1 : z = x
    · rw [if_pos h1, if_pos h1]
    · rw [if_neg h1, if_neg h1]
      by_cases h2 : z = y
      · rw [if_pos h2, h2, hm]
      · rw [if_neg h2]
  rw [e]; exact F
theorem frame_at' {h₀ h : Heap} {L : Addr} {m : PySem.Str → Option Value} {x : PySem.Str} {v : Value} (F : Fr h₀ L h m) (hm : m x = some v) : Fr h₀ L h (fun y => if y = x then some v else m y) := by
  have e : (fun y => if y = x then some v else m y) = m := by
    funext y
    by_cases h : y = x
    · rw [if_pos h, h, hm]
    · rw [if_neg h]
  rw [e]; exact F
theorem rest_03 {n : Int} (h1 : n.fmod 4 ≠ 1) (h2 : n.fmod 4 ≠ 2) : n.fmod 4 = 0 ∨ n.fmod 4 = 3 := by
  have h3 : 0 ≤ n.fmod 4 := Int.fmod_nonneg_of_pos _ (by decide)
  have h4 : n.fmod 4 < 4 := Int.fmod_lt_of_pos _ (by decide)
  omega
theorem ints_at {vs : List Value} {ns : List Int} (h : IntsAre vs ns) {i : Nat} {v : Value} (hv : vs[i]? = some v) : ∃ n t, v = .int n t := by
  have hlt : i < vs.length := (List.getElem?_eq_some_iff.mp hv).1
  have hl := h.length
  obtain ⟨t, ht⟩ := h.get i (ns[i]'(by omega)) (by simp)
  rw [ht] at hv
  exact ⟨_, t, (Option.some.inj hv).symm⟩
/-- a text of the tree's: short, without an equals sign -/
def Okt (x : PySem.Str) : Prop := x.length ≤ 2 ∧ ∀ c ∈ x.cps.toList, c ≠ 61
theorem okt_menu {k : Int} (h0 : 0 ≤ k) (h6 : k < 6) : Okt (menu k) := by
  have : k = 0 ∨ k = 1 ∨ k = 2 ∨ k = 3 ∨ k = 4 ∨ k = 5 := by omega
  rcases this with rfl | rfl | rfl | rfl | rfl | rfl <;> exact ⟨by decide +kernel, by decide +kernel⟩
def eOf (e : Option (PySem.Str × Tok)) : List (PySem.Str × Value) := match e with | none => [] | some (y, u) => [(PySem.Str.ofString "e", .str y u)]
def kvsA (a : PySem.Str) (t : Tok) (B : Addr) (e : Option (PySem.Str × Tok)) : List (PySem.Str × Value) := (PySem.Str.ofString "a", .str a t) :: (PySem.Str.ofString "b", .ref B) :: eOf e
def kvsB (c : PySem.Str) (t : Tok) (D : Addr) : List (PySem.Str × Value) := [(PySem.Str.ofString "c", .str c t), (PySem.Str.ofString "a", .ref D)]
/-- the tree, in the ledger -/
def TJ (w : World) (m : PySem.Str → Option Value) (nx : List (Addr × Obj)) : Prop :=
  ∃ (A B D : Addr) (oA oB oD : Obj) (t1 t2 t3 : Tok) (a c d : PySem.Str) (e : Option (PySem.Str × Tok)), nx = [(D, oD), (B, oB), (A, oA)] ∧ m (PySem.Str.ofString "tree") = some (.ref A) ∧ (A == sysModules) = false ∧ (B == sysModules) = false ∧ (D == sysModules) = false ∧
    oA.IsDictOf (PySem.strKind PySem.Challenge.rw_pe0068_01.row.prog w) (kvsA a t1 B e) ∧
    oB.IsDictOf (PySem.strKind PySem.Challenge.rw_pe0068_01.row.prog w) (kvsB c t2 D) ∧
    oD.IsDictOf (PySem.strKind PySem.Challenge.rw_pe0068_01.row.prog w) [(PySem.Str.ofString "d", .str d t3)] ∧ Okt a ∧ Okt c ∧ Okt d ∧ (∀ p, e = some p → Okt p.1)
theorem tj_start {w : World} {m : PySem.Str → Option Value} {A B D : Addr} {oA oB oD : Obj} {t1 t2 t3 u1 u2 u3 u4 u5 : Tok} (hm : m (PySem.Str.ofString "tree") = some (.ref A)) (sA : (A == sysModules) = false) (sB : (B == sysModules) = false) (sD : (D == sysModules) = false)
    (dA : oA.IsDictOf (PySem.strKind PySem.Challenge.rw_pe0068_01.row.prog w) (strPairs [(.str (PySem.Str.ofString "a") u1, .str (PySem.Str.ofString "x") t1), (.str (PySem.Str.ofString "b") u2, .ref B)]))
    (dB : oB.IsDictOf (PySem.strKind PySem.Challenge.rw_pe0068_01.row.prog w) (strPairs [(.str (PySem.Str.ofString "c") u3, .str (PySem.Str.ofString "y") t2), (.str (PySem.Str.ofString "a") u4, .ref D)]))
    (dD : oD.IsDictOf (PySem.strKind PySem.Challenge.rw_pe0068_01.row.prog w) (strPairs [(.str (PySem.Str.ofString "d") u5, .str (PySem.Str.ofString "\"\\") t3)])) : TJ w m [(D, oD), (B, oB), (A, oA)] :=
  ⟨A, B, D, oA, oB, oD, t1, t2, t3, _, _, _, none, rfl, hm, sA, sB, sD, dA, dB, dD, ⟨by decide +kernel, by decide +kernel⟩, ⟨by decide +kernel, by decide +kernel⟩, ⟨by decide +kernel, by decide +kernel⟩, fun p h => nomatch h⟩
theorem stored_b (a : PySem.Str) (t : Tok) (B B' : Addr) (e : Option (PySem.Str × Tok)) : stored (kvsA a t B e) (PySem.Str.ofString "b") (.ref B') = kvsA a t B' e := by
  cases e with
  | none => rfl
  | some p => rfl
theorem stored_a (a x : PySem.Str) (t u : Tok) (B : Addr) (e : Option (PySem.Str × Tok)) : stored (kvsA a t B e) (PySem.Str.ofString "a") (.str x u) = kvsA x u B e := by
  cases e with
  | none => rfl
  | some p => rfl
theorem stored_e (a x : PySem.Str) (t u : Tok) (B : Addr) (e : Option (PySem.Str × Tok)) : stored (kvsA a t B e) (PySem.Str.ofString "e") (.str x u) = kvsA a t B (some (x, u)) := by
  cases e with
  | none => rfl
  | some p => rfl
theorem stored_c (c x : PySem.Str) (t u : Tok) (D : Addr) : stored (kvsB c t D) (PySem.Str.ofString "c") (.str x u) = kvsB x u D := rfl
theorem stored_ba (c : PySem.Str) (t : Tok) (D D' : Addr) : stored (kvsB c t D) (PySem.Str.ofString "a") (.ref D') = kvsB c t D' := rfl
theorem value_b (a : PySem.Str) (t : Tok) (B : Addr) (e : Option (PySem.Str × Tok)) : valueAt (kvsA a t B e) (PySem.Str.ofString "b") = some (.ref B) := rfl
theorem kvsA_len (a : PySem.Str) (t : Tok) (B : Addr) (e : Option (PySem.Str × Tok)) : (kvsA a t B e).length ≤ 3 := by cases e <;> simp [kvsA, eOf]
theorem news_one {h₀ h h' : Heap} {L b : Addr} {m : PySem.Str → Option Value} {o : Obj} (F : Fr h₀ L h m) (hb : h.objs.size ≤ b) (ho : h'.get? b = some o) : h'.get? b = some o ∧ b ≠ L ∧ h₀.get? b = none := by
  have hL := F.ns.lt
  refine ⟨ho, ?_, ?_⟩
  · rintro rfl; exact absurd hL (Nat.not_lt.mpr hb)
  · cases q : h₀.get? b with
    | none => rfl
    | some o' => exact absurd (Heap.lt_size (F.keep _ _ q)) (Nat.not_lt.mpr hb)
theorem tree_end {w : World} {h₀ h' : Heap} {L I : Addr} {m' : PySem.Str → Option Value} {own news : List (Addr × Obj)} {A B D : Addr} {oA oB oD : Obj} {t1 t2 t3 : Tok} {a c d : PySem.Str} {e : Option (PySem.Str × Tok)} {s₁ : Shared} {tk : Nat}
    (F : Fr h₀ L h' m') (N : News h₀ L h' news) (hN : ∀ p ∈ own ++ [(D, oD), (B, oB), (A, oA)], p ∈ news) (hm : m' (PySem.Str.ofString "tree") = some (.ref A)) (sA : (A == sysModules) = false) (sB : (B == sysModules) = false) (sD : (D == sysModules) = false)
    (hA : oA.IsDictOf (PySem.strKind PySem.Challenge.rw_pe0068_01.row.prog w) (kvsA a t1 B e)) (hB : oB.IsDictOf (PySem.strKind PySem.Challenge.rw_pe0068_01.row.prog w) (kvsB c t2 D)) (hD : oD.IsDictOf (PySem.strKind PySem.Challenge.rw_pe0068_01.row.prog w) [(PySem.Str.ofString "d", .str d t3)])
    (oa : Okt a) (oc : Okt c) (od : Okt d) (oe : ∀ p, e = some p → Okt p.1) (iA : A ≠ I) (iB : B ≠ I) (iD : D ≠ I) : LoopStepU h₀ L [I] own (TJ w) s₁ .next { s₁ with heap := h', toks := tk } := by
  refine LoopStepU.intro (news₂ := [(D, oD), (B, oB), (A, oA)]) F (fun p hp => N p (hN p hp)) ?_ ?_
  · intro p hp hI
    have hI := List.mem_singleton.mp hI
    simp only [List.mem_cons, List.not_mem_nil, or_false] at hp
    rcases hp with rfl | rfl | rfl
    · exact iD hI
    · exact iB hI
    · exact iA hI
  · exact ⟨A, B, D, oA, oB, oD, t1, t2, t3, a, c, d, e, rfl, hm, sA, sB, sD, hA, hB, hD, oa, oc, od, oe⟩
theorem news_new3 {h₀ h h' : Heap} {L b1 b2 : Addr} {m : PySem.Str → Option Value} {o1 o2 : Obj} {q : Addr × Obj} {news own : List (Addr × Obj)} (F : Fr h₀ L h m) (N : News h₀ L h news) (hk : Kp h h') (l1 : h.objs.size ≤ b1) (g1 : h'.get? b1 = some o1) (l2 : h.objs.size ≤ b2) (g2 : h'.get? b2 = some o2)
    (hq : q ∈ news) (ho : ∀ p ∈ own, p ∈ news) : News h₀ L h' ((b1, o1) :: (b2, o2) :: q :: own) := by
  intro p hp
  rcases List.mem_cons.mp hp with rfl | hp
  · exact news_one F l1 g1
  · rcases List.mem_cons.mp hp with rfl | hp
    · exact news_one F l2 g2
    · rcases List.mem_cons.mp hp with rfl | hp
      · exact ⟨hk _ _ (N _ hq).1, (N _ hq).2⟩
      · exact ⟨hk _ _ (N _ (ho p hp)).1, (N _ (ho p hp)).2⟩
local macro_rules | `(tactic| walk_at "no such key 0") => `(tactic| skip)
local macro_rules | `(tactic| walk_at "LoopStepU") => `(tactic| with_reducible refine Stop.mk ?_)
theorem tree_c {w : World} {lo : List PySem.Str} {mean : ExcName → Option Value} {mg mb : PySem.Str → Option Value} {dp un : Nat} {fr : Option (List Env)} {gd : Option (List Code)} {s : Shared} {l : Addr} {vs : List Value} {ns : List Int} {Q E : Value → Shared → Prop}
    (X : (hd68.heap_39 w.params).In s.heap) (T : Top topProg lo mean mg mb s.heap) (hd : dp + 5 < recursionLimit) (hl : s.heap.IsList l vs.toArray) (hI : IntsAre vs ns)
    (ret : ∀ m nx h' tk', TJ w m nx → (∀ p ∈ nx, h'.get? p.1 = some p.2 ∧ s.heap.get? p.1 = none) → Kp s.heap h' → ∀ v, m (PySem.Str.ofString "tree") = some v → Q v { s with heap := h', toks := tk' }) :
    wpAny (model PySem.Challenge.rw_pe0068_01.row.prog w) (Ar dp un fr gd) (call (.ref 63) [.ref l]) Q E s := by
  revert X; k_fill; intro X
  k_with_none
  w_top off
  (k_with "pyIter ref" => with_reducible refine Stop.mk ?_)
  refine' enter0 X T ?k6 ?k7 ?k8 ?k9 ?kB ?_ ?c2 ?c3 ?c4 ?c5
  (case k6 => k_is)
  (case k7 => k_is)
  (case k8 => show dp < _; omega)
  (case k9 => exact BindsTo.of_eq rfl)
  (case kB => exact locs rfl)
  (case c2 => exact rfl)
  (case c3 => exact rfl)
  (case c4 => exact rfl)
  (case c5 => decide)
  intro L' h₁ tk F' N'
  have hints : ∀ (i : Nat) v, vs[i]? = some v → ∃ n t, v = .int n t := fun i v h => ints_at hI h
  (try dsimp only); (try k_fold)
  k_steps
  unfold Stop
  rename Fr _ _ _ _ => lF'
  rename News _ _ _ _ => lN'
  (with_unfolding_all refine' list_loopV (fun _ m nx => TJ w m nx) (by rfl) hl lF' lN' ?_ ?_ ?_)
  · exact tj_start rfl (by assumption) (by assumption) (by assumption) (by assumption) (by assumption) (by assumption)
  · clear lF' lN' ret
    rintro i v m₁ news₁ h tk own I oI hv ⟨A, B, D, oA, oB, oD, t1, t2, t3, a, c, d, e, rfl, hm, hA, hB, hD, dA, dB, dD, oa, oc, od, oe⟩ hI1 hI2 hI3 F' N'
    obtain ⟨n, t, rfl⟩ : ∃ n t, v = .int n t := hints i v hv
    have F' := frame_two F' hm
    rename Fr _ _ _ _ => F'
    have hk0 : 0 ≤ (n.fdiv 4).fmod 6 := Int.fmod_nonneg_of_pos _ (by decide)
    have hk6 : (n.fdiv 4).fmod 6 < 6 := Int.fmod_lt_of_pos _ (by decide)
    dsimp only [List.cons_append, List.nil_append] at N'
    k_steps
    rename News _ _ _ _ => cN
    refine menu_item ⟨_, (cN _ (.head _)).1, rfl, _, rfl⟩ hk0 hk6 ?_
    intro t'
    have okx := okt_menu hk0 hk6
    generalize menu ((n.fdiv 4).fmod 6) = tx at okx
    dsimp only
    k_steps
    all_goals (
      rename Fr _ _ _ _ => cF
      rename News _ _ _ _ => cN2
      have hlow := modules_low (T.nolimit.keeps cF.keep)
      have eA := Heap.dictOf_iff.mpr ⟨oA, (cN2 (A, oA) (.tail _ (.tail _ (.tail _ (.head _))))).1, dA⟩
      have eB := Heap.dictOf_iff.mpr ⟨oB, (cN2 (B, oB) (.tail _ (.tail _ (.head _)))).1, dB⟩
      have iI := Heap.lt_size (cN2 (I, oI) (.tail _ (.tail _ (.tail _ (.tail _ hI1))))).1)
    · refine disp1 cF rfl rfl rfl rfl rfl eA eB hA hB (Nat.le_trans (kvsA_len _ _ _ _) (by decide)) (by show 2 ≤ 100; decide) (value_b _ _ _ _) hlow ?_
      intro B' h' tk' hlt hdA hdB hkp
      rw [stored_b] at hdA
      rw [stored_c] at hdB
      obtain ⟨oA', gA, dA'⟩ := Heap.dictOf_iff.mp hdA
      obtain ⟨oB', gB, dB'⟩ := Heap.dictOf_iff.mp hdB
      have N2 : News s.heap L' h' ((B', oB') :: (_, oA') :: (D, oD) :: own) := news_new3 cF cN2 hkp (Nat.le_of_lt hlt) gB (Nat.le_refl _) gA (.tail _ (.head _)) (fun p hp => .tail _ (.tail _ (.tail _ (.tail _ hp))))
      have F2 := cF.keeps hkp
      clear cF cN2
      dsimp only
      k_steps
      unfold Stop
      exact tree_end (by assumption) (by assumption) (fun p hp => (List.mem_append.mp hp).elim (fun h => .tail _ (.tail _ (.tail _ h))) fun h => by
          simp only [List.mem_cons, List.not_mem_nil, or_false] at h
          rcases h with rfl | rfl | rfl
          · exact .tail _ (.tail _ (.head _))
          · exact .head _
          · exact .tail _ (.head _)) rfl (beq_eq_false_iff_ne.mpr (Nat.ne_of_gt hlow)) (beq_eq_false_iff_ne.mpr (Nat.ne_of_gt (Nat.lt_trans hlow hlt))) hD dA' dB' dD oa okx od oe (Nat.ne_of_gt iI) (Nat.ne_of_gt (Nat.lt_trans iI hlt)) (hI3 _ (.head _))
    · refine disp2 cF rfl rfl rfl rfl rfl eA eB hA hB (Nat.le_trans (kvsA_len _ _ _ _) (by decide)) (by show 2 ≤ 100; decide) (value_b _ _ _ _) hlow ?_
      intro B' D' h' tk' hlt hlt2 hdA hdB hdD hkp
      rw [stored_b] at hdA
      rw [stored_ba] at hdB
      obtain ⟨oA', gA, dA'⟩ := Heap.dictOf_iff.mp hdA
      obtain ⟨oB', gB, dB'⟩ := Heap.dictOf_iff.mp hdB
      obtain ⟨oD', gD, dD'⟩ := Heap.dictOf_iff.mp hdD
      have N2 : News s.heap L' h' ((D', oD') :: (B', oB') :: (_, oA') :: own) := fun p hp => by
        rcases List.mem_cons.mp hp with rfl | hp
        · exact news_one cF (Nat.le_of_lt (Nat.lt_trans hlt hlt2)) gD
        · exact news_new3 cF cN2 hkp (Nat.le_of_lt hlt) gB (Nat.le_refl _) gA (.tail _ (.head _)) (fun p hp => .tail _ (.tail _ (.tail _ (.tail _ hp)))) p ((List.mem_cons.mp hp).elim (fun h => h ▸ .head _) fun hp => (List.mem_cons.mp hp).elim (fun h => h ▸ .tail _ (.head _)) fun h => .tail _ (.tail _ (.tail _ h)))
      have F2 := cF.keeps hkp
      clear cF cN2
      dsimp only
      k_steps
      unfold Stop
      exact tree_end (by assumption) (by assumption) (fun p hp => (List.mem_append.mp hp).elim (fun h => .tail _ (.tail _ (.tail _ h))) fun h => by
          simp only [List.mem_cons, List.not_mem_nil, or_false] at h
          rcases h with rfl | rfl | rfl
          · exact .head _
          · exact .tail _ (.head _)
          · exact .tail _ (.tail _ (.head _))) rfl (beq_eq_false_iff_ne.mpr (Nat.ne_of_gt hlow)) (beq_eq_false_iff_ne.mpr (Nat.ne_of_gt (Nat.lt_trans hlow hlt))) (beq_eq_false_iff_ne.mpr (Nat.ne_of_gt (Nat.lt_trans hlow (Nat.lt_trans hlt hlt2)))) dA' dB' dD' oa oc okx oe (Nat.ne_of_gt iI) (Nat.ne_of_gt (Nat.lt_trans iI hlt)) (Nat.ne_of_gt (Nat.lt_trans iI (Nat.lt_trans hlt hlt2)))
    · refine disp3 cF rfl rfl rfl rfl rfl rfl rfl (rest_03 (by assumption) (by assumption)) eA hA (Nat.le_trans (kvsA_len _ _ _ _) (by decide)) hlow ?_
      intro kk h' tk' hkk hdA hkp
      have F2 := cF.keeps hkp
      have key : ∃ a' t1' e', Okt a' ∧ (∀ p, e' = some p → Okt p.1) ∧ stored (kvsA a t1 B e) kk (.str tx t') = kvsA a' t1' B e' := by
        rcases hkk with ⟨_, rfl⟩ | ⟨_, rfl⟩
        · exact ⟨tx, t', e, okx, oe, stored_a _ _ _ _ _ _⟩
        · exact ⟨a, t1, some (tx, t'), oa, fun p hp => by cases hp; exact okx, stored_e _ _ _ _ _ _⟩
      obtain ⟨a', t1', e', oa', oe', hst⟩ := key
      rw [hst] at hdA
      obtain ⟨oA', gA, dA'⟩ := Heap.dictOf_iff.mp hdA
      have N2 : News s.heap L' h' ((_, oA') :: (D, oD) :: (B, oB) :: own) := fun p hp => by
        rcases List.mem_cons.mp hp with rfl | hp
        · exact news_one cF (Nat.le_refl _) gA
        · have hp' : p ∈ (_ : List (Addr × Obj)) := hp
          have hin : p ∈ (D, oD) :: (B, oB) :: own := hp
          rcases List.mem_cons.mp hin with rfl | hin
          · exact ⟨hkp _ _ (cN2 _ (.tail _ (.head _))).1, (cN2 (D, oD) (.tail _ (.head _))).2⟩
          · rcases List.mem_cons.mp hin with rfl | hin
            · exact ⟨hkp _ _ (cN2 _ (.tail _ (.tail _ (.head _)))).1, (cN2 (B, oB) (.tail _ (.tail _ (.head _)))).2⟩
            · exact ⟨hkp _ _ (cN2 p (.tail _ (.tail _ (.tail _ (.tail _ hin))))).1, (cN2 p (.tail _ (.tail _ (.tail _ (.tail _ hin))))).2⟩
      clear cF cN2
      dsimp only
      k_steps
      unfold Stop
      exact tree_end (by assumption) (by assumption) (fun p hp => (List.mem_append.mp hp).elim (fun h => .tail _ (.tail _ (.tail _ h))) fun h => by
          simp only [List.mem_cons, List.not_mem_nil, or_false] at h
          rcases h with rfl | rfl | rfl
          · exact .tail _ (.head _)
          · exact .tail _ (.tail _ (.head _))
          · exact .head _) rfl (beq_eq_false_iff_ne.mpr (Nat.ne_of_gt hlow)) hB hD dA' dB dD oa' oc od oe' (Nat.ne_of_gt iI) (hI3 _ (.tail _ (.head _))) (hI3 _ (.head _))
  · clear lF' lN'
    intro m₁ news₁ h tk hJ F' N'
    obtain ⟨A, hm⟩ : ∃ A, m₁ (PySem.Str.ofString "tree") = some (.ref A) := by
      obtain ⟨A, _, _, _, _, _, _, _, _, _, _, _, _, _, hm, _⟩ := hJ
      exact ⟨A, hm⟩
    have F2 := frame_at' F' hm
    have hN : ∀ p ∈ news₁, h.get? p.1 = some p.2 ∧ s.heap.get? p.1 = none := fun p hp => ⟨(N' p hp).1, (N' p hp).2.2⟩
    clear F' N'
    rename Fr _ _ _ _ => F2
    have hkeep := F2.keep
    dsimp only
    k_steps
    exact ret m₁ news₁ _ _ hJ hN hkeep _ hm
end Mine
set_option maxHeartbeats 8000000
namespace Mine
open PySem.Calls PySem.Spec PyProof.V
section hide
variable {h h₀ h₁ h' : Heap} {L : Addr} {m : PySem.Str → Option Value} {as : List Addr} {news ms : List (Addr × Obj)}
theorem hide_fr (F : Fr h L h₁ m) : Fr (hideAll h as) L h₁ m := ⟨F.ns, fun b o e => F.keep b o (of_hideAll _ e), Nat.le_trans (Nat.le_of_eq (hideAll_size _ _)) F.above⟩
theorem hide_news (F : Fr h L h₁ m) (N : News h L h₁ news) (hm : ∀ p ∈ ms, h.get? p.1 = some p.2) : News (hideAll h (ms.map (·.1))) L h₁ (news ++ ms) := fun p hp => by
  rcases List.mem_append.mp hp with hp | hp
  · refine ⟨(N p hp).1, (N p hp).2.1, ?_⟩
    cases q : (hideAll h (ms.map (·.1))).get? p.1 with
    | none => rfl
    | some o => have := (N p hp).2.2; rw [of_hideAll _ q] at this; cases this
  · exact ⟨F.keep _ _ (hm p hp), Nat.ne_of_lt (Nat.lt_of_lt_of_le (Heap.lt_size (hm p hp)) F.above), hideAll_none _ (List.mem_map_of_mem hp)⟩
theorem hide_sub (hs : Kp h₀ h) (hn : ∀ a ∈ as, h₀.get? a = none) : Kp h₀ (hideAll h as) := fun b o e =>
  hideAll_get _ (hs b o e) fun q => by rw [hn b q] at e; cases e
theorem hide_up (F : Fr (hideAll h as) L h₁ m) : ∀ b o, b ∉ as → h.get? b = some o → h₁.get? b = some o := fun b o hb e => F.keep b o (hideAll_get _ e hb)
end hide
theorem peekA_wp {α : Type} {K : Frag} {M : Model} {A : Around} {E : Value → Shared → Prop} {Q : α → Shared → Prop} {s : Shared} {o : Obj} (X : K.In s.heap) :
    ∀ (t : Sem α) (g : Addr → Sem α), peekA K ⟨M.prog, M.w.params⟩ t = some (o, g) → wpAny M A (g s.heap.objs.size) Q E { s with heap := s.heap.push o } → wpAny M A t Q E s := by
  intro t
  induction t with
  | rule _ k ih => intro g e q Γ p hΓ; exact ih () g e q Γ p hΓ
  | point _ k ih => intro g e q Γ p hΓ; exact ih () g e q Γ p hΓ
  | ask k ih => intro g e q Γ p hΓ; exact ih _ g e q Γ p hΓ
  | load a _ k ih =>
    intro g e q Γ p hΓ
    simp only [peekA] at e
    split at e
    · rename_i ob ho; exact ⟨ob, X _ _ ho, ih ob g e q Γ p hΓ⟩
    · cases e
  | alloc ob k _ =>
    intro g e q
    have e : some (ob, k) = some (o, g) := e
    obtain ⟨e1, e2⟩ := Prod.mk.inj (Option.some.inj e)
    subst e1
    subst e2
    exact wpAny_bind (m := alloc ob) (wpAny_alloc q)
  | _ => intro g e; cases e
section
variable {prog : Program} {w : World} {A : Around} {E : Value → Shared → Prop} {s : Shared}
theorem nsSet_fresh {d : Addr} {k : PySem.Str} {v : Value} {Q : Unit → Shared → Prop} (D : s.heap.get? d = some (dictOf [] 0))
    (h : ∀ h', h'.get? d = some (dictOf [⟨PyData.keyHash w.params k, .str k s.toks, v⟩] 1) → Heap.SameBut d s.heap h' → Q () { s with heap := h', toks := s.toks + 1 }) :
    wpAny (model prog w) A (nsSet d k v) Q E s := by
  have e : Obj.putName k (PyData.keyHash w.params k) (.str k s.toks) v (dictOf [] 0) = dictOf [⟨PyData.keyHash w.params k, .str k s.toks, v⟩] 1 := by
    rw [putName_dict]; rfl
  have c : aRefKeyMayBeTheName k ([] : List DictEntry).toArray = false := by rfl
  unfold nsSet
  refine wpAny_bind (wpAny_bind (wpAny_askSetting (wpAny_pure (wpAny_bind (wpAny_mkText (wpAny_bind (wpAny_loadPart D ?_)))))))
  dsimp only
  rw [c]
  refine wpAny_updatePart D (h _ ?_ (Heap.SameBut.update ..))
  have := Heap.get?_update_self (Obj.putName k (PyData.keyHash w.params k) (.str k s.toks) v) D (by rw [e]; rfl)
  rw [e] at this
  exact this
theorem enterKw {K : Frag} {p : Program} {loose : List PySem.Str} {mean : ExcName → Option Value} {mg mb : PySem.Str → Option Value} {Q E : Value → Shared → Prop} {name qual : PySem.Str} {params : Arguments} {body : List Stmt} {scope : Scope} {dV kV doc pm cdv ct oc : Value} {an od : Option Addr} {osl : Array (Option Value)} {f : Addr} {args : List Value}
    {nm k : PySem.Str} {u : Value} {front : List (PySem.Str × Value)} {g₁ : Addr → Sem (List (PySem.Str × Value))}
    (X : K.In s.heap) (T : Top p loose mean mg mb s.heap)
    (ho : K.lookup f = some ⟨oc, od, .func (fnOf name qual params body scope dV kV doc pm an cdv ct), osl⟩) (hcd : codeIn K cdv qual = true) (hroom : A.depth < recursionLimit)
    (hp : peekA K ⟨prog, w.params⟩ (bindArgs (fnOf name qual params body scope dV kV doc pm an cdv ct) ⟨args, [(k, u)]⟩) = some (dictOf [] 0, g₁))
    (hk₁ : ∀ D, g₁ D = (forIn [(k, u)] PUnit.unit (fun x _ => (nsSet D x.1 x.2 >>= fun _ => pure (ForInStep.yield PUnit.unit))) >>= fun _ => pure (front ++ [(nm, Value.ref D)])))
    (hloc : ∀ D, ∀ y ∈ front ++ [(nm, Value.ref D)], scope.names.lookup y.1 = some .local)
    (h : ∀ D o L' h₁ tk, (D == sysModules) = false → o.IsDictOf (strKind prog w) [(k, u)] → Fr s.heap L' h₁ (fun y => (front ++ [(nm, Value.ref D)]).reverse.lookup y) → News s.heap L' h₁ [(D, o)] →
      wpAny (model prog w) (A.deeper (envOf qual scope L' f cdv)) (execs body (envOf qual scope L' f cdv))
        (fun fl s' => Q (match fl with | .ret v => v | _ => .none) s') (fun _ _ => False) { s with heap := h₁, toks := tk })
    (hco : scope.isCoroutine = false) (hgen : scope.isGenerator = false) (hk : scope.kind = .function)
    (hcell : ∀ x ∈ scope.names, x.2 ≠ .cell) : wpAny (model prog w) A (call (.ref f) args [(k, u)]) Q E s := by
  refine wpAny_call ?_
  refine codeAny_call_function (fd := fnOf name qual params body scope dV kV doc pm an cdv ct) (body := body) hroom (X _ _ ho) rfl hco hgen rfl (codeRec_of X hcd) ?_
  refine peekA_wp X _ g₁ hp ?_
  rw [hk₁, List.forIn_cons]
  refine wpAny_bind (wpAny_bind (wpAny_bind (nsSet_fresh (Heap.get?_push_size _ rfl) fun h' hg hs => wpAny_pure ?_)))
  dsimp only
  rw [List.forIn_nil]
  refine wpAny_pure (wpAny_pure ?_)
  have k1 : Kp s.heap h' := fun b o e => hs.extBut b o (Nat.ne_of_lt (Heap.lt_size e)) (Heap.get?_push_of_some _ e)
  have hD : s.heap.objs.size < h'.objs.size := Heap.lt_size hg
  refine wpAny_newFunctionEnv hcell (hloc _) (fun h₀ hns₀ hsb₀ => ⟨(T.nolimit.keeps k1).fresh _ hsb₀, codeAny_func ?_⟩) hk
  have k2 : Kp h' h₀ := fun b o e => hsb₀.extBut b o (Nat.ne_of_lt (Heap.lt_size e)) (Heap.get?_push_of_some _ e)
  have hlow := modules_low T.nolimit
  refine wpAny_mono (h s.heap.objs.size _ h'.objs.size h₀ _ (beq_eq_false_iff_ne.mpr (Nat.ne_of_gt hlow)) (kp_isDict (ex := [(k, u)]) s.toks 1 (by simp)) ⟨hns₀, fun b o e => k2 b o (k1 b o e), Nat.le_of_lt hD⟩ ?_) (fun fl s' hl => by cases fl <;> exact hl) (fun _ _ y => y.elim)
  intro q hq
  rw [List.mem_singleton.mp hq]
  exact ⟨k2 _ _ hg, Nat.ne_of_lt hD, Heap.get?_none_of_le (Nat.le_refl _)⟩
end
end Mine
set_option maxHeartbeats 8000000
namespace Mine
open PySem.Calls PySem.Spec PyProof.V
section
variable {prog : Program} {w : World} {A : Around} {E : Value → Shared → Prop} {s : Shared}
/-- a dict of one pair merged into an empty one, keys unique -/
theorem merge_uniq1 {d a : Addr} {k : PySem.Str} {v : Value} {Q : Unit → Shared → Prop} (hda : d ≠ a) (hS : (a == sysModules) = false) (hd : s.heap.DictOf (PySem.strKind prog w) d []) (ha : s.heap.DictOf (PySem.strKind prog w) a [(k, v)])
    (hQ : ∀ h', h'.DictOf (PySem.strKind prog w) d [(k, v)] → Heap.SameBut d s.heap h' → Q () { s with heap := h' }) :
    wpAny (model prog w) A (mergeMapping d (.ref a) true) Q E s := by
  obtain ⟨od, esd, epd, hod, hcd, hdd, hkd, hpd, hnd⟩ := id hd
  obtain ⟨oo, eso, epo, hoo, hco, hdo', hko, hpo, hno⟩ := id ha
  have hlen : eso.size = 1 := by have := hpo.length; simpa using this
  have hemp : esd = #[] := by
    have := hpd.length
    simpa using this
  obtain ⟨e, he⟩ : ∃ e, eso = #[e] := by
    obtain ⟨l⟩ := eso
    match l, hlen with
    | [e], _ => exact ⟨e, rfl⟩
  subst he
  subst hemp
  obtain ⟨hkey, hval⟩ := hpo.get? (i := 0) (e := e) (by simp) rfl
  obtain ⟨k', hkey', hhash⟩ := hko e (by simp)
  obtain rfl : k' = k := (PySem.strKind prog w).inj _ _ _ hkey' hkey
  obtain ⟨t, ht⟩ := Value.isStrOf_shape hkey
  unfold mergeMapping
  refine wpAny_bind (m := isInstance (.ref a) (.type "dict")) (wpAny_isInstance ha.typeIs F.sub_dict_dict ?_)
  simp only [if_true]
  refine wpAny_bind (m := specialOf (.ref a) (PySem.Str.ofString "__iter__")) (wpAny_specialOf ha.typeIs F.slot_dict_iter.lookup ?_)
  have hbeq : (some (Value.builtin "dict.__iter__") == some (Value.builtin "dict.__iter__")) = true := by decide
  rw [hbeq]
  refine wpAny_bind (wpAny_pure ?_)
  dsimp only
  rw [if_neg (by rw [hS]; exact Bool.false_ne_true)]
  refine wpAny_bind (wpAny_dictEntries hod hdd ?_)
  rw [if_pos (by rfl)]
  refine wpAny_bind (wpAny_dictEntries hoo hdo' ?_)
  rw [← Array.forIn_toList]
  simp only [List.forIn_cons, List.forIn_nil, ht]
  refine wpAny_bind (wpAny_bind (wpAny_pure ?_))
  dsimp only
  refine wpAny_pure ?_
  refine wpAny_bind (wpAny_dictEntries hoo hdo' ?_)
  refine wpAny_bind (wpAny_dictEpoch hoo hdo' ?_)
  have hr : List.range (#[e] : Array DictEntry).size = [0] := rfl
  rw [hr]
  simp only [List.forIn_cons, List.forIn_nil]
  refine wpAny_bind (wpAny_bind (wpAny_bind (wpAny_dictEntries hoo hdo' ?_)))
  have h0 : (#[e] : Array DictEntry)[0]? = some e := rfl
  rw [h0]
  dsimp only
  rw [hhash, hval]
  refine wpAny_bind (wpAny_holding ?_)
  refine wpAny_bind (wpAny_dictFind_of hkey hod hdd hkd ?_)
  have hnone : ((#[] : Array DictEntry).findIdx? fun e => (PySem.strKind prog w).is k' e.key) = none := by simp
  rw [hnone]
  simp only [Option.isSome_none, Bool.false_eq_true, if_false]
  refine put_pairs hkey hd (fun h'' hd'' hs'' => ?_) (by simp)
  have hoo'' : h''.get? a = some oo := (hs''.2 a (Ne.symm hda)).trans hoo
  refine wpAny_bind (wpAny_dictEpoch hoo'' hdo' ?_)
  rw [if_neg (by simp)]
  refine wpAny_pure ?_
  dsimp only
  refine wpAny_pure (wpAny_pure (hQ h'' hd'' hs''))
theorem keywords_in {f : Value} {d : Addr} {k : PySem.Str} {v : Value} {Q : List (PySem.Str × Value) → Shared → Prop} (hd : s.heap.DictOf (PySem.strKind prog w) d [(k, v)]) (hQ : Q [(k, v)] s) : wpAny (model prog w) A (keywordsIn f d) Q E s := by
  obtain ⟨oo, eso, epo, hoo, hco, hdo', hko, hpo, hno⟩ := id hd
  have hlen : eso.size = 1 := by have := hpo.length; simpa using this
  obtain ⟨e, he⟩ : ∃ e, eso = #[e] := by
    obtain ⟨l⟩ := eso
    match l, hlen with
    | [e], _ => exact ⟨e, rfl⟩
  subst he
  obtain ⟨hkey, hval⟩ := hpo.get? (i := 0) (e := e) (by simp) rfl
  obtain ⟨t, ht⟩ := Value.isStrOf_shape hkey
  unfold keywordsIn
  refine wpAny_bind (wpAny_dictEntries hoo hdo' ?_)
  rw [← Array.forIn_toList]
  simp only [List.forIn_cons, List.forIn_nil, ht, hval]
  refine wpAny_bind (wpAny_bind (wpAny_pure ?_))
  dsimp only
  exact wpAny_pure (wpAny_pure hQ)
/-- «f(x, **d)» -/
theorem callWith_dstar {f : Addr} {pos : Pos} {x y : Sem Value} {v u : Value} {k : PySem.Str} {a : Addr} {Q : Value → Shared → Prop}
    (hx : ∀ Q' : Value → Shared → Prop, Q' v s → wpAny (model prog w) A x Q' E s)
    (hy : ∀ (s' : Shared) (Q' : Value → Shared → Prop), Kp s.heap s'.heap → Q' (.ref a) s' → wpAny (model prog w) A y Q' E s')
    (ha : s.heap.DictOf (PySem.strKind prog w) a [(k, u)]) (hS : (a == sysModules) = false) (hf : FnAt f s.heap)
    (h : ∀ h' tk, Kp s.heap h' → wpAny (model prog w) A (call (.ref f) [v] [(k, u)]) Q E { s with heap := h', toks := tk }) :
    wpAny (model prog w) A (callWith pos (.ref f) [] [(false, x)] [(none, y)]) Q E s := by
  unfold callWith
  refine wpAny_bind (wpAny_holding ?_)
  unfold evalArgs
  show wpAny _ _ (spliced ((false, x) :: []) >>= _) _ _ _
  refine wpAny_bind (Calls.spliced_cons (hx _ (Calls.spliced_nil ?_)))
  refine wpAny_holding ?_
  have hall : ([((none : Option PySem.Str), y)].all (·.1.isSome)) = false := rfl
  simp only [hall, Bool.false_eq_true, if_false]
  refine wpAny_bind ?_
  unfold mergedKeywords
  refine wpAny_bind (wpAny_alloc ?_)
  have k1 : Kp s.heap (s.heap.push { cls := .type "dict", data := .dict #[] }) := fun b o e => Heap.get?_push_of_some _ e
  have hD : s.heap.objs.size ≠ a := by
    obtain ⟨o, _, _, ho, _⟩ := ha
    exact Nat.ne_of_gt (Heap.lt_size ho)
  refine wpAny_bind (wpAny_holding ?_)
  refine wpAny_bind ?_
  rw [List.forIn_cons]
  refine wpAny_bind ?_
  refine wpAny_bind (m := pure ()) (wpAny_pure ?_)
  refine wpAny_bind (hy _ _ k1 ?_)
  refine wpAny_bind (wpAny_onRaise (wpAny_holding (wpAny_tryCatch (wpAny_onRaise (merge_uniq1 hD hS (empty_dict (Heap.get?_push_size _ rfl)) (DictOf.up ha fun o e => k1 _ _ e) (fun hh2 hd2 hs2 => ?_))))))
  refine wpAny_pure ?_
  dsimp only
  rw [List.forIn_nil]
  refine wpAny_pure ?_
  refine wpAny_pure ?_
  refine wpAny_pure ?_
  have k2 : Kp s.heap hh2 := fun b o e => hs2.extBut b o (Nat.ne_of_lt (Heap.lt_size e)) (k1 b o e)
  refine wpAny_bind (wpAny_pure ?_)
  refine wpAny_bind (wpAny_holding (keywords_in hd2 (wpAny_pure ?_)))
  refine wpAny_bind (wpAny_standAt ?_)
  obtain ⟨oc, od, fd, sl, e⟩ := hf
  have LK : Looks (model prog w) hh2 (keeperOf (.ref f)) Keeper.frame := (Looks.ld (part := none) (k2 _ _ e)).andThen .now
  refine wpAny_bind (LK.here ?_)
  refine wpAny_bind (m := callMarked starredCall (Value.ref f) [v] [(k, u)]) ?_
  unfold callMarked
  refine Calls.wpAny_keep ?_
  exact wpAny_mono (h hh2 s.toks k2) (fun r s₂ hr => wpAny_bind (wpAny_holding (wpAny_point (wpAny_pure hr)))) fun _ _ x => x
end
end Mine
set_option maxHeartbeats 8000000
namespace Mine
open PySem.Calls PySem.Spec PyProof.V
theorem hide_none {h : Heap} {a b : Addr} (hne : b ≠ a) (hn : (hideAll h [a]).get? b = none) : h.get? b = none := by
  cases e : h.get? b with
  | none => rfl
  | some o => rw [hideAll_get _ e (fun q => hne (List.mem_singleton.mp q))] at hn; cases hn
abbrev tup2 (a b : Value) : Obj := { cls := .type "tuple", data := .seq #[a, b] }
theorem gni_none {w : World} {lo : List PySem.Str} {mean : ExcName → Option Value} {mg mb : PySem.Str → Option Value} {dp un : Nat} {fr : Option (List Env)} {gd : Option (List Code)} {s : Shared} {n x : PySem.Str} {t t' : Tok} {Q E : Value → Shared → Prop}
    (X : (hd68.heap_39 w.params).In s.heap) (T : Top topProg lo mean mg mb s.heap) (hd : dp + 5 < recursionLimit)
    (ret : ∀ p u h' tk', Kp s.heap h' → s.heap.get? p = none → h'.get? p = some (tup2 (.ref 37) (.str (PySem.Str.ofString "") u)) → Q (.ref p) { s with heap := h', toks := tk' }) :
    wpAny (model PySem.Challenge.rw_pe0068_01.row.prog w) (Ar dp un fr gd) (call (.ref 44) [.str n t, .none] [(PySem.Str.ofString "inside", .str x t')]) Q E s := by
  revert X; k_fill; intro X
  k_with_none
  w_top off
  refine' enterKw X T ?k6 ?k7 ?k8 ?kP ?kT ?kB ?_ ?c2 ?c3 ?c4 ?c5
  (case k6 => k_is)
  (case k7 => k_is)
  (case k8 => show dp < _; omega)
  (case kP => exact rfl)
  (case kT => exact fun _ => rfl)
  (case kB => exact fun _ => locs rfl)
  (case c5 => decide)
  (case c2 => exact rfl)
  (case c3 => exact rfl)
  (case c4 => exact rfl)
  intro D o L' h₁ tk hS hD F' N'
  (try dsimp only); (try k_fold)
  k_steps
  rename Fr _ _ _ _ => cF
  rename News _ _ _ _ => cN
  have hp := cN _ (.head _)
  exact ret _ _ _ _ cF.keep hp.2.2 hp.1
local macro_rules | `(tactic| walk_at "eval Call Name") => `(tactic| with_reducible refine Stop.mk ?_)
theorem gni_find {w : World} {lo : List PySem.Str} {mean : ExcName → Option Value} {mg mb : PySem.Str → Option Value} {dp un : Nat} {fr : Option (List Env)} {gd : Option (List Code)} {s : Shared} {n x y : PySem.Str} {t t' : Tok} {f lc : Addr} {h₀ : Heap} {olc oq : Obj} {ol : Addr → Obj} {Q E : Value → Shared → Prop}
    (X₀ : (hd68.heap_39 w.params).In h₀) (T₀ : Top topProg lo mean mg mb h₀) (S : Kp h₀ s.heap) (hn0 : h₀.get? lc = none) (hlc : s.heap.get? lc = some olc) (hd : dp + 30 < recursionLimit) (hu : un + 100 < cLine) (hf : FnAt f s.heap)
    (hol : ∀ q, (ol q).cls = .type "list")
    (hfind : ∀ (dp' un' : Nat) (fr' : Option (List Env)) (gd' : Option (List Code)) (s₁ : Shared) (Q' E' : Value → Shared → Prop), dp' + 20 < recursionLimit → un' + 60 < cLine → Kp s.heap s₁.heap →
      (∀ q u h' tk', Heap.ExtBut lc s₁.heap h' → s₁.heap.get? q = none → h'.get? q = some oq → h'.get? lc = some (ol q) → Q' (.str y u) { s₁ with heap := h', toks := tk' }) →
      wpAny (model PySem.Challenge.rw_pe0068_01.row.prog w) (Ar dp' un' fr' gd') (call (.ref f) [.str n t] [(PySem.Str.ofString "inside", .str x t')]) Q' E' s₁)
    (ret : ∀ p q u h' tk', Heap.ExtBut lc s.heap h' → s.heap.get? p = none → s.heap.get? q = none → h'.get? q = some oq → h'.get? lc = some (ol q) → h'.get? p = some (tup2 (.str y u) (.str y u)) → Q (.ref p) { s with heap := h', toks := tk' }) :
    wpAny (model PySem.Challenge.rw_pe0068_01.row.prog w) (Ar dp un fr gd) (call (.ref 44) [.str n t, .ref f] [(PySem.Str.ofString "inside", .str x t')]) Q E s := by
  revert X₀; k_fill; intro X₀
  k_with_none
  w_top off
  refine' enterKw (X₀.keeps S) (T₀.keeps S) ?k6 ?k7 ?k8 ?kP ?kT ?kB ?_ ?c2 ?c3 ?c4 ?c5
  (case k6 => k_is)
  (case k7 => k_is)
  (case k8 => show dp < _; omega)
  (case kP => exact rfl)
  (case kT => exact fun _ => rfl)
  (case kB => exact fun _ => locs rfl)
  (case c5 => decide)
  (case c2 => exact rfl)
  (case c3 => exact rfl)
  (case c4 => exact rfl)
  intro D o L' h₁ tk hS hD F₁ N₁
  have hk1 := F₁.keep
  have N' := hide_news (ms := [(lc, olc)]) F₁ N₁ (fun p hp => by rw [List.mem_singleton.mp hp]; exact hlc)
  have F' := hide_fr (as := [lc]) F₁
  have hsub := hide_sub (as := [lc]) S (fun a ha => by rw [List.mem_singleton.mp ha]; exact hn0)
  have X := X₀.keeps hsub
  have T := T₀.keeps hsub
  clear F₁ N₁
  dsimp only [List.map_cons, List.map_nil, List.cons_append, List.nil_append] at N'
  (try dsimp only); (try k_fold)
  k_steps
  rename Fr _ _ _ _ => cF
  rename News _ _ _ _ => cN
  unfold Stop
  refine wpAny_Call_Name_kw (ld cF rfl ?_ rfl rfl (by decide +kernel))
  refine callWith_dstar (v := .str n t) (k := PySem.Str.ofString "inside") (u := .str x t') (a := D) ?_ ?_ ?_ hS ?_ ?_
  · intro Q' hq
    exact ld cF rfl hq rfl rfl (by decide +kernel)
  · intro s' Q' hk hq
    exact wpAny_bind (ld (cF.keeps hk) rfl (wpAny_bind (wpAny_standAt (wpAny_pure hq))) rfl rfl (by decide +kernel))
  · exact Heap.dictOf_iff.mpr ⟨o, (cN _ (.head _)).1, hD⟩
  · obtain ⟨oc, od, fd, sl, e⟩ := hf
    exact ⟨oc, od, fd, sl, hk1 _ _ e⟩
  intro h2 tk2 hk2
  refine hfind (dp + 1) _ _ _ _ _ _ (by omega) ?_ (fun b o e => hk2 b o (hk1 b o e)) ?_
  · show un + 3 + 60 < cLine
    omega
  intro q u h3 tk3 hx3 hq3 hgq hgl
  have kk : ∀ b o, b ≠ lc → h₁.get? b = some o → h3.get? b = some o := fun b o hb e => hx3 b o hb (hk2 b o e)
  have hLlc : L' ≠ lc := fun e => (cN (lc, olc) (.tail _ (.head _))).2.1 e.symm
  have F3 : Fr (hideAll s.heap [lc]) L' h3 _ := ⟨cF.ns.extBut kk hLlc, fun b o e => kk b o (fun q => by rw [q, hideAll_none _ (List.mem_singleton.mpr rfl)] at e; cases e) (cF.keep b o e), cF.above⟩
  have hsq : s.heap.get? q = none := by
    cases e : s.heap.get? q with
    | none => rfl
    | some o' => dsimp only at hq3; rw [hk2 _ _ (hk1 _ _ e)] at hq3; cases hq3
  have hqL : q ≠ L' := fun e => by
    obtain ⟨oL, _, _, hL, _⟩ := cF.ns
    dsimp only at hq3
    rw [e, hk2 _ _ hL] at hq3
    cases hq3
  have N3 : News (hideAll s.heap [lc]) L' h3 [(q, oq), (lc, ol q)] := fun p hp => by
    rcases List.mem_cons.mp hp with rfl | hp
    · refine ⟨hgq, hqL, ?_⟩
      cases e : (hideAll s.heap [lc]).get? q with
      | none => rfl
      | some o' => rw [of_hideAll _ e] at hsq; cases hsq
    · rw [List.mem_singleton.mp hp]
      exact ⟨hgl, hLlc.symm, hideAll_none _ (List.mem_singleton.mpr rfl)⟩
  clear cF cN
  dsimp only
  k_steps
  rename Fr _ _ _ _ => cF
  rename News _ _ _ _ => cN
  have h1 := cN _ (.head _)
  have h2' := cN (q, oq) (.tail _ (.head _))
  have h3' := cN (lc, ol q) (.tail _ (.tail _ (.head _)))
  refine ret _ q u _ _ (fun b o hb e => hide_up cF b o (fun q => hb (List.mem_singleton.mp q)) e) (hide_none (fun q' => ?_) h1.2.2) hsq h2'.1 h3'.1 h1.1
  have e1 := h1.1
  dsimp only at q' e1
  rw [q', h3'.1] at e1
  dsimp only at e1
  have e2 := hol q
  rw [Option.some.inj e1] at e2
  have e3 : Value.type "tuple" = Value.type "list" := e2
  exact absurd e3 (by decide)
end Mine
set_option maxHeartbeats 8000000
namespace Mine
open PySem.Calls PySem.Spec PyProof.V
/-- the table of made code objects: filled -/
def TabIs (P : Addr) (pos : Pos) (qual : PySem.Str) (c' : Addr) (tabs : List (Addr × Obj)) : Prop :=
  ∃ oc vs t, tabs = [(P, tabObj #[rawInt pos.line, rawInt pos.col, .ref c']), (c', oc)] ∧ oc.data = .fields vs ∧ vs[1]? = some (.str qual t)
/-- empty or filled -/
def TabOk (P : Addr) (pos : Pos) (qual : PySem.Str) (tabs : List (Addr × Obj)) : Prop := tabs = [(P, tabObj #[])] ∨ ∃ c', TabIs P pos qual c' tabs
section
variable {M : Model} {A : Around} {E : Value → Shared → Prop} {s : Shared} {h₀ : Heap} {L a c P : Addr} {m mg mb : PySem.Str → Option Value} {cn : PySem.Str} {cs : Scope} {ccd : Value} {cl : List (PySem.Str × Addr)} {front tabs : List (Addr × Obj)}
  {p : Program} {loose : List PySem.Str} {mean : ExcName → Option Value} {name qual : PySem.Str} {params : Arguments} {body : List Stmt} {scope : Scope} {pos : Pos} {firstLine : Nat} {clos : List (PySem.Str × Addr)}
theorem nest_any {Q : Value → Shared → Prop} (F : Fr h₀ L s.heap m) (N : News h₀ L s.heap (front ++ tabs)) (T : Top p loose mean mg mb h₀) (C : CodeHd h₀ c P) (hcd : ccd = .ref c) (ht : TabOk P pos qual tabs) (ho : ∀ p ∈ front, p.1 ≠ P)
    (hcl : closureFor scope (envX cn cs L a ccd cl) = pure clos)
    (h : ∀ f c' tabs' ctv doc h' tk, Fr h₀ L h' m → TabIs P pos qual c' tabs' → News h₀ L h' ((f, fnMade name qual params body scope clos doc ((mg "__name__").getD .none) c' ctv) :: front ++ tabs') → (∀ q ∈ front ++ tabs', q.1 < f) → (∀ q ∈ front, ∀ r ∈ tabs', r.1 ≠ q.1) → Q (.ref f) { s with heap := h', toks := tk })
    (hd : ∀ q ∈ front, ∀ r ∈ tabs, r.1 ≠ q.1) :
    wpAny M A (makeFunction name qual params (.stmts body) scope (envX cn cs L a ccd cl) [] [] [] pos firstLine) Q E s := by
  rcases ht with rfl | ⟨c', oc, vs, t, rfl, h1, h2⟩
  · have N2 : News h₀ L s.heap ((P, tabObj #[]) :: front) := fun p hp => by
      rcases List.mem_cons.mp hp with rfl | hp
      · exact N _ (List.mem_append_right _ (.head _))
      · exact N _ (List.mem_append_left _ hp)
    refine nest_K F N2 T C hcd (.head ho) trivial rfl hcl ?_
    intro f c' oc vs t ctv doc h' tk F' N' d1 d2 l1 l2
    have hPl : P < c' := l1 (P, tabObj #[]) (.head _)
    refine h f c' [(P, tabObj #[rawInt pos.line, rawInt pos.col, .ref c']), (c', oc)] ctv doc h' tk F' ⟨oc, vs, t, rfl, d1, d2⟩ ?_ ?_ ?_
    · intro p hp
      refine N' p ?_
      rcases List.mem_append.mp hp with hp | hp
      · rcases List.mem_cons.mp hp with rfl | hp
        · exact .head _
        · exact .tail _ (.tail _ (.tail _ hp))
      · rcases List.mem_cons.mp hp with rfl | hp
        · exact .tail _ (.tail _ (.head _))
        · rw [List.mem_singleton.mp hp]
          exact .tail _ (.head _)
    · intro q hq
      rcases List.mem_append.mp hq with hq | hq
      · exact Nat.lt_trans (l1 q (.tail _ hq)) l2
      · rcases List.mem_cons.mp hq with rfl | hq
        · exact Nat.lt_trans hPl l2
        · rw [List.mem_singleton.mp hq]; exact l2
    · intro q hq r hr
      rcases List.mem_cons.mp hr with rfl | hr
      · exact (ho q hq).symm
      · rw [List.mem_singleton.mp hr]
        exact Nat.ne_of_gt (l1 q (.tail _ hq))
  · refine nestHit_K (c' := c') F N T C hcd (ps := #[rawInt pos.line, rawInt pos.col, .ref c']) (List.mem_append_right _ (.head _)) trivial (by simp [codeAmong, rawInt]) hcl ?_
    intro f ctv doc h' tk F' N' l1
    exact h f c' _ ctv doc h' tk F' ⟨oc, vs, t, rfl, h1, h2⟩ N' l1 hd
end
theorem enterX {prog : Program} {w : World} {A : Around} {s : Shared} {p : Program} {loose : List PySem.Str} {mean : ExcName → Option Value} {mg mb : PySem.Str → Option Value} {Q E : Value → Shared → Prop} {name qual : PySem.Str} {params : Arguments} {body : List Stmt} {scope : Scope} {cl : List (PySem.Str × Addr)} {doc pm ctv : Value} {c' f : Addr} {args : List Value} {kw : List (PySem.Str × Value)} {binds : List (PySem.Str × Value)}
    (T : Top p loose mean mg mb s.heap) (ho : s.heap.get? f = some (fnMade name qual params body scope cl doc pm c' ctv)) (hcd : s.heap.CodeRec (.ref c') qual) (hroom : A.depth < recursionLimit)
    (hbind : BindsTo s (fnX name qual params body scope cl .none .none doc pm none (.ref c') ctv) ⟨args, kw⟩ binds) (hloc : ∀ y ∈ binds, scope.names.lookup y.1 = some .local)
    (h : ∀ L' h₁ tk, Fr s.heap L' h₁ (fun y => binds.reverse.lookup y) → News s.heap L' h₁ [] →
      wpAny (model prog w) (A.deeper (envX qual scope L' f (.ref c') cl)) (execs body (envX qual scope L' f (.ref c') cl))
        (fun fl s' => Q (match fl with | .ret v => v | _ => .none) s') (fun _ _ => False) { s with heap := h₁, toks := tk })
    (hco : scope.isCoroutine = false) (hgen : scope.isGenerator = false) (hk : scope.kind = .function)
    (hcell : ∀ x ∈ scope.names, x.2 ≠ .cell) : wpAny (model prog w) A (call (.ref f) args kw) Q E s := by
  refine wpAny_call ?_
  refine codeAny_call_def (fd := fnX name qual params body scope cl .none .none doc pm none (.ref c') ctv) (body := body) (binds := binds) hroom ho rfl T.nolimit hcd rfl hbind hcell hloc (fun h₁ hns hk₁ => ?_) hco hgen hk
  exact wpAny_mono (h s.heap.objs.size h₁ _ ⟨hns, fun b o e => hk₁ b o e, Nat.le_refl _⟩ News.nil) (fun fl s' hl => by cases fl <;> exact hl) (fun _ _ y => y.elim)
end Mine
set_option maxHeartbeats 8000000
namespace Mine
open PySem.Calls PySem.Spec PyProof.V
def hasEq (x : PySem.Str) : Bool := x.cps.toList.contains 61
/-- what parse_keqv_list(parse_http_list(x)).get(n, '?') answers -/
structure Parsed (x n y : PySem.Str) (kvs : List (PySem.Str × PySem.Str)) : Prop where
  len : x.length ≤ 100000
  items : httpList x = kvs.map hdr
  few : kvs.length ≤ 100000
  short : ∀ p ∈ kvs, (hdr p).length ≤ 100000
  keys : ∀ p ∈ kvs, ∀ c ∈ p.1.cps.toList, c ≠ 61
  nodup : (kvs.map (·.1)).Nodup
  val : y = ((kvs.find? fun p => decide (p.1 = n)).map (·.2)).getD (PySem.Str.ofString "?")
inductive WK : PySem.Str → List PySem.Str → List (Option PySem.Str) → List (PySem.Str × PySem.Str) → Prop
  | nil (x) : WK x [] [] []
  | unk {x n r} : x.length ≤ 100000 → hasEq x = false → WK x (n :: r) [none] []
  | step {x n r y as cs kvs} : hasEq x = true → Parsed x n y kvs → WK y r as cs → WK x (n :: r) (some y :: as) ((n, x) :: cs)
inductive Two {α β : Type} (R : α → β → Prop) : List α → List β → Prop
  | nil : Two R [] []
  | cons {a b l l'} : R a b → Two R l l' → Two R (a :: l) (b :: l')
theorem Two.snoc {α β : Type} {R : α → β → Prop} {l : List α} {l' : List β} {a : α} {b : β} (h : Two R l l') (hr : R a b) : Two R (l ++ [a]) (l' ++ [b]) := by
  induction h with
  | nil => exact .cons hr .nil
  | cons h1 _ ih => exact .cons h1 ih
theorem Two.mono {α β : Type} {R R' : α → β → Prop} {l : List α} {l' : List β} (h : Two R l l') (hr : ∀ a b, R a b → R' a b) : Two R' l l' := by
  induction h with
  | nil => exact .nil
  | cons h1 _ ih => exact .cons (hr _ _ h1) ih
theorem Two.length {α β : Type} {R : α → β → Prop} {l : List α} {l' : List β} (h : Two R l l') : l.length = l'.length := by
  induction h with
  | nil => rfl
  | cons _ _ ih => simp [ih]
def AnsO (a : Option PySem.Str) (o : Obj) : Prop := match a with
  | some y => ∃ u u', o = tup2 (.str y u) (.str y u')
  | none => ∃ u, o = tup2 (.ref 37) (.str (PySem.Str.ofString "") u)
def CallO (c : PySem.Str × PySem.Str) (o : Obj) : Prop := ∃ u u', o = tup2 (.str c.1 u) (.str c.2 u')
def AnsIn (tl : List (Addr × Obj)) (v : Value) (a : Option PySem.Str) : Prop := ∃ p o, v = .ref p ∧ (p, o) ∈ tl ∧ AnsO a o
def CallIn (tl : List (Addr × Obj)) (v : Value) (c : PySem.Str × PySem.Str) : Prop := ∃ p o, v = .ref p ∧ (p, o) ∈ tl ∧ CallO c o
theorem AnsIn.mono {tl tl' : List (Addr × Obj)} (hs : ∀ p ∈ tl, p ∈ tl') (v : Value) (a : Option PySem.Str) (h : AnsIn tl v a) : AnsIn tl' v a :=
  let ⟨p, o, h1, h2, h3⟩ := h; ⟨p, o, h1, hs _ h2, h3⟩
theorem CallIn.mono {tl tl' : List (Addr × Obj)} (hs : ∀ p ∈ tl, p ∈ tl') (v : Value) (a : PySem.Str × PySem.Str) (h : CallIn tl v a) : CallIn tl' v a :=
  let ⟨p, o, h1, h2, h3⟩ := h; ⟨p, o, h1, hs _ h2, h3⟩
theorem frame_four {h₀ h : Heap} {L : Addr} {m : PySem.Str → Option Value} {x y1 y2 y3 : PySem.Str} {v u1 u2 u3 : Value} (F : Fr h₀ L h (fun z => if z = x then some v else m z)) (h1 : m y1 = some u1) (h2 : m y2 = some u2) (h3 : m y3 = some u3) :
    Fr h₀ L h (fun z => if z = x then some v else if z = y1 then some u1 else if z = y2 then some u2 else if z = y3 then some u3 else m z) := by
  have e : (fun z => if z = x then some v else if z = y1 then some u1 else if z = y2 then some u2 else if z = y3 then some u3 else m z) = fun z => if z = x then some v else m z := by
    funext z
    by_cases q1 : z = x
    · rw [if_pos q1, if_pos q1]
    · rw [if_neg q1, if_neg q1]
      by_cases q2 : z = y1
      · rw [if_pos q2, q2, h1]
      · rw [if_neg q2]
        by_cases q3 : z = y2
        · rw [if_pos q3, q3, h2]
        · rw [if_neg q3]
          by_cases q4 : z = y3
          · rw [if_pos q4, q4, h3]
          · rw [if_neg q4]
  rw [e]; exact F
/-- the ledger of a walk -/
abbrev led (f lc la cl : Addr) (oF oc : Obj) (us us' : List Value) (k k' : Nat) (tl : List (Addr × Obj)) : List (Addr × Obj) :=
  (f, oF) :: (lc, PySem.W.listOf us'.toArray k') :: (la, PySem.W.listOf us.toArray k) :: (cl, oc) :: tl
def WJ (f lc la cl : Addr) (oF oc : Obj) (tabs : List (Addr × Obj)) (ns : List PySem.Str) (as : List (Option PySem.Str)) (cs : List (PySem.Str × PySem.Str)) (i : Nat) (m : PySem.Str → Option Value) (nx : List (Addr × Obj)) : Prop :=
  ∃ us us' k k' tups x u as1 as2 cs1 cs2, nx = led f lc la cl oF oc us us' k k' (tups ++ tabs) ∧ m (PySem.Str.ofString "value") = some (.str x u) ∧ m (PySem.Str.ofString "answers") = some (.ref la) ∧ m (PySem.Str.ofString "find") = some (.ref f) ∧
    WK x (ns.drop i) as2 cs2 ∧ as = as1 ++ as2 ∧ cs = cs1 ++ cs2 ∧ Two (AnsIn tups) us as1 ∧ Two (CallIn tups) us' cs1 ∧ us.length ≤ i ∧ us'.length ≤ i ∧ OwnOff (tups ++ tabs) [f, lc, la, cl]
theorem mem_four {f lc la cl : Addr} {oF oc : Obj} {us us' : List Value} {k k' : Nat} {tl : List (Addr × Obj)} {p : Addr × Obj} (h : p ∈ led f lc la cl oF oc us us' k k' tl) : p.1 ∈ [f, lc, la, cl] ∨ p ∈ tl := by
  rcases List.mem_cons.mp h with rfl | h
  · exact .inl (.head _)
  · rcases List.mem_cons.mp h with rfl | h
    · exact .inl (.tail _ (.head _))
    · rcases List.mem_cons.mp h with rfl | h
      · exact .inl (.tail _ (.tail _ (.head _)))
      · rcases List.mem_cons.mp h with rfl | h
        · exact .inl (.tail _ (.tail _ (.tail _ (.head _))))
        · exact .inr h
theorem led_sub {f lc la cl : Addr} {oF oc : Obj} {us us' : List Value} {k k' : Nat} {tl tl' : List (Addr × Obj)} (hs : ∀ p ∈ tl, p ∈ tl') {p : Addr × Obj} (h : p ∈ led f lc la cl oF oc us us' k k' tl) : p ∈ led f lc la cl oF oc us us' k k' tl' := by
  rcases List.mem_cons.mp h with rfl | h
  · exact .head _
  · rcases List.mem_cons.mp h with rfl | h
    · exact .tail _ (.head _)
    · rcases List.mem_cons.mp h with rfl | h
      · exact .tail _ (.tail _ (.head _))
      · rcases List.mem_cons.mp h with rfl | h
        · exact .tail _ (.tail _ (.tail _ (.head _)))
        · exact .tail _ (.tail _ (.tail _ (.tail _ (hs _ h))))
theorem led_adr {f lc la cl : Addr} {oF oc : Obj} {us us' : List Value} {k k' : Nat} {tl : List (Addr × Obj)} {I : Addr} (h : ∀ p ∈ led f lc la cl oF oc us us' k k' tl, p.1 ≠ I) : ∀ b ∈ [f, lc, la, cl], b ≠ I := by
  intro b hb
  simp only [List.mem_cons, List.not_mem_nil, or_false] at hb
  rcases hb with rfl | rfl | rfl | rfl
  · exact h _ (.head _)
  · exact h _ (.tail _ (.head _))
  · exact h _ (.tail _ (.tail _ (.head _)))
  · exact h _ (.tail _ (.tail _ (.tail _ (.head _))))
/-- a turn's end -/
def EndW (h₀ : Heap) (L f lc la cl : Addr) (oF oc : Obj) (us us' : List Value) (tl : List (Addr × Obj)) (fl₀ : Flow) (v : Value) (s₁ : Shared) (fl : Flow) (s' : Shared) : Prop :=
  fl = fl₀ ∧ ∃ h' tk m' k k', s' = { s₁ with heap := h', toks := tk } ∧ Fr h₀ L h' m' ∧ m' (PySem.Str.ofString "value") = some v ∧ m' (PySem.Str.ofString "answers") = some (.ref la) ∧ m' (PySem.Str.ofString "find") = some (.ref f) ∧ News h₀ L h' (led f lc la cl oF oc us us' k k' tl)
theorem walk_loop {prog : Program} {w : World} {A : Around} {E : Value → Shared → Prop} {s : Shared} {env : Env} {h₀ : Heap} {body : List Stmt} {Q : Flow → Shared → Prop} {m₀ : PySem.Str → Option Value} {l f lc la cl : Addr} {oF oc : Obj} {tabs : List (Addr × Obj)} {vs : List Value} {ns : List PySem.Str} {x : PySem.Str} {t : Tok} {as : List (Option PySem.Str)} {cs : List (PySem.Str × PySem.Str)}
    (hh : A.handled = none) (hl : h₀.IsList l vs.toArray) (hS : StrsAre vs ns) (hsm : ns.length ≤ 1000) (F : Fr h₀ env.locals s.heap m₀) (N : News h₀ env.locals s.heap (led f lc la cl oF oc [] [] 0 0 tabs))
    (hm1 : m₀ (PySem.Str.ofString "value") = some (.str x t)) (hm2 : m₀ (PySem.Str.ofString "answers") = some (.ref la)) (hm3 : m₀ (PySem.Str.ofString "find") = some (.ref f)) (hW : WK x ns as cs) (hoff : OwnOff tabs [f, lc, la, cl])
    (turnS : ∀ (m₁ : PySem.Str → Option Value) (us us' : List Value) (k k' : Nat) (x n y : PySem.Str) (tx tn : Tok) (kvs : List (PySem.Str × PySem.Str)) (tl : List (Addr × Obj)) (h : Heap) (tk : Nat), us.length ≤ 1000 → us'.length ≤ 1000 → hasEq x = true → Parsed x n y kvs → OwnOff tl [f, lc, la, cl] → (∀ p ∈ tabs, p ∈ tl) →
      Fr h₀ env.locals h (fun z => if z = PySem.Str.ofString "name" then some (.str n tn) else if z = PySem.Str.ofString "value" then some (.str x tx) else if z = PySem.Str.ofString "answers" then some (.ref la) else if z = PySem.Str.ofString "find" then some (.ref f) else m₁ z) →
      News h₀ env.locals h ((f, oF) :: (lc, PySem.W.listOf us'.toArray k') :: (la, PySem.W.listOf us.toArray k) :: (cl, oc) :: tl) →
      wpAny (model prog w) A (execs body env) (fun fl s' => ∃ p q op oq ty, AnsO (some y) op ∧ CallO (n, x) oq ∧ (∀ r ∈ led f lc la cl oF oc us us' k k' tl, r.1 ≠ p ∧ r.1 ≠ q) ∧ EndW h₀ env.locals f lc la cl oF oc (us ++ [.ref p]) (us' ++ [.ref q]) ((p, op) :: (q, oq) :: tl) .next (.str y ty) { s with heap := h, toks := tk } fl s') E { s with heap := h, toks := tk })
    (turnU : ∀ (m₁ : PySem.Str → Option Value) (us us' : List Value) (k k' : Nat) (x n : PySem.Str) (tx tn : Tok) (tl : List (Addr × Obj)) (h : Heap) (tk : Nat), us.length ≤ 1000 → us'.length ≤ 1000 → x.length ≤ 100000 → hasEq x = false → OwnOff tl [f, lc, la, cl] → (∀ p ∈ tabs, p ∈ tl) →
      Fr h₀ env.locals h (fun z => if z = PySem.Str.ofString "name" then some (.str n tn) else if z = PySem.Str.ofString "value" then some (.str x tx) else if z = PySem.Str.ofString "answers" then some (.ref la) else if z = PySem.Str.ofString "find" then some (.ref f) else m₁ z) →
      News h₀ env.locals h ((f, oF) :: (lc, PySem.W.listOf us'.toArray k') :: (la, PySem.W.listOf us.toArray k) :: (cl, oc) :: tl) →
      wpAny (model prog w) A (execs body env) (fun fl s' => ∃ p op, AnsO none op ∧ EndW h₀ env.locals f lc la cl oF oc (us ++ [.ref p]) us' ((p, op) :: tl) .brk (.ref 37) { s with heap := h, toks := tk } fl s') E { s with heap := h, toks := tk })
    (fin : ∀ (m₁ : PySem.Str → Option Value) (us us' : List Value) (k k' : Nat) (tl : List (Addr × Obj)) (h : Heap) (tk : Nat), Two (AnsIn tl) us as → Two (CallIn tl) us' cs → (∀ p ∈ tabs, p ∈ tl) → Fr h₀ env.locals h (fun z => if z = PySem.Str.ofString "answers" then some (.ref la) else m₁ z) →
      News h₀ env.locals h ((f, oF) :: (lc, PySem.W.listOf us'.toArray k') :: (la, PySem.W.listOf us.toArray k) :: (cl, oc) :: tl) → Q .next { s with heap := h, toks := tk }) :
    wpAny (model prog w) A (pyIter (.ref l)) (fun it s₂ => LoopAtV prog w A h₀ env (PySem.Str.ofString "name") body Q E it s₂) E s := by
  have hlen : vs.length = ns.length := hS.length
  refine list_loopV (WJ f lc la cl oF oc tabs ns as cs) hh hl F N ⟨[], [], 0, 0, [], x, t, [], as, [], cs, rfl, hm1, hm2, hm3, hW, rfl, rfl, .nil, .nil, Nat.le_refl _, Nat.le_refl _, hoff⟩ ?_ ?_
  · clear hW hoff hm1 hm2 hm3 N F
    rintro i v m₁ news₁ h tk own I oI hv ⟨us, us', k, k', tups, x, u, as1, as2, cs1, cs2, rfl, m1, m2, m3, hW, rfl, rfl, hA, hC, hu1, hu2, hoff⟩ hI1 hI2 hI3 F₁ N₁
    obtain ⟨n, tn, hn, rfl⟩ := strs_at hS hv
    have hilt : i < ns.length := (List.getElem?_eq_some_iff.mp hn).1
    have hdrop : ns.drop i = n :: ns.drop (i + 1) := by
      rw [List.drop_eq_getElem_cons hilt]
      congr 1
      have := List.getElem?_eq_getElem hilt
      rw [hn] at this
      exact (Option.some.inj this).symm
    rw [hdrop] at hW
    have F₂ := frame_four F₁ m1 m2 m3
    have hadr := led_adr hI3
    have hoff2 : OwnOff (tups ++ tabs ++ own) [f, lc, la, cl] := fun p hp b hb => by
      rcases List.mem_append.mp hp with hp | hp
      · exact hoff p hp b hb
      · rw [hI2 p hp]; exact (hadr b hb).symm
    cases hW with
    | unk hxl he =>
      refine wpAny_mono (turnU m₁ us us' k k' x n u tn (tups ++ tabs ++ own) h tk (by omega) (by omega) hxl he hoff2 (fun p hp => List.mem_append_left _ (List.mem_append_right _ hp)) F₂ (by simpa [led] using N₁)) ?_ fun _ _ e => e
      rintro fl s' ⟨p, op, ho, rfl, h', tk', m', k2, k2', rfl, F', v1, v2, v3, N'⟩
      refine fin m' _ _ k2 k2' _ h' tk' ?_ ?_ ?_ (frame_at F' v2) N'
      · exact (hA.mono (AnsIn.mono fun p hp => .tail _ (List.mem_append_left _ (List.mem_append_left _ hp)))).snoc ⟨p, op, rfl, .head _, ho⟩
      · have := hC.mono (CallIn.mono (tl' := (p, op) :: (tups ++ tabs ++ own)) fun p hp => .tail _ (List.mem_append_left _ (List.mem_append_left _ hp)))
        simpa using this
      · exact fun p hp => .tail _ (List.mem_append_left _ (List.mem_append_right _ hp))
    | step he hp hW2 =>
      rename_i y as3 cs3 kvs
      refine wpAny_mono (turnS m₁ us us' k k' x n y u tn kvs (tups ++ tabs ++ own) h tk (by omega) (by omega) he hp hoff2 (fun p hp => List.mem_append_left _ (List.mem_append_right _ hp)) F₂ (by simpa [led] using N₁)) ?_ fun _ _ e => e
      rintro fl s' ⟨p, q, op, oq, ty, ho, hoq, hnew, rfl, h', tk', m', k2, k2', rfl, F', v1, v2, v3, N'⟩
      refine LoopStepV.next (LoopStepU.intro (news₂ := led f lc la cl oF oc (us ++ [.ref p]) (us' ++ [.ref q]) k2 k2' (((p, op) :: (q, oq) :: tups) ++ tabs)) F' ?_ ?_ ?_)
      · intro r hr
        rcases List.mem_append.mp hr with hr | hr
        · exact N' r (.tail _ (.tail _ (.tail _ (.tail _ (.tail _ (.tail _ (List.mem_append_right _ hr)))))))
        · refine N' r (led_sub (fun r hr => ?_) hr)
          rcases List.mem_cons.mp hr with rfl | hr
          · exact .head _
          · rcases List.mem_cons.mp hr with rfl | hr
            · exact .tail _ (.head _)
            · exact .tail _ (.tail _ (List.mem_append_left _ hr))
      · have hIn : (I, oI) ∈ led f lc la cl oF oc us us' k k' (tups ++ tabs ++ own) := .tail _ (.tail _ (.tail _ (.tail _ (List.mem_append_right _ hI1))))
        intro r hr hI
        have hI := List.mem_singleton.mp hI
        rcases mem_four hr with h1 | h1
        · exact hadr _ h1 hI
        · rcases List.mem_cons.mp h1 with rfl | h1
          · exact (hnew _ hIn).1 hI.symm
          · rcases List.mem_cons.mp h1 with rfl | h1
            · exact (hnew _ hIn).2 hI.symm
            · exact hI3 r (.tail _ (.tail _ (.tail _ (.tail _ h1)))) hI
      · refine ⟨us ++ [.ref p], us' ++ [.ref q], k2, k2', (p, op) :: (q, oq) :: tups, y, ty, as1 ++ [some y], as3, cs1 ++ [(n, x)], cs3, rfl, v1, v2, v3, hW2, by simp, by simp, ?_, ?_, by simp; omega, by simp; omega, ?_⟩
        · exact (hA.mono (AnsIn.mono fun p hp => .tail _ (.tail _ hp))).snoc ⟨p, op, rfl, .head _, ho⟩
        · exact (hC.mono (CallIn.mono fun p hp => .tail _ (.tail _ hp))).snoc ⟨q, oq, rfl, .tail _ (.head _), hoq⟩
        · intro r hr b hb
          rcases List.mem_cons.mp hr with rfl | hr
          · obtain ⟨ob, hob⟩ : ∃ ob, (b, ob) ∈ led f lc la cl oF oc us us' k k' (tups ++ tabs ++ own) := by
              simp only [List.mem_cons, List.not_mem_nil, or_false] at hb
              rcases hb with rfl | rfl | rfl | rfl
              · exact ⟨_, .head _⟩
              · exact ⟨_, .tail _ (.head _)⟩
              · exact ⟨_, .tail _ (.tail _ (.head _))⟩
              · exact ⟨_, .tail _ (.tail _ (.tail _ (.head _)))⟩
            exact (hnew _ hob).1.symm
          · rcases List.mem_cons.mp hr with rfl | hr
            · obtain ⟨ob, hob⟩ : ∃ ob, (b, ob) ∈ led f lc la cl oF oc us us' k k' (tups ++ tabs ++ own) := by
                simp only [List.mem_cons, List.not_mem_nil, or_false] at hb
                rcases hb with rfl | rfl | rfl | rfl
                · exact ⟨_, .head _⟩
                · exact ⟨_, .tail _ (.head _)⟩
                · exact ⟨_, .tail _ (.tail _ (.head _))⟩
                · exact ⟨_, .tail _ (.tail _ (.tail _ (.head _)))⟩
              exact (hnew _ hob).2.symm
            · exact hoff r hr b hb
  · clear hW hoff hm1 hm2 hm3 N F
    rintro m₁ news₁ h tk ⟨us, us', k, k', tups, x, u, as1, as2, cs1, cs2, rfl, m1, m2, m3, hW, rfl, rfl, hA, hC, hu1, hu2, hoff⟩ F₁ N₁
    rw [hlen, List.drop_length] at hW
    cases hW
    refine fin m₁ us us' k k' (tups ++ tabs) h tk ?_ ?_ (fun p hp => List.mem_append_right _ hp) (frame_at F₁ m2) N₁
    · simpa using hA.mono (AnsIn.mono (tl' := tups ++ tabs) fun p hp => List.mem_append_left _ hp)
    · simpa using hC.mono (CallIn.mono (tl' := tups ++ tabs) fun p hp => List.mem_append_left _ hp)
end Mine
set_option maxHeartbeats 1000000
namespace Mine
open PySem.Calls PySem.Spec PyProof.V
section
variable {prog : Program} {w : World} {A : Around} {E : Value → Shared → Prop} {s : Shared} {d : Addr} {kvs : List (PySem.Str × Value)} {k : PySem.Str}
theorem dg_method {pl : Sem Bool} {Q : Value × List Value → Shared → Prop} (hD : s.heap.DictOf (PySem.strKind prog w) d kvs) (h : Q (.builtin "dict.get", [.ref d]) s) : wpAny (model prog w) A (getMethod (.ref d) "get" pl) Q E s :=
  getMethod_builtin hD.typeIs PySem.F.plainAttrs_dict PySem.F.slot_dict_get PySem.F.type_dict_get hD.mapOf.noDict h
theorem dg_get2 {Q : Value → Shared → Prop} {t : Tok} {dflt : Value} (hD : s.heap.DictOf (PySem.strKind prog w) d kvs) (lo : (d == sysModules) = false) (h : Q ((valueAt kvs k).getD dflt) { s with toks := s.toks + 1 }) :
    wpAny (model prog w) A (call (.builtin "dict.get") [.ref d, .str k t, dflt]) Q E s :=
  call_meetsIn PySem.F.slot_dict_get hD.typeIs PySem.F.entry_dict_get (PySem.F.args_dict_get_3 _ _ _) (meets_dict_get_default (PySem.strKind prog w) d (strKind_is _ _ _ _) lo dflt) ⟨_, hD.mapOf, h⟩
end
theorem kv_get {ps : List (PySem.Str × Value)} {l : List (PySem.Str × PySem.Str)} {n q : PySem.Str} {t : Tok} (h : KV ps l) : ∃ u, (valueAt ps n).getD (.str q t) = .str (((l.find? fun p => decide (p.1 = n)).map (·.2)).getD q) u := by
  unfold valueAt
  induction l generalizing ps with
  | nil =>
    have : ps = [] := by
      have := congrArg List.length h.1
      simpa using this
    subst this
    exact ⟨t, rfl⟩
  | cons p l ih =>
    match ps, h with
    | [], h => have := congrArg List.length h.1; simp at this
    | (pk, pv) :: ps, h =>
      obtain ⟨h1, h2⟩ := h
      simp only [List.map_cons, List.cons.injEq] at h1 h2
      obtain ⟨h1a, h1b⟩ := h1
      cases h2 with
      | cons y t' h3 =>
        by_cases e : p.1 = n
        · rw [List.find?_cons_of_pos (by simpa using h1a.trans e), List.find?_cons_of_pos (by simpa using e)]
          exact ⟨t', rfl⟩
        · rw [List.find?_cons_of_neg (by rw [h1a]; simpa using e), List.find?_cons_of_neg (by simpa using e)]
          exact ih ⟨h1b, h3⟩
theorem eq_in (x : PySem.Str) : (Builtin.Str.occurrences x (PySem.Str.ofString "=") 0 x.length 1).isEmpty = !hasEq x := by
  have h := StrLaws.found_one x 61
  rw [show PySem.Str.ofString "=" = (⟨#[61]⟩ : PySem.Str) by decide +kernel]
  unfold hasEq
  cases e : (Builtin.Str.occurrences x ⟨#[61]⟩ 0 x.length 1).isEmpty
  · rw [e] at h
    have h := of_decide_eq_true h.symm
    simp [h]
  · rw [e] at h
    have h := of_decide_eq_false h.symm
    simp [h]
theorem of_allLt {d : Addr} : ∀ {l : List (Addr × Obj)}, AllLt d l → ∀ p ∈ l, p.1 < d
  | [], _, _, h => nomatch h
  | _ :: _, h, p, hp => by
    rcases List.mem_cons.mp hp with rfl | hp
    · exact h.1
    · exact of_allLt h.2 p hp
theorem led_in1 {f lc la cl : Addr} {oF oc : Obj} {us us' : List Value} {k k' : Nat} {tl : List (Addr × Obj)} {d p q r : Addr × Obj} (hr : r ∈ led f lc la cl oF oc us us' k k' (d :: q :: tl)) : r ∈ d :: p :: q :: led f lc la cl oF oc us us' k k' tl := by
  rcases List.mem_cons.mp hr with rfl | hr
  · exact .tail _ (.tail _ (.tail _ (.head _)))
  · rcases List.mem_cons.mp hr with rfl | hr
    · exact .tail _ (.tail _ (.tail _ (.tail _ (.head _))))
    · rcases List.mem_cons.mp hr with rfl | hr
      · exact .tail _ (.tail _ (.tail _ (.tail _ (.tail _ (.head _)))))
      · rcases List.mem_cons.mp hr with rfl | hr
        · exact .tail _ (.tail _ (.tail _ (.tail _ (.tail _ (.tail _ (.head _))))))
        · rcases List.mem_cons.mp hr with rfl | hr
          · exact .head _
          · rcases List.mem_cons.mp hr with rfl | hr
            · exact .tail _ (.tail _ (.head _))
            · exact .tail _ (.tail _ (.tail _ (.tail _ (.tail _ (.tail _ (.tail _ hr))))))
theorem led_in2 {f lc la cl : Addr} {oF oc : Obj} {us us' : List Value} {k k' : Nat} {tl : List (Addr × Obj)} {d p r : Addr × Obj} (hr : r ∈ led f lc la cl oF oc us us' k k' (d :: tl)) : r ∈ d :: p :: led f lc la cl oF oc us us' k k' tl := by
  rcases List.mem_cons.mp hr with rfl | hr
  · exact .tail _ (.tail _ (.head _))
  · rcases List.mem_cons.mp hr with rfl | hr
    · exact .tail _ (.tail _ (.tail _ (.head _)))
    · rcases List.mem_cons.mp hr with rfl | hr
      · exact .tail _ (.tail _ (.tail _ (.tail _ (.head _))))
      · rcases List.mem_cons.mp hr with rfl | hr
        · exact .tail _ (.tail _ (.tail _ (.tail _ (.tail _ (.head _)))))
        · rcases List.mem_cons.mp hr with rfl | hr
          · exact .head _
          · exact .tail _ (.tail _ (.tail _ (.tail _ (.tail _ (.tail _ hr)))))
theorem fresh_ne {h : Heap} {a b : Addr} {o : Obj} (ha : h.get? a = none) (hb : h.get? b = some o) : a ≠ b := fun e => by rw [e, hb] at ha; cases ha
theorem news_fresh {h₀ h h' : Heap} {L p : Addr} {m : PySem.Str → Option Value} {op : Obj} (F : Fr h₀ L h m) (hp0 : h.get? p = none) (hp : h'.get? p = some op) : h'.get? p = some op ∧ p ≠ L ∧ h₀.get? p = none := by
  obtain ⟨oL, es, ep, hL, _⟩ := F.ns
  refine ⟨hp, fresh_ne hp0 hL, ?_⟩
  cases e : h₀.get? p with
  | none => rfl
  | some o => rw [F.keep _ _ e] at hp0; cases hp0
theorem after_gni {h₀ h h' : Heap} {L f lc p q : Addr} {m : PySem.Str → Option Value} {oF olc ol' op oq : Obj} {rest : List (Addr × Obj)} (F : Fr h₀ L h m) (N : News h₀ L h ((f, oF) :: (lc, olc) :: rest)) (hx : Heap.ExtBut lc h h') (hl : h'.get? lc = some ol') (hf : f ≠ lc) (hr : ∀ r ∈ rest, r.1 ≠ lc)
    (hp0 : h.get? p = none) (hp : h'.get? p = some op) (hq0 : h.get? q = none) (hq : h'.get? q = some oq) : Fr h₀ L h' m ∧ News h₀ L h' ((p, op) :: (q, oq) :: (f, oF) :: (lc, ol') :: rest) := by
  have hlc := N _ (.tail _ (.head _))
  refine ⟨⟨F.ns.extBut hx hlc.2.1.symm, fun b o e => hx b o (fun q => ?_) (F.keep b o e), F.above⟩, fun r hr' => ?_⟩
  · have := hlc.2.2
    dsimp only at this
    rw [← q, e] at this
    cases this
  · rcases List.mem_cons.mp hr' with rfl | hr'
    · exact news_fresh F hp0 hp
    · rcases List.mem_cons.mp hr' with rfl | hr'
      · exact news_fresh F hq0 hq
      · rcases List.mem_cons.mp hr' with rfl | hr'
        · have := N _ (.head _)
          exact ⟨hx _ _ hf this.1, this.2⟩
        · rcases List.mem_cons.mp hr' with rfl | hr'
          · exact ⟨hl, hlc.2⟩
          · have := N r (.tail _ (.tail _ hr'))
            exact ⟨hx _ _ (hr r hr') this.1, this.2⟩
abbrev wPos : Pos := ⟨69, 4, 71, 70⟩
abbrev wQual : PySem.Str := PySem.Str.ofString "_law_walked.<locals>.find"
/-- made since -/
def Got (h₀ h : Heap) (p : Addr) (o : Obj) : Prop := h.get? p = some o ∧ h₀.get? p = none
theorem got_of {h₀ h : Heap} {L : Addr} {news : List (Addr × Obj)} {p : Addr × Obj} (N : News h₀ L h news) (hp : p ∈ news) : Got h₀ h p.1 p.2 := ⟨(N p hp).1, (N p hp).2.2⟩
/-- what a walk answers, in the heap -/
def Res (h₀ h : Heap) (v : Value) (as : List (Option PySem.Str)) (cs : List (PySem.Str × PySem.Str)) : Prop :=
  ∃ r la lc us us' k k', v = .ref r ∧ Got h₀ h r (tup2 (.ref la) (.ref lc)) ∧ Got h₀ h la (PySem.W.listOf us.toArray k) ∧ Got h₀ h lc (PySem.W.listOf us'.toArray k') ∧
    Two (fun v a => ∃ p o, v = .ref p ∧ Got h₀ h p o ∧ AnsO a o) us as ∧ Two (fun v a => ∃ p o, v = .ref p ∧ Got h₀ h p o ∧ CallO a o) us' cs
def ResIn (tl : List (Addr × Obj)) (v : Value) (as : List (Option PySem.Str)) (cs : List (PySem.Str × PySem.Str)) : Prop :=
  ∃ r la lc us us' k k', v = .ref r ∧ (r, tup2 (.ref la) (.ref lc)) ∈ tl ∧ (la, PySem.W.listOf us.toArray k) ∈ tl ∧ (lc, PySem.W.listOf us'.toArray k') ∈ tl ∧ Two (AnsIn tl) us as ∧ Two (CallIn tl) us' cs
theorem ResIn.mono {tl tl' : List (Addr × Obj)} (hs : ∀ p ∈ tl, p ∈ tl') {v : Value} {as : List (Option PySem.Str)} {cs : List (PySem.Str × PySem.Str)} (h : ResIn tl v as cs) : ResIn tl' v as cs := by
  obtain ⟨r, la, lc, us, us', k, k', e, h1, h2, h3, h4, h5⟩ := h
  exact ⟨r, la, lc, us, us', k, k', e, hs _ h1, hs _ h2, hs _ h3, h4.mono (AnsIn.mono hs), h5.mono (CallIn.mono hs)⟩
theorem two_list {α : Type} {h₀ h : Heap} {R : α → Obj → Prop} {us : List Value} {as : List α} (H : Two (fun v a => ∃ p o, v = .ref p ∧ Got h₀ h p o ∧ R a o) us as) : ∃ tl : List (Addr × Obj), (∀ p ∈ tl, Got h₀ h p.1 p.2) ∧ Two (fun v a => ∃ p o, v = .ref p ∧ (p, o) ∈ tl ∧ R a o) us as := by
  induction H with
  | nil => exact ⟨[], (fun _ h => nomatch h), .nil⟩
  | cons h1 _ ih =>
    obtain ⟨p, o, rfl, hg, hr⟩ := h1
    obtain ⟨tl, h2, h3⟩ := ih
    refine ⟨(p, o) :: tl, fun q hq => ?_, .cons ⟨p, o, rfl, .head _, hr⟩ (h3.mono fun _ _ ⟨p, o, e, hm, hr⟩ => ⟨p, o, e, .tail _ hm, hr⟩)⟩
    rcases List.mem_cons.mp hq with rfl | hq
    · exact hg
    · exact h2 q hq
theorem res_list {h₀ h : Heap} {v : Value} {as : List (Option PySem.Str)} {cs : List (PySem.Str × PySem.Str)} (H : Res h₀ h v as cs) : ∃ tl : List (Addr × Obj), (∀ p ∈ tl, Got h₀ h p.1 p.2) ∧ ResIn tl v as cs := by
  obtain ⟨r, la, lc, us, us', k, k', e, h1, h2, h3, h4, h5⟩ := H
  obtain ⟨t1, g1, w1⟩ := two_list h4
  obtain ⟨t2, g2, w2⟩ := two_list h5
  refine ⟨(r, tup2 (.ref la) (.ref lc)) :: (la, PySem.W.listOf us.toArray k) :: (lc, PySem.W.listOf us'.toArray k') :: (t1 ++ t2), fun q hq => ?_, r, la, lc, us, us', k, k', e, .head _, .tail _ (.head _), .tail _ (.tail _ (.head _)), w1.mono fun _ _ ⟨p, o, e, hm, hr⟩ => ⟨p, o, e, ?_, hr⟩, w2.mono fun _ _ ⟨p, o, e, hm, hr⟩ => ⟨p, o, e, ?_, hr⟩⟩
  · rcases List.mem_cons.mp hq with rfl | hq
    · exact h1
    · rcases List.mem_cons.mp hq with rfl | hq
      · exact h2
      · rcases List.mem_cons.mp hq with rfl | hq
        · exact h3
        · rcases List.mem_append.mp hq with hq | hq
          · exact g1 q hq
          · exact g2 q hq
  · exact .tail _ (.tail _ (.tail _ (List.mem_append_left _ hm)))
  · exact .tail _ (.tail _ (.tail _ (List.mem_append_right _ hm)))
theorem seq_hide {h : Heap} {P c' : Addr} {pos : Pos} {q : PySem.Str} {tabs : List (Addr × Obj)} (hT : TabIs P pos q c' tabs) (ht : ∀ p ∈ tabs, h.get? p.1 = some p.2) {b : Addr} {o : Obj} {xs : Array Value} {n : Nat} (hb : h.get? b = some o) (ho : o.data = .seq xs n) : (hideAll h (tabs.map (·.1))).get? b = some o := by
  refine hideAll_get _ hb fun hm => ?_
  obtain ⟨p, hp, rfl⟩ := List.mem_map.mp hm
  obtain ⟨oc, vs, t, rfl, hd, _⟩ := hT
  rw [ht p hp] at hb
  have hb := Option.some.inj hb
  rcases List.mem_cons.mp hp with rfl | hp
  · rw [← hb] at ho; cases ho
  · rw [List.mem_singleton.mp hp] at hb
    dsimp only at hb
    rw [← hb, hd] at ho; cases ho
theorem res_of {h₀ h : Heap} {P c' r la lc : Addr} {pos : Pos} {q : PySem.Str} {tabs tl : List (Addr × Obj)} {us us' : List Value} {k k' : Nat} {as : List (Option PySem.Str)} {cs : List (PySem.Str × PySem.Str)} (hT : TabIs P pos q c' tabs) (ht : ∀ p ∈ tabs, h.get? p.1 = some p.2)
    (g1 : Got h₀ h r (tup2 (.ref la) (.ref lc))) (g2 : Got h₀ h la (PySem.W.listOf us.toArray k)) (g3 : Got h₀ h lc (PySem.W.listOf us'.toArray k')) (hA : Two (AnsIn tl) us as) (hC : Two (CallIn tl) us' cs) (hn : ∀ p ∈ tl, Got h₀ h p.1 p.2) : Res h₀ (hideAll h (tabs.map (·.1))) (.ref r) as cs := by
  refine ⟨r, la, lc, us, us', k, k', rfl, ⟨seq_hide hT ht g1.1 rfl, g1.2⟩, ⟨seq_hide hT ht g2.1 rfl, g2.2⟩, ⟨seq_hide hT ht g3.1 rfl, g3.2⟩, hA.mono ?_, hC.mono ?_⟩
  · rintro v a ⟨p, o, rfl, hp, ho⟩
    have : ∃ xs n, o.data = .seq xs n := by
      cases a with
      | none => obtain ⟨u, rfl⟩ := ho; exact ⟨_, _, rfl⟩
      | some y => obtain ⟨u, u', rfl⟩ := ho; exact ⟨_, _, rfl⟩
    obtain ⟨xs, n, hd⟩ := this
    exact ⟨p, o, rfl, ⟨seq_hide hT ht (hn _ hp).1 hd, (hn _ hp).2⟩, ho⟩
  · rintro v a ⟨p, o, rfl, hp, ho⟩
    obtain ⟨u, u', rfl⟩ := id ho
    exact ⟨p, _, rfl, ⟨seq_hide hT ht (hn _ hp).1 rfl, (hn _ hp).2⟩, ho⟩
end Mine
set_option maxHeartbeats 400000
namespace Mine
open PySem.Calls PySem.Spec PyProof.V
local macro_rules | `(tactic| walk_at "exec FunctionDef") => `(tactic| with_reducible refine Stop.mk ?_)
local macro_rules | `(tactic| walk_at "eval Call Attribute") => `(tactic| with_reducible refine Stop.mk ?_)
local macro_rules | `(tactic| walk_at "call builtin:list.append") => `(tactic| with_reducible refine Stop.mk ?_)
local macro_rules | `(tactic| walk_at "Exists") => `(tactic| with_reducible refine Stop.mk ?_)
local macro_rules | `(tactic| walk_at "call ref") => `(tactic| with_reducible refine Stop.mk ?_)
theorem walked_c {w : World} {lo : List PySem.Str} {mean : ExcName → Option Value} {mg mb : PySem.Str → Option Value} {dp un : Nat} {fr : Option (List Env)} {gd : Option (List Code)} {s : Shared} {l : Addr} {x : PySem.Str} {t : Tok} {vs : List Value} {ns : List PySem.Str} {h₀ : Heap} {tabs : List (Addr × Obj)} {as : List (Option PySem.Str)} {cs : List (PySem.Str × PySem.Str)} {Q E : Value → Shared → Prop}
    (X₀ : (hd68.heap_39 w.params).In h₀) (T₀ : Top topProg lo mean mg mb h₀) (C₀ : CodeHd h₀ 74 70) (S : Kp h₀ s.heap) (hd : dp + 40 < recursionLimit) (hu : un + 120 < cLine) (hl : h₀.IsList l vs.toArray) (hS : StrsAre vs ns) (hsm : ns.length ≤ 1000)
    (ht : TabOk 70 wPos wQual tabs) (htb : ∀ p ∈ tabs, s.heap.get? p.1 = some p.2) (ht0 : ∀ p ∈ tabs, h₀.get? p.1 = none) (hW : WK x ns as cs)
    (ret : ∀ v tabs' h' tk', TabOk 70 wPos wQual tabs' → (∀ p ∈ tabs', h'.get? p.1 = some p.2) → (∀ p ∈ tabs', (hideAll s.heap (tabs.map (·.1))).get? p.1 = none) → Kp (hideAll s.heap (tabs.map (·.1))) (hideAll h' (tabs'.map (·.1))) → Res (hideAll s.heap (tabs.map (·.1))) (hideAll h' (tabs'.map (·.1))) v as cs → Q v { s with heap := h', toks := tk' }) :
    wpAny (model PySem.Challenge.rw_pe0068_01.row.prog w) (Ar dp un fr gd) (call (.ref 75) [.str x t, .ref l]) Q E s := by
  revert X₀; k_fill; intro X₀
  k_with_none
  w_top off
  (k_with "pyIter ref" => with_reducible refine Stop.mk ?_)
  refine' enter0C (X₀.keeps S) (T₀.keeps S) ?k6 ?k7 ?k8 ?k9 ?kB ?kN ?_ ?c2 ?c3 ?c4
  (case k6 => k_is)
  (case k7 => k_is)
  (case k8 => show dp < _; omega)
  (case k9 => exact BindsTo.of_eq rfl)
  (case kN => decide +kernel)
  (case kB => exact kindsX (by rfl))
  (case c2 => exact rfl)
  (case c3 => exact rfl)
  (case c4 => exact rfl)
  intro L' h₁ tk cells F₁ N₁ hC
  obtain ⟨o, rfl, ho⟩ := CellsAre.one hC
  clear hC
  have N' := hide_news F₁ N₁ htb
  have F' := hide_fr (as := tabs.map (·.1)) F₁
  have hsub := hide_sub (as := tabs.map (·.1)) S (fun a ha => by obtain ⟨p, hp, rfl⟩ := List.mem_map.mp ha; exact ht0 p hp)
  have X := X₀.keeps hsub
  have T := T₀.keeps hsub
  have C := C₀.keeps hsub
  have hltL : ∀ p ∈ tabs, p.1 < L' := fun p hp => Nat.lt_of_lt_of_le (Heap.lt_size (htb p hp)) F₁.above
  have hoff : OwnOff tabs [L' + 1] := fun p hp b hb => by rw [List.mem_singleton.mp hb]; exact Nat.ne_of_lt (Nat.lt_succ_of_lt (hltL p hp))
  clear F₁ N₁
  dsimp only [List.cons_append, List.nil_append] at N'
  (try dsimp only); (try k_fold)
  k_steps
  rename_i _ la _ hlt1 _ _ lc _ hlt2 _ oc cF cN hoc
  unfold Stop
  (with_unfolding_all refine nestDef_K rfl rfl rfl ?_)
  have h70 : ∀ q ∈ tabs, q.1 < L' := hltL
  have h70' : (70 : Nat) < L' := by
    rcases ht with rfl | ⟨c', oc, vs, t, rfl, _⟩
    · exact hltL _ (.head _)
    · exact hltL _ (.head _)
  (with_unfolding_all refine nest_any (front := [_, _, _]) (tabs := tabs) cF cN T C rfl ht ?_ rfl ?_ ?_)
  · intro q hq
    simp only [List.mem_cons, List.not_mem_nil, or_false] at hq
    rcases hq with rfl | rfl | rfl
    · exact Nat.ne_of_gt (Nat.lt_trans h70' (Nat.lt_trans (Nat.lt_succ_self _) hlt2.2.1))
    · exact Nat.ne_of_gt (Nat.lt_trans h70' (Nat.lt_trans (Nat.lt_succ_self _) hlt1.1))
    · exact Nat.ne_of_gt (Nat.lt_trans h70' (Nat.lt_succ_self _))
  rotate_left
  · intro q hq r hr
    have h1 := hltL r hr
    simp only [List.mem_cons, List.not_mem_nil, or_false] at hq
    rcases hq with rfl | rfl | rfl
    · exact Nat.ne_of_lt (Nat.lt_trans h1 (Nat.lt_trans (Nat.lt_succ_self _) hlt2.2.1))
    · exact Nat.ne_of_lt (Nat.lt_trans h1 (Nat.lt_trans (Nat.lt_succ_self _) hlt1.1))
    · exact Nat.ne_of_lt (Nat.lt_trans h1 (Nat.lt_succ_self _))
  clear cF cN
  intro f c' tabs' ctv doc h' tk F' hT' N' hltf hdis
  dsimp only [List.cons_append, List.nil_append] at N'
  have hfh := (N' _ (.head _)).1
  have hn0c := (N' _ (.tail _ (.head _))).2.2
  have hn0d := (N' _ (.tail _ (.tail _ (.tail _ (.head _))))).2.2
  dsimp only at hfh hn0c hn0d
  have hcl : lc ≠ L' + 1 := Nat.ne_of_gt hlt2.2.1
  have hfind : ∀ (dp' un' : Nat) (fr' : Option (List Env)) (gd' : Option (List Code)) (s₁ : Shared) (Q' E' : Value → Shared → Prop) (n x y : PySem.Str) (tn tx : Tok) (kvs : List (PySem.Str × PySem.Str)) (us' : List Value) (k' : Nat), dp' + 20 < recursionLimit → un' + 60 < cLine →
      Kp (hideAll s.heap (tabs.map (·.1))) s₁.heap → (∀ p ∈ tabs', s₁.heap.get? p.1 = some p.2) → us'.length ≤ 1000 → Parsed x n y kvs → (∀ o, h'.get? f = some o → s₁.heap.get? f = some o) → s₁.heap.get? (L' + 1) = some oc → s₁.heap.get? lc = some (PySem.W.listOf us'.toArray k') →
      (∀ q u h' tk', Heap.ExtBut lc s₁.heap h' → s₁.heap.get? q = none → h'.get? q = some (tup2 (.str n tn) (.str x tx)) → h'.get? lc = some (PySem.W.listOf (us' ++ [Value.ref q]).toArray (k' + 1)) → Q' (.str y u) { s₁ with heap := h', toks := tk' }) →
      wpAny (model PySem.Challenge.rw_pe0068_01.row.prog w) (Ar dp' un' fr' gd') (call (.ref f) [.str n tn] [(PySem.Str.ofString "inside", .str x tx)]) Q' E' s₁ := by
    clear N' F' ret hW hl hS
    intro dp' un' fr' gd' s₁ Q' E' n x y tn tx kvs us' k' hd' hu' hkp htabs hus hPs hf1 hcl1 hlc1 ret
    have hcr : s₁.heap.CodeRec (.ref c') wQual := by
      obtain ⟨oc', vs', t', rfl, h1, h2⟩ := hT'
      exact ⟨c', oc', vs', t', rfl, htabs _ (.tail _ (.head _)), h1, h2⟩
    refine' enterX (T.keeps hkp) (hf1 _ hfh) hcr ?k8 ?k9 ?kB ?_ ?c2 ?c3 ?c4 ?c5
    (case k8 => show dp' < _; omega)
    (case k9 => exact BindsTo.of_eq rfl)
    (case kB => exact locs rfl)
    (case c5 => decide)
    (case c2 => exact rfl)
    (case c3 => exact rfl)
    (case c4 => exact rfl)
    intro L₂ h₂ tk₂ F₁ N₁
    have hsub2 : Kp (hideAll s.heap (tabs.map (·.1))) (hideAll s₁.heap [lc, L' + 1]) := hide_sub hkp (fun a ha => by
      rcases List.mem_cons.mp ha with rfl | ha
      · exact hn0c
      · rw [List.mem_singleton.mp ha]; exact hn0d)
    have N' := hide_news (ms := [(lc, PySem.W.listOf us'.toArray k'), (L' + 1, oc)]) F₁ N₁ (fun p hp => by
      rcases List.mem_cons.mp hp with rfl | hp
      · exact hlc1
      · rw [List.mem_singleton.mp hp]; exact hcl1)
    have F' := hide_fr (as := [lc, L' + 1]) F₁
    have X2 := X.keeps hsub2
    have T2 := T.keeps hsub2
    clear F₁ N₁
    dsimp only [List.map_cons, List.map_nil, List.cons_append, List.nil_append] at N'
    clear X T X₀ T₀ C C₀
    (try dsimp only); (try k_fold)
    clear S hsub hltL ht htb ht0 hoff hlt1 hlt2 h70 h70' hltf hdis hfh hn0c hn0d hkp htabs hf1 hsub2
    k_steps
    unfold Stop
    rename Fr _ _ _ _ => cF
    rename News _ _ _ _ => cN
    have hcell : s₁.heap.IsCell (L' + 1) (some (.ref lc)) := ⟨oc, hcl1, hoc⟩
    have hcell2 : Heap.IsCell _ (L' + 1) (some (.ref lc)) := ⟨oc, (cN _ (.tail _ (.head _))).1, hoc⟩
    refine methodCall_KW (wpAny_Name (wpAny_loadName_free rfl rfl rfl hcell2 ?_) (by decide +kernel))
    clear hcell hcell2
    k_steps
    unfold Stop
    rename (_ < _ ∧ _ < _) => hlD
    rename Fr _ _ _ _ => F'
    rename News _ _ _ _ => N'
    clear cN
    have hnD := (N' _ (.head _)).2.2
    refine append_K F' N' (.tail (Nat.ne_of_gt hlD.1) (.head (fun p hp => by rw [List.mem_singleton.mp hp]; exact hcl.symm))) ?_ (by simp only [List.size_toArray, sizeLine_eq]; omega)
    clear F' N'
    intro h₃ F' N'
    dsimp only [List.push_toArray] at F' N' ⊢
    k_steps
    unfold Stop
    refine methodCall_KW ?_
    k_steps
    unfold Stop
    refine http_c (dp := dp' + 1) (X2.keeps F'.keep) (T2.keeps F'.keep) (by omega) ?hu1 hPs.len ?_
    case hu1 => show un' + _ + 40 < cLine; omega
    intro la4 vs4 h₄ tk4 hk4 hl4 hS4
    rw [hPs.items] at hS4
    have F4 := F'.keeps hk4
    have N4 : News _ _ h₄ _ := fun p hp => ⟨hk4 _ _ (N' p hp).1, (N' p hp).2⟩
    have hl4' := hl4
    clear F' N'
    dsimp only
    k_steps
    unfold Stop
    refine keqv_c (dp := dp' + 1) (X2.keeps F4.keep) (T2.keeps F4.keep) (by omega) ?hu2 hl4' hS4 ?hn2 hPs.short hPs.keys hPs.nodup ?_
    case hu2 => show un' + _ + 40 < cLine; omega
    case hn2 => rw [hS4.length, List.length_map]; exact hPs.few
    intro d5 o5 ps5 h₅ tk5 hk5 hd5 hdo5 hkv5 hsm5
    have F5 := F4.keeps hk5
    have N5 : News _ _ h₅ _ := fun p hp => ⟨hk5 _ _ (N4 p hp).1, (N4 p hp).2⟩
    have hD5 := Heap.dictOf_iff.mpr ⟨o5, hd5, hdo5⟩
    clear F4 N4
    dsimp only
    refine dg_method hD5 ?_
    dsimp only
    k_steps
    refine dg_get2 hD5 hsm5 ?_
    obtain ⟨u5, hu5⟩ := kv_get (n := n) (q := PySem.Str.ofString "?") (t := tk5) hkv5
    rw [hu5, ← hPs.val]
    refine ret _ u5 h₅ _ (fun b o hb e => ?_) ?_ (N5 _ (.head _)).1 ?_
    · by_cases hb2 : b = L' + 1
      · rw [hb2, hcl1] at e
        rw [hb2, ← e]
        exact (N5 _ (.tail _ (.tail _ (.head _)))).1
      · exact hide_up F5 b o (fun q => by
          rcases List.mem_cons.mp q with q | q
          · exact hb q
          · exact hb2 (List.mem_singleton.mp q)) e
    · cases e : s₁.heap.get? _ with
      | none => rfl
      | some o' =>
        rw [hideAll_get _ e (fun q => by
          rcases List.mem_cons.mp q with q | q
          · exact Nat.ne_of_gt hlD.1 q
          · exact Nat.ne_of_gt hlD.2 (List.mem_singleton.mp q))] at hnD
        cases hnD
    · have := (N5 _ (.tail _ (.head _))).1
      simpa using this
  have hns := N'
  generalize hoF : fnMade _ _ _ _ _ _ _ _ _ _ = oF at N' hfh
  have hfn : FnAt f h' := by rw [← hoF] at hfh; exact ⟨_, _, _, _, hfh⟩
  have hdisf : ∀ q ∈ tabs', q.1 ≠ f := fun q hq => Nat.ne_of_lt (hltf q (List.mem_append_right _ hq))
  have hdisc : ∀ q ∈ tabs', q.1 ≠ lc := fun q hq => hdis _ (.head _) q hq
  have hdisa : ∀ q ∈ tabs', q.1 ≠ la := fun q hq => hdis _ (.tail _ (.head _)) q hq
  have hdisl : ∀ q ∈ tabs', q.1 ≠ L' + 1 := fun q hq => hdis _ (.tail _ (.tail _ (.head _))) q hq
  have lf1 : lc < f := hltf _ (.head _)
  have lf2 : la < f := hltf _ (.tail _ (.head _))
  have lf3 : L' + 1 < f := hltf _ (.tail _ (.tail _ (.head _)))
  clear hdis hltf hns
  clear hoF
  k_steps
  unfold Stop
  rename Fr _ _ _ _ => lF'
  rename News _ _ _ _ => lN'
  have hlist := hl.at fun o e => hsub l o e
  (with_unfolding_all refine' walk_loop (f := f) (lc := lc) (la := la) (cl := L' + 1) (oF := oF) (oc := oc) (tabs := tabs') (by rfl) hlist hS hsm lF' lN' (by rfl) (by rfl) (by rfl) hW ?hoff ?turnS ?turnU ?fin)
  case hoff =>
    intro q hq b hb
    simp only [List.mem_cons, List.not_mem_nil, or_false] at hb
    rcases hb with rfl | rfl | rfl | rfl
    · exact hdisf q hq
    · exact hdisc q hq
    · exact hdisa q hq
    · exact hdisl q hq
  case turnS =>
    clear lF' lN' ret hW hl hS ht htb ht0 hoff hltL h70 h70' hdisf hdisc hdisa hdisl hlist T₀ C₀ X₀ S
    intro m₁ us us' k k' x n y tx tn kvs tl h tk hus hus' hEq hPs hOff hTl F' N'
    have hx100 := hPs.len
    k_steps
    · rename ((Builtin.Str.occurrences _ _ _ _ _).isEmpty = true) => ha
      rw [eq_in, hEq] at ha
      cases ha
    · unfold Stop
      rename Fr _ _ _ _ => cF
      rename News _ _ _ _ => cN
      have gf := (cN _ (.head _)).1
      have gc := (cN _ (.tail _ (.head _))).1
      have ga := (cN _ (.tail _ (.tail _ (.head _)))).1
      have gl := (cN _ (.tail _ (.tail _ (.tail _ (.head _))))).1
      dsimp only at gf gc ga gl
      have hfn1 : FnAt f h := by
        obtain ⟨oc, od, fd, sl, e⟩ := hfn
        rw [hfh] at e
        rw [Option.some.inj e] at gf
        exact ⟨_, _, _, _, gf⟩
      (with_unfolding_all refine gni_find (dp := dp + 1) (n := n) (x := x) (y := y) (t := tn) (t' := tx) (lc := lc) (oq := tup2 (.str n tn) (.str x tx)) (ol := fun q => PySem.W.listOf (us' ++ [Value.ref q]).toArray (k' + 1)) X T cF.keep hn0c gc (by omega) ?hug hfn1 (fun _ => rfl) ?hfi ?_)
      case hug => show un + _ + 100 < cLine; omega
      case hfi =>
        intro dp' un' fr' gd' s₁ Q' E' h1 h2 h3 h4
        exact hfind dp' un' fr' gd' s₁ Q' E' n x y tn tx kvs us' k' h1 h2 (fun b o e => h3 b o (cF.keep b o e)) (fun p hp => h3 _ _ (cN p (.tail _ (.tail _ (.tail _ (.tail _ (hTl p hp)))))).1) hus' hPs (fun o e => by rw [hfh] at e; rw [← Option.some.inj e]; exact h3 _ _ gf) (h3 _ _ gl) (h3 _ _ gc) h4
      intro p q u h2 tk2 hx2 hp0 hq0 hq2 hl2 hp2
      have hAft := after_gni cF cN hx2 hl2 (Nat.ne_of_gt lf1) (fun r hr => by
        rcases List.mem_cons.mp hr with rfl | hr
        · exact Nat.ne_of_lt hlt2.1
        · rcases List.mem_cons.mp hr with rfl | hr
          · exact hcl.symm
          · exact hOff r hr _ (.tail _ (.head _))) hp0 hp2 hq0 hq2
      obtain ⟨F', N'⟩ := hAft
      have hqn : ∀ r ∈ led f lc la (L' + 1) oF oc us us' k k' tl, r.1 ≠ q := fun r hr => (fresh_ne hq0 (cN r hr).1).symm
      clear cF cN
      dsimp only at F' N' ⊢
      k_steps
      unfold Stop
      refine methodCall_KW ?_
      k_steps
      unfold Stop
      rename (_ < _ ∧ _ ∧ _ ∧ _ ∧ _ ∧ _ ∧ AllLt _ _) => hD
      rename Fr _ _ _ _ => cF
      rename News _ _ _ _ => cN
      refine append_K cF cN (.tail (Nat.ne_of_gt hD.2.2.2.2.1) (.tail (fresh_ne hp0 ga) (.tail (fresh_ne hq0 ga) (.tail (Nat.ne_of_gt lf2) (.tail (Nat.ne_of_gt hlt2.1) (.head (fun r hr => ?_))))))) ?_ (by simp only [List.size_toArray, sizeLine_eq]; omega)
      · rcases List.mem_cons.mp hr with rfl | hr
        · exact Nat.ne_of_lt hlt1.1
        · exact hOff r hr _ (.tail _ (.tail _ (.head _)))
      clear cF cN
      intro h₃ F' N'
      dsimp only [List.push_toArray] at F' N' ⊢
      k_steps
      refine wpAny_is_other rfl (fun e => nomatch e) ?_
      k_steps
      unfold Stop
      rename Fr _ _ _ _ => cF
      rename News _ _ _ _ => cN
      rename Addr => D2
      have hrD : ∀ r ∈ led f lc la (L' + 1) oF oc us us' k k' tl, r.1 ≠ D2 := fun r hr => by
        rcases List.mem_cons.mp hr with rfl | hr
        · exact Nat.ne_of_lt hD.2.2.1
        · rcases List.mem_cons.mp hr with rfl | hr
          · exact Nat.ne_of_lt hD.2.2.2.1
          · rcases List.mem_cons.mp hr with rfl | hr
            · exact Nat.ne_of_lt hD.2.2.2.2.1
            · rcases List.mem_cons.mp hr with rfl | hr
              · exact Nat.ne_of_lt hD.2.2.2.2.2.1
              · exact Nat.ne_of_lt (of_allLt hD.2.2.2.2.2.2 r hr)
      rw [List.push_toArray] at cN
      refine ⟨D2, q, _, tup2 (.str n tn) (.str x tx), u, ⟨u, u, rfl⟩, ⟨tn, tx, rfl⟩, fun r hr => ⟨hrD r hr, hqn r hr⟩, rfl, _, _, _, k + 1, k' + 1, rfl, cF, rfl, rfl, rfl, fun r hr => cN r (led_in1 hr)⟩
  case turnU =>
    clear lF' lN' ret hW hl hS ht htb ht0 hoff hltL h70 h70' hdisf hdisc hdisa hdisl hlist T₀ C₀ X₀ S hfind
    intro m₁ us us' k k' x n tx tn tl h tk hus hus' hx100 hEq hOff hTl F' N'
    k_steps
    · unfold Stop
      rename Fr _ _ _ _ => cF
      rename News _ _ _ _ => cN
      have ga := (cN _ (.tail _ (.tail _ (.head _)))).1
      dsimp only at ga
      (with_unfolding_all refine gni_none (dp := dp + 1) (n := n) (x := x) (t := tn) (t' := tx) (X.keeps cF.keep) (T.keeps cF.keep) (by omega) ?_)
      intro p u h2 tk2 hk2 hp0 hp2
      have F' := cF.keeps hk2
      have N' : News _ _ h2 ((p, _) :: _) := fun r hr => by
        rcases List.mem_cons.mp hr with rfl | hr
        · exact news_fresh cF hp0 hp2
        · exact ⟨hk2 _ _ (cN r hr).1, (cN r hr).2⟩
      clear cF cN
      dsimp only at F' N' ⊢
      k_steps
      unfold Stop
      refine methodCall_KW ?_
      k_steps
      unfold Stop
      rename (_ < _ ∧ _ ∧ _ ∧ _ ∧ _ ∧ AllLt _ _) => hD
      rename Fr _ _ _ _ => cF
      rename News _ _ _ _ => cN
      refine append_K cF cN (.tail (Nat.ne_of_gt hD.2.2.2.1) (.tail (fresh_ne hp0 ga) (.tail (Nat.ne_of_gt lf2) (.tail (Nat.ne_of_gt hlt2.1) (.head (fun r hr => ?_)))))) ?_ (by simp only [List.size_toArray, sizeLine_eq]; omega)
      · rcases List.mem_cons.mp hr with rfl | hr
        · exact Nat.ne_of_lt hlt1.1
        · exact hOff r hr _ (.tail _ (.tail _ (.head _)))
      clear cF cN
      intro h₃ F' N'
      dsimp only [List.push_toArray] at F' N' ⊢
      k_steps
      unfold Stop
      rename Fr _ _ _ _ => cF
      rename News _ _ _ _ => cN
      rename Addr => D2
      rw [List.push_toArray] at cN
      refine ⟨D2, _, ⟨u, rfl⟩, rfl, _, _, _, k + 1, k', rfl, cF, rfl, rfl, rfl, fun r hr => cN r (led_in2 hr)⟩
    · rename ((Builtin.Str.occurrences _ _ _ _ _).isEmpty = false) => ha
      rw [eq_in, hEq] at ha
      cases ha
  case fin =>
    clear lF' lN' hl hS hltL h70 h70' hlist T₀ C₀ X₀ S hfind hW
    intro m₁ us us' k k' tl h tk hA hC hTl F' N'
    have hgl := (N' _ (.tail _ (.tail _ (.tail _ (.head _))))).1
    dsimp only
    k_steps
    rename Fr _ _ _ _ => cF
    rename News _ _ _ _ => cN
    have hTT : TabIs 70 wPos wQual c' tabs' := by with_unfolding_all exact hT'
    rename Heap => h9
    have hin : ∀ p ∈ tl, h9.get? p.1 = some p.2 ∧ (hideAll s.heap (tabs.map (·.1))).get? p.1 = none := fun p hp => ⟨(cN p (.tail _ (.tail _ (.tail _ (.tail _ (.tail _ hp)))))).1, (cN p (.tail _ (.tail _ (.tail _ (.tail _ (.tail _ hp)))))).2.2⟩
    refine ret _ tabs' _ _ (.inr ⟨c', hTT⟩) (fun p hp => (hin p (hTl p hp)).1) (fun p hp => (hin p (hTl p hp)).2) (fun b o e => hideAll_get _ (cF.keep b o e) fun hm => ?_) (res_of hTT (fun p hp => (hin p (hTl p hp)).1) ⟨(cN _ (.head _)).1, (cN _ (.head _)).2.2⟩ ⟨(cN (la, _) (.tail _ (.tail _ (.tail _ (.head _))))).1, (cN (la, _) (.tail _ (.tail _ (.tail _ (.head _))))).2.2⟩ ⟨(cN (lc, _) (.tail _ (.tail _ (.head _)))).1, (cN (lc, _) (.tail _ (.tail _ (.head _)))).2.2⟩ hA hC (fun p hp => hin p hp))
    obtain ⟨p, hp, rfl⟩ := List.mem_map.mp hm
    have := (hin p (hTl p hp)).2
    rw [e] at this
    cases this
end Mine
set_option maxHeartbeats 1000000
namespace Mine
open PySem.Calls PySem.Spec PyProof.V
/-- what _law_due answers of a tree -/
inductive DK (w : World) (h : Heap) : Value → List PySem.Str → List (Option PySem.Str) → List (PySem.Str × PySem.Str) → Prop
  | nil (v) : DK w h v [] [] []
  | unk {x t n r} : DK w h (.str x t) (n :: r) [none] []
  | step {a kvs n r x y as cs} : h.DictOf (PySem.strKind PySem.Challenge.rw_pe0068_01.row.prog w) a kvs → (a == sysModules) = false → Wrt w h 3 (.ref a) x → (∀ t, Wrt w h 3 ((valueAt kvs n).getD (.str (PySem.Str.ofString "?") t)) y) →
      (∀ t, DK w h ((valueAt kvs n).getD (.str (PySem.Str.ofString "?") t)) r as cs) → DK w h (.ref a) (n :: r) (some y :: as) ((n, x) :: cs)
abbrev ledD (lc la : Addr) (us us' : List Value) (k k' : Nat) (tl : List (Addr × Obj)) : List (Addr × Obj) := (lc, PySem.W.listOf us'.toArray k') :: (la, PySem.W.listOf us.toArray k) :: tl
def DJ (w : World) (h₀ : Heap) (lc la : Addr) (ns : List PySem.Str) (as : List (Option PySem.Str)) (cs : List (PySem.Str × PySem.Str)) (i : Nat) (m : PySem.Str → Option Value) (nx : List (Addr × Obj)) : Prop :=
  ∃ us us' k k' tups v as1 as2 cs1 cs2, nx = ledD lc la us us' k k' tups ∧ m (PySem.Str.ofString "tree") = some v ∧ m (PySem.Str.ofString "answers") = some (.ref la) ∧ m (PySem.Str.ofString "calls") = some (.ref lc) ∧
    DK w h₀ v (ns.drop i) as2 cs2 ∧ as = as1 ++ as2 ∧ cs = cs1 ++ cs2 ∧ Two (AnsIn tups) us as1 ∧ Two (CallIn tups) us' cs1 ∧ us.length ≤ i ∧ us'.length ≤ i ∧ OwnOff tups [lc, la]
def EndD (h₀ : Heap) (L lc la : Addr) (us us' : List Value) (tl : List (Addr × Obj)) (v : Value) (s₁ : Shared) (fl : Flow) (s' : Shared) : Prop :=
  fl = .next ∧ ∃ h' tk m' k k', s' = { s₁ with heap := h', toks := tk } ∧ Fr h₀ L h' m' ∧ m' (PySem.Str.ofString "tree") = some v ∧ m' (PySem.Str.ofString "answers") = some (.ref la) ∧ m' (PySem.Str.ofString "calls") = some (.ref lc) ∧ News h₀ L h' (ledD lc la us us' k k' tl)
theorem ledD_sub {lc la : Addr} {us us' : List Value} {k k' : Nat} {tl tl' : List (Addr × Obj)} (hs : ∀ p ∈ tl, p ∈ tl') {p : Addr × Obj} (h : p ∈ ledD lc la us us' k k' tl) : p ∈ ledD lc la us us' k k' tl' := by
  rcases List.mem_cons.mp h with rfl | h
  · exact .head _
  · rcases List.mem_cons.mp h with rfl | h
    · exact .tail _ (.head _)
    · exact .tail _ (.tail _ (hs _ h))
theorem ledD_two {lc la : Addr} {us us' : List Value} {k k' : Nat} {tl : List (Addr × Obj)} {b : Addr} (hb : b ∈ [lc, la]) : ∃ ob, (b, ob) ∈ ledD lc la us us' k k' tl := by
  simp only [List.mem_cons, List.not_mem_nil, or_false] at hb
  rcases hb with rfl | rfl
  · exact ⟨_, .head _⟩
  · exact ⟨_, .tail _ (.head _)⟩
theorem ledD_in {lc la : Addr} {us us' : List Value} {k k' : Nat} {tl : List (Addr × Obj)} {d q r : Addr × Obj} (hr : r ∈ ledD lc la us us' k k' (d :: q :: tl)) : r ∈ d :: q :: ledD lc la us us' k k' tl := by
  rcases List.mem_cons.mp hr with rfl | hr
  · exact .tail _ (.tail _ (.head _))
  · rcases List.mem_cons.mp hr with rfl | hr
    · exact .tail _ (.tail _ (.tail _ (.head _)))
    · rcases List.mem_cons.mp hr with rfl | hr
      · exact .head _
      · rcases List.mem_cons.mp hr with rfl | hr
        · exact .tail _ (.head _)
        · exact .tail _ (.tail _ (.tail _ (.tail _ hr)))
theorem resD {h₀ h : Heap} {r la lc : Addr} {tl : List (Addr × Obj)} {us us' : List Value} {k k' : Nat} {as : List (Option PySem.Str)} {cs : List (PySem.Str × PySem.Str)}
    (g1 : Got h₀ h r (tup2 (.ref la) (.ref lc))) (g2 : Got h₀ h la (PySem.W.listOf us.toArray k)) (g3 : Got h₀ h lc (PySem.W.listOf us'.toArray k')) (hA : Two (AnsIn tl) us as) (hC : Two (CallIn tl) us' cs) (hn : ∀ p ∈ tl, Got h₀ h p.1 p.2) : Res h₀ h (.ref r) as cs :=
  ⟨r, la, lc, us, us', k, k', rfl, g1, g2, g3, hA.mono fun _ _ ⟨p, o, e, hp, ho⟩ => ⟨p, o, e, hn _ hp, ho⟩, hC.mono fun _ _ ⟨p, o, e, hp, ho⟩ => ⟨p, o, e, hn _ hp, ho⟩⟩
theorem due_loop {w : World} {A : Around} {E : Value → Shared → Prop} {s : Shared} {env : Env} {h₀ : Heap} {body : List Stmt} {Q : Flow → Shared → Prop} {m₀ : PySem.Str → Option Value} {l lc la : Addr} {vs : List Value} {ns : List PySem.Str} {v₀ : Value} {as : List (Option PySem.Str)} {cs : List (PySem.Str × PySem.Str)}
    (hh : A.handled = none) (hl : h₀.IsList l vs.toArray) (hS : StrsAre vs ns) (hsm : ns.length ≤ 1000) (F : Fr h₀ env.locals s.heap m₀) (N : News h₀ env.locals s.heap (ledD lc la [] [] 0 0 []))
    (hm1 : m₀ (PySem.Str.ofString "tree") = some v₀) (hm2 : m₀ (PySem.Str.ofString "answers") = some (.ref la)) (hm3 : m₀ (PySem.Str.ofString "calls") = some (.ref lc)) (hW : DK w h₀ v₀ ns as cs)
    (turnS : ∀ (m₁ : PySem.Str → Option Value) (us us' : List Value) (k k' : Nat) (a : Addr) (kvs : List (PySem.Str × Value)) (x n y : PySem.Str) (tn : Tok) (tl : List (Addr × Obj)) (h : Heap) (tk : Nat), us.length ≤ 1000 → us'.length ≤ 1000 → h₀.DictOf (PySem.strKind PySem.Challenge.rw_pe0068_01.row.prog w) a kvs → (a == sysModules) = false → Wrt w h₀ 3 (.ref a) x → (∀ t, Wrt w h₀ 3 ((valueAt kvs n).getD (.str (PySem.Str.ofString "?") t)) y) → OwnOff tl [lc, la] →
      Fr h₀ env.locals h (fun z => if z = PySem.Str.ofString "name" then some (.str n tn) else if z = PySem.Str.ofString "tree" then some (.ref a) else if z = PySem.Str.ofString "answers" then some (.ref la) else if z = PySem.Str.ofString "calls" then some (.ref lc) else m₁ z) →
      News h₀ env.locals h ((lc, PySem.W.listOf us'.toArray k') :: (la, PySem.W.listOf us.toArray k) :: tl) →
      wpAny (model PySem.Challenge.rw_pe0068_01.row.prog w) A (execs body env) (fun fl s' => ∃ p q op oq t, AnsO (some y) op ∧ CallO (n, x) oq ∧ (∀ r ∈ ledD lc la us us' k k' tl, r.1 ≠ p ∧ r.1 ≠ q) ∧ EndD h₀ env.locals lc la (us ++ [Value.ref p]) (us' ++ [Value.ref q]) ((p, op) :: (q, oq) :: tl) ((valueAt kvs n).getD (.str (PySem.Str.ofString "?") t)) { s with heap := h, toks := tk } fl s') E { s with heap := h, toks := tk })
    (turnU : ∀ (m₁ : PySem.Str → Option Value) (us us' : List Value) (k k' : Nat) (x n : PySem.Str) (tx tn : Tok) (tl : List (Addr × Obj)) (h : Heap) (tk : Nat), us.length ≤ 1000 → us'.length ≤ 1000 → OwnOff tl [lc, la] →
      Fr h₀ env.locals h (fun z => if z = PySem.Str.ofString "name" then some (.str n tn) else if z = PySem.Str.ofString "tree" then some (.str x tx) else if z = PySem.Str.ofString "answers" then some (.ref la) else if z = PySem.Str.ofString "calls" then some (.ref lc) else m₁ z) →
      News h₀ env.locals h ((lc, PySem.W.listOf us'.toArray k') :: (la, PySem.W.listOf us.toArray k) :: tl) →
      wpAny (model PySem.Challenge.rw_pe0068_01.row.prog w) A (execs body env) (fun fl s' => ∃ (r la' p : Addr) (op : Obj) (h' : Heap) (tk' k2 : Nat), fl = Flow.ret (Value.ref r) ∧ s' = { s with heap := h', toks := tk' } ∧ Kp h₀ h' ∧ Got h₀ h' r (tup2 (.ref la') (.ref lc)) ∧ Got h₀ h' la' (PySem.W.listOf (us ++ [Value.ref p]).toArray k2) ∧ Got h₀ h' lc (PySem.W.listOf us'.toArray k') ∧ AnsO none op ∧ (∀ q ∈ (p, op) :: tl, Got h₀ h' q.1 q.2)) E { s with heap := h, toks := tk })
    (retQ : ∀ (r : Addr) h' tk', Kp h₀ h' → Res h₀ h' (.ref r) as cs → Q (Flow.ret (Value.ref r)) { s with heap := h', toks := tk' })
    (fin : ∀ (m₁ : PySem.Str → Option Value) (us us' : List Value) (k k' : Nat) (tl : List (Addr × Obj)) (h : Heap) (tk : Nat), Two (AnsIn tl) us as → Two (CallIn tl) us' cs → Fr h₀ env.locals h (fun z => if z = PySem.Str.ofString "answers" then some (.ref la) else if z = PySem.Str.ofString "calls" then some (.ref lc) else m₁ z) →
      News h₀ env.locals h ((lc, PySem.W.listOf us'.toArray k') :: (la, PySem.W.listOf us.toArray k) :: tl) → Q .next { s with heap := h, toks := tk }) :
    wpAny (model PySem.Challenge.rw_pe0068_01.row.prog w) A (pyIter (.ref l)) (fun it s₂ => LoopAtV PySem.Challenge.rw_pe0068_01.row.prog w A h₀ env (PySem.Str.ofString "name") body Q E it s₂) E s := by
  have hlen : vs.length = ns.length := hS.length
  refine list_loopV (DJ w h₀ lc la ns as cs) hh hl F N ⟨[], [], 0, 0, [], v₀, [], as, [], cs, rfl, hm1, hm2, hm3, hW, rfl, rfl, .nil, .nil, Nat.le_refl _, Nat.le_refl _, fun _ h => nomatch h⟩ ?_ ?_
  · clear hW hm1 hm2 hm3 N F
    rintro i v m₁ news₁ h tk own I oI hv ⟨us, us', k, k', tups, tv, as1, as2, cs1, cs2, rfl, m1, m2, m3, hW, rfl, rfl, hA, hC, hu1, hu2, hoff⟩ hI1 hI2 hI3 F₁ N₁
    obtain ⟨n, tn, hn, rfl⟩ := strs_at hS hv
    have hilt : i < ns.length := (List.getElem?_eq_some_iff.mp hn).1
    have hdrop : ns.drop i = n :: ns.drop (i + 1) := by
      rw [List.drop_eq_getElem_cons hilt]
      congr 1
      have := List.getElem?_eq_getElem hilt
      rw [hn] at this
      exact (Option.some.inj this).symm
    rw [hdrop] at hW
    have F₂ := frame_four F₁ m1 m2 m3
    have hadr : ∀ b ∈ [lc, la], b ≠ I := fun b hb => by
      simp only [List.mem_cons, List.not_mem_nil, or_false] at hb
      rcases hb with rfl | rfl
      · exact hI3 _ (.head _)
      · exact hI3 _ (.tail _ (.head _))
    have hoff2 : OwnOff (tups ++ own) [lc, la] := fun p hp b hb => by
      rcases List.mem_append.mp hp with hp | hp
      · exact hoff p hp b hb
      · rw [hI2 p hp]; exact (hadr b hb).symm
    cases hW with
    | unk =>
      refine wpAny_mono (turnU m₁ us us' k k' _ n _ tn (tups ++ own) h tk (by omega) (by omega) hoff2 F₂ (by simpa [ledD] using N₁)) ?_ fun _ _ e => e
      rintro fl s' ⟨r, la', p, op, h', tk', k2, rfl, rfl, hkp, g1, g2, g3, ho, hin⟩
      refine LoopStepV.ret (retQ r h' tk' hkp (resD (tl := (p, op) :: (tups ++ own)) g1 g2 g3 ?_ ?_ hin))
      · exact (hA.mono (AnsIn.mono fun p hp => .tail _ (List.mem_append_left _ hp))).snoc ⟨p, op, rfl, .head _, ho⟩
      · have := hC.mono (CallIn.mono (tl' := (p, op) :: (tups ++ own)) fun p hp => .tail _ (List.mem_append_left _ hp))
        simpa using this
    | step hd hsm hwx hwy hrest =>
      rename_i a kvs x y as3 cs3
      refine wpAny_mono (turnS m₁ us us' k k' a kvs x n y tn (tups ++ own) h tk (by omega) (by omega) hd hsm hwx hwy hoff2 F₂ (by simpa [ledD] using N₁)) ?_ fun _ _ e => e
      rintro fl s' ⟨p, q, op, oq, t, ho, hoq, hnew, rfl, h', tk', m', k2, k2', rfl, F', v1, v2, v3, N'⟩
      refine LoopStepV.next (LoopStepU.intro (news₂ := ledD lc la (us ++ [Value.ref p]) (us' ++ [Value.ref q]) k2 k2' ((p, op) :: (q, oq) :: tups)) F' ?_ ?_ ?_)
      · intro r hr
        rcases List.mem_append.mp hr with hr | hr
        · exact N' r (.tail _ (.tail _ (.tail _ (.tail _ (List.mem_append_right _ hr)))))
        · refine N' r (ledD_sub (fun r hr => ?_) hr)
          rcases List.mem_cons.mp hr with rfl | hr
          · exact .head _
          · rcases List.mem_cons.mp hr with rfl | hr
            · exact .tail _ (.head _)
            · exact .tail _ (.tail _ (List.mem_append_left _ hr))
      · have hIn : (I, oI) ∈ ledD lc la us us' k k' (tups ++ own) := .tail _ (.tail _ (List.mem_append_right _ hI1))
        intro r hr hI
        have hI := List.mem_singleton.mp hI
        rcases List.mem_cons.mp hr with rfl | hr
        · exact hadr _ (.head _) hI
        · rcases List.mem_cons.mp hr with rfl | hr
          · exact hadr _ (.tail _ (.head _)) hI
          · rcases List.mem_cons.mp hr with rfl | hr
            · exact (hnew _ hIn).1 hI.symm
            · rcases List.mem_cons.mp hr with rfl | hr
              · exact (hnew _ hIn).2 hI.symm
              · exact hI3 r (.tail _ (.tail _ hr)) hI
      · refine ⟨us ++ [Value.ref p], us' ++ [Value.ref q], k2, k2', (p, op) :: (q, oq) :: tups, _, as1 ++ [some y], as3, cs1 ++ [(n, x)], cs3, rfl, v1, v2, v3, hrest t, by simp, by simp, ?_, ?_, by simp; omega, by simp; omega, ?_⟩
        · exact (hA.mono (AnsIn.mono fun p hp => .tail _ (.tail _ hp))).snoc ⟨p, op, rfl, .head _, ho⟩
        · exact (hC.mono (CallIn.mono fun p hp => .tail _ (.tail _ hp))).snoc ⟨q, oq, rfl, .tail _ (.head _), hoq⟩
        · intro r hr b hb
          rcases List.mem_cons.mp hr with rfl | hr
          · obtain ⟨ob, hob⟩ := ledD_two (us := us) (us' := us') (k := k) (k' := k') (tl := tups ++ own) hb
            exact (hnew _ hob).1.symm
          · rcases List.mem_cons.mp hr with rfl | hr
            · obtain ⟨ob, hob⟩ := ledD_two (us := us) (us' := us') (k := k) (k' := k') (tl := tups ++ own) hb
              exact (hnew _ hob).2.symm
            · exact hoff r hr b hb
  · clear hW hm1 hm2 hm3 N F
    rintro m₁ news₁ h tk ⟨us, us', k, k', tups, tv, as1, as2, cs1, cs2, rfl, m1, m2, m3, hW, rfl, rfl, hA, hC, hu1, hu2, hoff⟩ F₁ N₁
    rw [hlen, List.drop_length] at hW
    cases hW
    refine fin m₁ us us' k k' tups h tk (by simpa using hA) (by simpa using hC) ?_ N₁
    have e : (fun z => if z = PySem.Str.ofString "answers" then some (Value.ref la) else if z = PySem.Str.ofString "calls" then some (Value.ref lc) else m₁ z) = m₁ := by
      funext z
      by_cases q1 : z = PySem.Str.ofString "answers"
      · rw [if_pos q1, q1, m2]
      · rw [if_neg q1]
        by_cases q2 : z = PySem.Str.ofString "calls"
        · rw [if_pos q2, q2, m3]
        · rw [if_neg q2]
    rw [e]; exact F₁
end Mine
set_option maxHeartbeats 1000000
namespace Mine
open PySem.Calls PySem.Spec PyProof.V
local macro_rules | `(tactic| walk_at "eval Call Attribute") => `(tactic| with_reducible refine Stop.mk ?_)
local macro_rules | `(tactic| walk_at "call builtin:list.append") => `(tactic| with_reducible refine Stop.mk ?_)
local macro_rules | `(tactic| walk_at "binaryOp Add ref ref") => `(tactic| with_reducible refine Stop.mk ?_)
local macro_rules | `(tactic| walk_at "Exists") => `(tactic| with_reducible refine Stop.mk ?_)
local macro_rules | `(tactic| walk_at "call ref") => `(tactic| with_reducible refine Stop.mk ?_)
theorem due_c {w : World} {lo : List PySem.Str} {mean : ExcName → Option Value} {mg mb : PySem.Str → Option Value} {dp un : Nat} {fr : Option (List Env)} {gd : Option (List Code)} {s : Shared} {l : Addr} {v : Value} {vs : List Value} {ns : List PySem.Str} {as : List (Option PySem.Str)} {cs : List (PySem.Str × PySem.Str)} {Q E : Value → Shared → Prop}
    (X : (hd68.heap_39 w.params).In s.heap) (T : Top topProg lo mean mg mb s.heap) (hd : dp + 40 < recursionLimit) (hu : un + 120 < cLine) (hl : s.heap.IsList l vs.toArray) (hS : StrsAre vs ns) (hsm : ns.length ≤ 1000)
    (hD : DK w s.heap v ns as cs)
    (ret : ∀ (r : Addr) h' tk', Kp s.heap h' → Res s.heap h' (.ref r) as cs → Q (.ref r) { s with heap := h', toks := tk' }) :
    wpAny (model PySem.Challenge.rw_pe0068_01.row.prog w) (Ar dp un fr gd) (call (.ref 82) [v, .ref l]) Q E s := by
  revert X; k_fill; intro X
  k_with_none
  w_top off
  (k_with "pyIter ref" => with_reducible refine Stop.mk ?_)
  refine' enter0 X T ?k6 ?k7 ?k8 ?k9 ?kB ?_ ?c2 ?c3 ?c4 ?c5
  (case k6 => k_is)
  (case k7 => k_is)
  (case k8 => show dp < _; omega)
  (case k9 => exact BindsTo.of_eq rfl)
  (case kB => exact locs rfl)
  (case c2 => exact rfl)
  (case c3 => exact rfl)
  (case c4 => exact rfl)
  (case c5 => decide)
  intro L' h₁ tk F' N'
  (try dsimp only); (try k_fold)
  k_steps
  unfold Stop
  rename (_ < _) => hlt
  rename Fr _ _ _ _ => lF'
  rename News _ _ _ _ => lN'
  rename_i la _ _ _ lc _ _
  (with_unfolding_all refine' due_loop (lc := lc) (la := la) (by rfl) hl hS hsm lF' lN' (by rfl) (by rfl) (by rfl) hD ?turnS ?turnU ?retQ ?fin)
  case turnS =>
    clear lF' lN' ret hD hl hS
    intro m₁ us us' k k' a kvs x n y tn tl h tk hus hus' hdict hsys hwx hwy hOff F' N'
    obtain ⟨od, es, ep, hod, hex, hdat, hkeys, hpairs, hnd⟩ := id hdict
    k_steps
    rename Fr _ _ _ _ => cF
    refine IsiPair.dict_str (cF.keep _ _ hod) hex.1 ?_
    k_steps
    unfold Stop
    refine methodCall_KW ?_
    k_steps
    unfold Stop
    rename Fr _ _ _ _ => cF
    rename News _ _ _ _ => cN
    refine written_c 3 (dp := dp + 1) (X.keeps cF.keep) (T.keeps cF.keep) (by omega) (hwx.mono cF.keep) ?_
    intro t1 h1' tk1 hk1
    have F' := cF.keeps hk1
    have N' : News _ _ h1' _ := fun r hr => ⟨hk1 _ _ (cN r hr).1, (cN r hr).2⟩
    clear cF cN
    dsimp only
    k_steps
    unfold Stop
    rename (_ < _ ∧ _ < _ ∧ AllLt _ _) => hq1
    rename Fr _ _ _ _ => cF
    rename News _ _ _ _ => cN
    rename Addr => q
    refine append_K cF cN (.tail (Nat.ne_of_gt hq1.1) (.head (fun r hr => ?_))) ?_ (by simp only [List.size_toArray, sizeLine_eq]; omega)
    · rcases List.mem_cons.mp hr with rfl | hr
      · exact Nat.ne_of_lt hlt
      · exact hOff r hr _ (.head _)
    clear cF cN
    intro h2 F' N'
    dsimp only [List.push_toArray] at F' N' ⊢
    k_steps
    unfold Stop
    rename Fr _ _ _ _ => cF
    rename News _ _ _ _ => cN
    have hD2 := DictOf.up hdict fun o e => cF.keep _ o e
    refine methodCall_KW (ld cF rfl ?_ rfl rfl (by decide +kernel))
    refine dg_method hD2 ?_
    dsimp only
    k_steps
    refine dg_get2 hD2 hsys ?_
    generalize hv : (valueAt kvs n).getD _ = tv
    have hwy2 : Wrt w s.heap 3 tv y := by rw [← hv]; exact hwy _
    clear hD2 hwy hwx
    k_steps
    unfold Stop
    clear cF cN
    refine methodCall_KW ?_
    k_steps
    unfold Stop
    rename Fr _ _ _ _ => cF
    rename News _ _ _ _ => cN
    refine written_c 3 (dp := dp + 1) (X.keeps cF.keep) (T.keeps cF.keep) (by omega) (hwy2.mono cF.keep) ?_
    intro t2 h4 tk4 hk4
    have F' := cF.keeps hk4
    have N' : News _ _ h4 _ := fun r hr => ⟨hk4 _ _ (cN r hr).1, (cN r hr).2⟩
    clear cF cN
    dsimp only
    k_steps
    unfold Stop
    rename Fr _ _ _ _ => cF
    rename News _ _ _ _ => cN
    refine written_c 3 (dp := dp + 1) (X.keeps cF.keep) (T.keeps cF.keep) (by omega) (hwy2.mono cF.keep) ?_
    intro t3 h5 tk5 hk5
    have F' := cF.keeps hk5
    have N' : News _ _ h5 _ := fun r hr => ⟨hk5 _ _ (cN r hr).1, (cN r hr).2⟩
    clear cF cN
    dsimp only
    k_steps
    unfold Stop
    rename (_ < _ ∧ _ < _ ∧ _ < _ ∧ AllLt _ _) => hp1
    rename Fr _ _ _ _ => cF
    rename News _ _ _ _ => cN
    rename Addr => p
    refine append_K cF cN (.tail (Nat.ne_of_gt hp1.2.2.1) (.tail (Nat.ne_of_gt hq1.2.1) (.tail (Nat.ne_of_gt hlt) (.head (fun r hr => hOff r hr _ (.tail _ (.head _))))))) ?_ (by simp only [List.size_toArray, sizeLine_eq]; omega)
    clear cF cN
    intro h6 F' N'
    dsimp only [List.push_toArray] at F' N' ⊢
    k_steps
    unfold Stop
    rename Fr _ _ _ _ => cF
    rename News _ _ _ _ => cN
    have hnew : ∀ r ∈ ledD lc la us us' k k' tl, r.1 ≠ p ∧ r.1 ≠ q := fun r hr => by
      rcases List.mem_cons.mp hr with rfl | hr
      · exact ⟨Nat.ne_of_lt hp1.2.1, Nat.ne_of_lt hq1.1⟩
      · rcases List.mem_cons.mp hr with rfl | hr
        · exact ⟨Nat.ne_of_lt hp1.2.2.1, Nat.ne_of_lt hq1.2.1⟩
        · exact ⟨Nat.ne_of_lt (of_allLt hp1.2.2.2 r hr), Nat.ne_of_lt (of_allLt hq1.2.2 r hr)⟩
    rw [List.push_toArray, List.push_toArray] at cN
    refine ⟨p, q, tup2 (.str y t2) (.str y t3), tup2 (.str n tn) (.str x t1), _, ⟨t2, t3, rfl⟩, ⟨tn, t1, rfl⟩, hnew, rfl, _, _, _, k + 1, k' + 1, rfl, cF, (congrArg some hv.symm : some tv = _), rfl, rfl, fun r hr => cN r (ledD_in hr)⟩
  case turnU =>
    clear lF' lN' ret hD hl hS
    intro m₁ us us' k k' x n tx tn tl h tk hus hus' hOff F' N'
    k_steps
    unfold Stop
    rename Fr _ _ _ _ => cF
    rename News _ _ _ _ => cN
    have gl1 := (cN _ (.head _)).1
    have gl2 := (cN (la, _) (.tail _ (.tail _ (.tail _ (.head _))))).1
    refine add_lists (vs := us) (ws := [_]) cF cN ⟨_, gl2, rfl, _, rfl⟩ ⟨_, gl1, rfl, _, rfl⟩ ?_ (by simp only [List.length_singleton, sizeLine_eq]; omega)
    clear cF cN
    intro h2 F' N'
    dsimp only
    k_steps
    unfold Stop
    rename Fr _ _ _ _ => cF
    rename News _ _ _ _ => cN
    refine ⟨_, _, _, tup2 (.ref 37) (.str (PySem.Str.ofString "") tk), _, _, 0, rfl, rfl, cF.keep, got_of cN (.head _), got_of cN (.tail _ (.head _)), got_of cN (.tail _ (.tail _ (.tail _ (.tail _ (.head _))))), ⟨_, rfl⟩, fun q hq => got_of cN ?_⟩
    rcases List.mem_cons.mp hq with rfl | hq
    · exact .tail _ (.tail _ (.tail _ (.head _)))
    · exact .tail _ (.tail _ (.tail _ (.tail _ (.tail _ (.tail _ hq)))))
  case retQ =>
    intro r h' tk' hkp hres
    exact ret r h' tk' hkp hres
  case fin =>
    clear lF' lN' hD hl hS
    intro m₁ us us' k k' tl h tk hA hC F' N'
    k_steps
    rename Fr _ _ _ _ => cF
    rename News _ _ _ _ => cN
    exact ret _ _ _ cF.keep (resD (tl := tl) (got_of cN (.head _)) (got_of cN (.tail _ (.tail _ (.head _)))) (got_of cN (.tail _ (.head _))) hA hC fun p hp => got_of cN (.tail _ (.tail _ (.tail _ hp))))
end Mine
set_option maxHeartbeats 1000000
namespace Mine
open PySem.Calls PySem.Spec PyProof.V PySem.SeqAt PySem.MeetsSeq PySem.SeqRoads2
section
variable {A : Around} {s : Shared}
theorem eq_text (x : PySem.Str) (t u : Tok) : EqAt A s (.str x t) (.str x u) true := by
  have := EqGives.str x x t u
  rw [beq_self_eq_true] at this
  exact this.at A s
theorem eq_tup2 {p q : Addr} {a b a' b' : Value} (hp : s.heap.get? p = some (tup2 a b)) (hq : s.heap.get? q = some (tup2 a' b')) (hu : A.units < cLine) (h1 : EqAt A.in1 s a a' true) (h2 : EqAt A.in1 s b b' true) : EqAt A s (.ref p) (.ref q) true := by
  by_cases e : p = q
  · subst e; exact EqAt.same _
  · refine EqAt.of_refs e ?_
    have := RcAt.tuples (A := A) (s := s) (l := p) (b := q) (items := #[a, b]) (items2 := #[a', b']) (e := fun _ => true) ⟨_, hp, rfl, _, rfl⟩ ⟨_, hq, rfl, _, rfl⟩ hu (fun j h1' h2' => by
      have : j = 0 ∨ j = 1 := by simp at h1'; omega
      rcases this with rfl | rfl
      · exact h1
      · exact h2)
    have e2 : ((List.range (min (#[a, b] : Array Value).size (#[a', b'] : Array Value).size)).all (fun _ => true) && (#[a, b] : Array Value).size == (#[a', b'] : Array Value).size) = true := by
      rw [Bool.and_eq_true]; exact ⟨List.all_eq_true.mpr fun _ _ => rfl, rfl⟩
    rw [e2] at this
    exact this
theorem eq_list {p q : Addr} {us us' : List Value} {k k' : Nat} (hp : s.heap.get? p = some (PySem.W.listOf us.toArray k)) (hq : s.heap.get? q = some (PySem.W.listOf us'.toArray k')) (hu : A.units < cLine) (h : Two (fun u u' => EqAt A.in1 s u u' true) us us') : RcAt A s (.ref p) (.ref q) true := by
  have hg : ∀ {us us' : List Value}, Two (fun u u' => EqAt A.in1 s u u' true) us us' → ∀ j (h1 : j < us.length) (h2 : j < us'.length), EqAt A.in1 s us[j] us'[j] true := by
    intro us us' h
    induction h with
    | nil => intro j h1; simp at h1
    | cons hr _ ih =>
      intro j h1 h2
      cases j with
      | zero => exact hr
      | succ j => exact ih j (by simpa using h1) (by simpa using h2)
  have := RcAt.lists (A := A) (s := s) (l := p) (b := q) (items := us.toArray) (items2 := us'.toArray) (e := fun _ => true) ⟨_, hp, rfl, _, rfl⟩ ⟨_, hq, rfl, _, rfl⟩ (by simp [h.length]) hu (fun j h1 h2 => by
    simp only [List.size_toArray] at h1 h2
    simpa using hg h j h1 h2)
  have e2 : ((List.range us.toArray.size).all (fun _ => true)) = true := List.all_eq_true.mpr fun _ _ => rfl
  rw [e2] at this
  exact this
theorem eq_of_rc {p q : Addr} (h : RcAt A s (.ref p) (.ref q) true) : EqAt A s (.ref p) (.ref q) true := by
  by_cases e : p = q
  · subst e; exact EqAt.same _
  · exact EqAt.of_refs e h
theorem two_both {α : Type} {R R' : Value → α → Prop} {S : Value → Value → Prop} {us us' : List Value} {as : List α} (h : Two R us as) (h' : Two R' us' as) (hs : ∀ u u' a, R u a → R' u' a → S u u') : Two S us us' := by
  induction h generalizing us' with
  | nil => cases h'; exact .nil
  | cons h1 _ ih => cases h' with
    | cons h2 h3 => exact .cons (hs _ _ _ h1 h2) (ih h3)
theorem eq_ans {tl tl' : List (Addr × Obj)} (g : ∀ p ∈ tl, s.heap.get? p.1 = some p.2) (g' : ∀ p ∈ tl', s.heap.get? p.1 = some p.2) (hu : A.units + 8 < cLine) {u u' : Value} {a : Option PySem.Str} (h : AnsIn tl u a) (h' : AnsIn tl' u' a) : EqAt A s u u' true := by
  obtain ⟨p, o, rfl, hp, ho⟩ := h
  obtain ⟨q, o', rfl, hq, ho'⟩ := h'
  cases a with
  | none =>
    obtain ⟨t, rfl⟩ := ho
    obtain ⟨t', rfl⟩ := ho'
    exact eq_tup2 (g _ hp) (g' _ hq) (by omega) (EqAt.same _) (eq_text _ _ _)
  | some y =>
    obtain ⟨t, t2, rfl⟩ := ho
    obtain ⟨t', t2', rfl⟩ := ho'
    exact eq_tup2 (g _ hp) (g' _ hq) (by omega) (eq_text _ _ _) (eq_text _ _ _)
theorem eq_call {tl tl' : List (Addr × Obj)} (g : ∀ p ∈ tl, s.heap.get? p.1 = some p.2) (g' : ∀ p ∈ tl', s.heap.get? p.1 = some p.2) (hu : A.units + 8 < cLine) {u u' : Value} {c : PySem.Str × PySem.Str} (h : CallIn tl u c) (h' : CallIn tl' u' c) : EqAt A s u u' true := by
  obtain ⟨p, o, rfl, hp, ho⟩ := h
  obtain ⟨q, o', rfl, hq, ho'⟩ := h'
  obtain ⟨t, t2, rfl⟩ := ho
  obtain ⟨t', t2', rfl⟩ := ho'
  exact eq_tup2 (g _ hp) (g' _ hq) (by omega) (eq_text _ _ _) (eq_text _ _ _)
theorem in1_units {A : Around} : A.in1.units = A.units + 1 := rfl
theorem eq_res {tl tl' : List (Addr × Obj)} (g : ∀ p ∈ tl, s.heap.get? p.1 = some p.2) (g' : ∀ p ∈ tl', s.heap.get? p.1 = some p.2) (hu : A.units + 16 < cLine) {u u' : Value} {as : List (Option PySem.Str)} {cs : List (PySem.Str × PySem.Str)} (h : ResIn tl u as cs) (h' : ResIn tl' u' as cs) : EqAt A s u u' true := by
  obtain ⟨r, la, lc, us, vs, k, k2, rfl, h1, h2, h3, h4, h5⟩ := h
  obtain ⟨r', la', lc', us', vs', k', k2', rfl, h1', h2', h3', h4', h5'⟩ := h'
  refine eq_tup2 (g _ h1) (g' _ h1') (by omega) (eq_of_rc (eq_list (g _ h2) (g' _ h2') ?_ ?_)) (eq_of_rc (eq_list (g _ h3) (g' _ h3') ?_ ?_))
  · rw [in1_units]; omega
  · exact two_both h4 h4' fun u u' a x x' => eq_ans g g' (by rw [in1_units, in1_units]; omega) x x'
  · rw [in1_units]; omega
  · exact two_both h5 h5' fun u u' a x x' => eq_call g g' (by rw [in1_units, in1_units]; omega) x x'
theorem eq_all {prog : Program} {w : World} {E : Value → Shared → Prop} {Q : Value → Shared → Prop} {p q : Addr} {us us' : List Value} {k k' : Nat} {tl tl' : List (Addr × Obj)} {ws : List (List (Option PySem.Str) × List (PySem.Str × PySem.Str))}
    (hp : s.heap.get? p = some (PySem.W.listOf us.toArray k)) (hq : s.heap.get? q = some (PySem.W.listOf us'.toArray k')) (g : ∀ p ∈ tl, s.heap.get? p.1 = some p.2) (g' : ∀ p ∈ tl', s.heap.get? p.1 = some p.2) (hu : A.units + 32 < cLine)
    (h : Two (fun v w => ResIn tl v w.1 w.2) us ws) (h' : Two (fun v w => ResIn tl' v w.1 w.2) us' ws) (hQ : Q (.bool true) s) : wpAny (model prog w) A (compareOp .Eq (.ref p) (.ref q)) Q E s :=
  eq_list hp hq (by omega) (two_both h h' fun u u' a x x' => eq_res g g' (by rw [in1_units]; omega) x x') prog w E Q hQ
end
end Mine
set_option maxHeartbeats 1000000
namespace Mine
open PySem.Calls PySem.Spec PyProof.V PyProof.Rows.LCg
abbrev adr (tabs : List (Addr × Obj)) : List Addr := tabs.map (·.1)
theorem hide_mono {h h' : Heap} {as : List Addr} (hk : Kp h h') : Kp (hideAll h as) (hideAll h' as) := fun b o e => by
  refine hideAll_get _ (hk b o (of_hideAll _ e)) fun hm => ?_
  rw [hideAll_none _ hm] at e
  cases e
theorem none_of {h h' : Heap} {b : Addr} (hk : Kp h h') (hn : h'.get? b = none) : h.get? b = none := by
  cases e : h.get? b with
  | none => rfl
  | some o => rw [hk b o e] at hn; cases hn
theorem Res.base {h₀ h₁ h : Heap} (hk : Kp h₀ h₁) {v : Value} {as : List (Option PySem.Str)} {cs : List (PySem.Str × PySem.Str)} (H : Res h₁ h v as cs) : Res h₀ h v as cs := by
  obtain ⟨r, la, lc, us, us', k, k', e, h1, h2, h3, h4, h5⟩ := H
  exact ⟨r, la, lc, us, us', k, k', e, ⟨h1.1, none_of hk h1.2⟩, ⟨h2.1, none_of hk h2.2⟩, ⟨h3.1, none_of hk h3.2⟩, h4.mono fun _ _ ⟨p, o, e, hg, hr⟩ => ⟨p, o, e, ⟨hg.1, none_of hk hg.2⟩, hr⟩, h5.mono fun _ _ ⟨p, o, e, hg, hr⟩ => ⟨p, o, e, ⟨hg.1, none_of hk hg.2⟩, hr⟩⟩
theorem Got.hide {h h' : Heap} {tabs : List (Addr × Obj)} (ht : ∀ p ∈ tabs, h.get? p.1 = some p.2) {p : Addr} {o : Obj} (H : Got h h' p o) : Got (hideAll h (adr tabs)) (hideAll h' (adr tabs)) p o := by
  refine ⟨hideAll_get _ H.1 fun hm => ?_, ?_⟩
  · obtain ⟨q, hq, rfl⟩ := List.mem_map.mp hm
    have := H.2
    rw [ht q hq] at this
    cases this
  · cases e : (hideAll h (adr tabs)).get? p with
    | none => rfl
    | some o' => have := H.2; rw [of_hideAll _ e] at this; cases this
theorem Res.hide {h h' : Heap} {tabs : List (Addr × Obj)} (ht : ∀ p ∈ tabs, h.get? p.1 = some p.2) {v : Value} {as : List (Option PySem.Str)} {cs : List (PySem.Str × PySem.Str)} (H : Res h h' v as cs) : Res (hideAll h (adr tabs)) (hideAll h' (adr tabs)) v as cs := by
  obtain ⟨r, la, lc, us, us', k, k', e, h1, h2, h3, h4, h5⟩ := H
  exact ⟨r, la, lc, us, us', k, k', e, h1.hide ht, h2.hide ht, h3.hide ht, h4.mono fun _ _ ⟨p, o, e, hg, hr⟩ => ⟨p, o, e, hg.hide ht, hr⟩, h5.mono fun _ _ ⟨p, o, e, hg, hr⟩ => ⟨p, o, e, hg.hide ht, hr⟩⟩
/-- what an element's call hands on -/
def EltQ (s : Shared) (tabs : List (Addr × Obj)) (as : List (Option PySem.Str)) (cs : List (PySem.Str × PySem.Str)) (Q : Value → Shared → Prop) : Prop :=
  ∀ y tabs' h' tk', TabOk 70 wPos wQual tabs' → (∀ p ∈ tabs', h'.get? p.1 = some p.2) → (∀ p ∈ tabs', (hideAll s.heap (adr tabs)).get? p.1 = none) → Kp (hideAll s.heap (adr tabs)) (hideAll h' (adr tabs')) → Res (hideAll s.heap (adr tabs)) (hideAll h' (adr tabs')) y as cs → Q y { s with heap := h', toks := tk' }
theorem elt_walk {w : World} {lo : List PySem.Str} {mean : ExcName → Option Value} {mg mb : PySem.Str → Option Value} {dp un : Nat} {fr : Option (List Env)} {gd : Option (List Code)} {E Q : Value → Shared → Prop} {s : Shared} {env : Env} {scope : Scope} {cl : List (PySem.Str × Addr)} {h₀ : Heap} {Cf c a l : Addr} {m : PySem.Str → Option Value} {tabs : List (Addr × Obj)} {x : PySem.Str} {vs : List Value} {ns : List PySem.Str} {as : List (Option PySem.Str)} {cs : List (PySem.Str × PySem.Str)} {p1 p2 p3 p4 p5 p6 : Pos}
    (X : (hd68.heap_39 w.params).In h₀) (T : Top topProg lo mean mg mb h₀) (C₀ : CodeHd h₀ 74 70) (S : Kp h₀ s.heap) (hd : dp + 60 < recursionLimit) (hu : un + 160 < cLine)
    (ht : TabOk 70 wPos wQual tabs) (htb : ∀ p ∈ tabs, s.heap.get? p.1 = some p.2) (ht0 : ∀ p ∈ tabs, h₀.get? p.1 = none)
    (hg : env.globals = mainGlobals) (hk : scope.kind = .function)
    (l1 : (relabel scope env).names.lookup (PySem.Str.ofString "each") = some .local) (l2 : (relabel scope env).names.lookup (PySem.Str.ofString "drawn") = some .cell) (l3 : (relabel scope env).names.lookup (PySem.Str.ofString "_law_walked") = some .globalImplicit) (l4 : (relabel scope env).names.lookup (PySem.Str.ofString "_law_written") = some .globalImplicit)
    (hc : cl.lookup (PySem.Str.ofString "drawn") = some c) (hcell : s.heap.IsCell c (some (.ref a))) (hn : s.heap.Ns Cf m) (hm : m (PySem.Str.ofString "each") = some (.ref l))
    (hW : Wrt w s.heap 3 (.ref a) x) (hl : (hideAll s.heap (adr tabs)).IsList l vs.toArray) (hS : StrsAre vs ns) (hsm : ns.length ≤ 1000) (hWK : WK x ns as cs) (hQ : EltQ s tabs as cs Q) :
    wpAny (model PySem.Challenge.rw_pe0068_01.row.prog w) (Ar dp un fr gd) (eval (.Call (.Name (PySem.Str.ofString "_law_walked") p1) [.Call (.Name (PySem.Str.ofString "_law_written") p2) [.Name (PySem.Str.ofString "drawn") p3] [] p4, .Name (PySem.Str.ofString "each") p5] [] p6) (compEnvC scope cl Cf env)) Q E s := by
  have Xs := X.keeps S
  have Ts := T.keeps S
  revert Xs; k_fill; intro Xs
  refine Call_ (Name_function_global hk l3 (loadGlobal_global (by show _; rw [show (compEnvC scope cl Cf env).globals = mainGlobals from hg]; exact Ts.g) (mg_of Xs Ts.g (v := .ref 75) (by k_is)) ?_) (by decide +kernel))
  refine callWith_K Xs (by k_is) ?_
  refine spliced_more (Call_ (Name_function_global hk l4 (loadGlobal_global (by show _; rw [show (compEnvC scope cl Cf env).globals = mainGlobals from hg]; exact Ts.g) (mg_of Xs Ts.g (v := .ref 68) (by k_is)) ?_) (by decide +kernel)))
  refine callWith_K Xs (by k_is) ?_
  refine spliced_more (wpAny_Name (wpAny_loadName_cell hk l2 hc hcell ?_) (by decide +kernel))
  refine spliced_none ⟨Xs, ?_⟩
  refine written_c 3 Xs Ts (by omega) hW ?_
  intro t2 h2 tk2 k2
  have S2 : Kp h₀ h2 := fun b o e => k2 b o (S b o e)
  have htb2 : ∀ p ∈ tabs, h2.get? p.1 = some p.2 := fun p hp => k2 _ _ (htb p hp)
  have hb : Kp h₀ (hideAll h2 (adr tabs)) := hide_sub S2 fun b hb => by
    obtain ⟨p, hp, rfl⟩ := List.mem_map.mp hb
    exact ht0 p hp
  have hmn : Kp (hideAll s.heap (adr tabs)) (hideAll h2 (adr tabs)) := hide_mono k2
  refine spliced_more (wpAny_Name (wpAny_loadName_local hk l1 (hn.at' fun o e => k2 _ o e) hm ?_) (by decide +kernel))
  refine spliced_none ⟨X.keeps S2, ?_⟩
  refine walked_c (X.keeps hb) (T.keeps hb) (C₀.keeps hb) (fun b o e => of_hideAll _ e) (by omega) (by omega) (hl.at fun o e => hmn _ o e) hS hsm ht htb2 (fun p hp => hideAll_none _ (List.mem_map_of_mem hp)) hWK ?_
  intro v tabs' h' tk' hT' hget hnone hkp hres
  exact hQ v tabs' h' tk' hT' hget (fun p hp => none_of hmn (hnone p hp)) (fun b o e => hkp b o (hmn b o e)) (hres.base hmn)
theorem elt_due {w : World} {lo : List PySem.Str} {mean : ExcName → Option Value} {mg mb : PySem.Str → Option Value} {dp un : Nat} {fr : Option (List Env)} {gd : Option (List Code)} {E Q : Value → Shared → Prop} {s : Shared} {env : Env} {scope : Scope} {cl : List (PySem.Str × Addr)} {h₀ : Heap} {Cf c a l : Addr} {m : PySem.Str → Option Value} {tabs : List (Addr × Obj)} {vs : List Value} {ns : List PySem.Str} {as : List (Option PySem.Str)} {cs : List (PySem.Str × PySem.Str)} {p1 p3 p5 p6 : Pos}
    (X : (hd68.heap_39 w.params).In h₀) (T : Top topProg lo mean mg mb h₀) (S : Kp h₀ s.heap) (hd : dp + 60 < recursionLimit) (hu : un + 160 < cLine)
    (ht : TabOk 70 wPos wQual tabs) (htb : ∀ p ∈ tabs, s.heap.get? p.1 = some p.2)
    (hg : env.globals = mainGlobals) (hk : scope.kind = .function)
    (l1 : (relabel scope env).names.lookup (PySem.Str.ofString "each") = some .local) (l2 : (relabel scope env).names.lookup (PySem.Str.ofString "drawn") = some .cell) (l3 : (relabel scope env).names.lookup (PySem.Str.ofString "_law_due") = some .globalImplicit)
    (hc : cl.lookup (PySem.Str.ofString "drawn") = some c) (hcell : s.heap.IsCell c (some (.ref a))) (hn : s.heap.Ns Cf m) (hm : m (PySem.Str.ofString "each") = some (.ref l))
    (hl : s.heap.IsList l vs.toArray) (hS : StrsAre vs ns) (hsm : ns.length ≤ 1000) (hDK : DK w s.heap (.ref a) ns as cs) (hQ : EltQ s tabs as cs Q) :
    wpAny (model PySem.Challenge.rw_pe0068_01.row.prog w) (Ar dp un fr gd) (eval (.Call (.Name (PySem.Str.ofString "_law_due") p1) [.Name (PySem.Str.ofString "drawn") p3, .Name (PySem.Str.ofString "each") p5] [] p6) (compEnvC scope cl Cf env)) Q E s := by
  have Xs := X.keeps S
  have Ts := T.keeps S
  revert Xs; k_fill; intro Xs
  refine Call_ (Name_function_global hk l3 (loadGlobal_global (by show _; rw [show (compEnvC scope cl Cf env).globals = mainGlobals from hg]; exact Ts.g) (mg_of Xs Ts.g (v := .ref 82) (by k_is)) ?_) (by decide +kernel))
  refine callWith_K Xs (by k_is) ?_
  refine spliced_more (wpAny_Name (wpAny_loadName_cell hk l2 hc hcell ?_) (by decide +kernel))
  refine spliced_more (wpAny_Name (wpAny_loadName_local hk l1 hn hm ?_) (by decide +kernel))
  refine spliced_none ⟨Xs, ?_⟩
  refine due_c Xs Ts (by omega) (by omega) hl hS hsm hDK ?_
  intro r h' tk' hkp hres
  exact hQ _ tabs h' tk' ht (fun p hp => hkp _ _ (htb p hp)) (fun p hp => hideAll_none _ (List.mem_map_of_mem hp)) (hide_mono hkp) (hres.hide htb)
end Mine
set_option maxHeartbeats 1000000
namespace Mine
open PySem.Calls PySem.Spec PyProof.V PyProof.Rows.LCg
theorem off_in {h : Heap} {tabs : List (Addr × Obj)} {b : Addr} {o : Obj} (hb : h.get? b = some o) (hn : ∀ p ∈ tabs, p.1 ≠ b) : (hideAll h (adr tabs)).get? b = some o :=
  hideAll_get _ hb fun hm => by
    obtain ⟨p, hp, e⟩ := List.mem_map.mp hm
    exact hn p hp e
abbrev CWay := List (Option PySem.Str) × List (PySem.Str × PySem.Str)
section
variable {prog : Program} {w : World} {A : Around} {E : Value → Shared → Prop} {s : Shared} {h₀ : Heap} {L : Addr} {m : PySem.Str → Option Value} {env : Env}
  {elt iter : PySem.Expr} {x : PySem.Str} {px : Pos} {scope : Scope} {cl : List (PySem.Str × Addr)} {pos : Pos} {Q : Value → Shared → Prop} {ax : Addr} {its : List Value} {n₀ : Nat} {ws : List CWay} {cst : List (Addr × Obj)}
/-- an element, in the ledger -/
def Elt (prog : Program) (w : World) (A : Around) (s : Shared) (h₀ : Heap) (L : Addr) (env : Env) (elt : PySem.Expr) (x : PySem.Str) (scope : Scope) (cl : List (PySem.Str × Addr)) (its : List Value) (ws : List CWay) (cst : List (Addr × Obj)) : Prop :=
  ∀ (j : Nat) (v : Value) (aw : CWay) (C : Addr) (m₂ : PySem.Str → Option Value) (h : Heap) (tk : Nat) (tabs : List (Addr × Obj)) (E' Q' : Value → Shared → Prop), its[j]? = some v → ws[j]? = some aw → TabOk 70 wPos wQual tabs → (∀ p ∈ tabs, h.get? p.1 = some p.2) → (∀ p ∈ tabs, h₀.get? p.1 = none) → h.Ns C m₂ → m₂ x = some v → Kp h₀ h →
    (∀ p ∈ cst, (hideAll h (adr tabs)).get? p.1 = some p.2) → EltQ { s with heap := h, toks := tk } tabs aw.1 aw.2 Q' → wpAny (model prog w) A (eval elt (compEnvC scope cl C env)) Q' E' { s with heap := h, toks := tk }
/-- a comprehension's end -/
def CmpQ (s : Shared) (h₀ : Heap) (L : Addr) (m : PySem.Str → Option Value) (ws : List CWay) (cst : List (Addr × Obj)) (Q : Value → Shared → Prop) : Prop :=
  ∀ D h tk ys tabs res, TabOk 70 wPos wQual tabs → Fr h₀ L h m → News h₀ L h ((D, PySem.W.listOf ys.toArray ys.length) :: (tabs ++ (cst ++ res))) → (∀ p ∈ tabs, ∀ q ∈ (D, PySem.W.listOf ys.toArray ys.length) :: (cst ++ res), p.1 ≠ q.1) → Two (fun v w => ResIn res v w.1 w.2) ys ws → Q (.ref D) { s with heap := h, toks := tk }
theorem cmp_rest (hax : (ax, PySem.W.listOf its.toArray n₀) ∈ cst) (hw : its.length = ws.length) (helt : Elt prog w A s h₀ L env elt x scope cl its ws cst) (hQ : CmpQ s h₀ L m ws cst Q) (g : Heap) :
    ∀ (n i : Nat) (ys : List Value) (tabs res : List (Addr × Obj)), i + n = its.length → TabOk 70 wPos wQual tabs → (∀ p ∈ tabs, ∀ q ∈ cst ++ res, p.1 ≠ q.1) → Two (fun v w => ResIn res v w.1 w.2) ys (ws.take i) →
      CompRest prog w A h₀ L m env elt x scope cl { s with heap := g } (SrcAt h₀ ax its.toArray) (fun i v => its.toArray[i]? = some v) (FinE h₀ L m { s with heap := g } Q) n i ys (tabs ++ (cst ++ res)) := by
  intro n
  induction n with
  | zero =>
    intro i ys tabs res hi hT hoff hR
    refine CompRest.zero fun D h tk F N o1 => ?_
    rw [show i = ws.length by omega, List.take_length] at hR
    refine hQ D h tk ys tabs res hT F N (fun p hp q hq => ?_) hR
    rcases List.mem_cons.mp hq with rfl | hq
    · have : ∀ {l : List (Addr × Obj)}, Off1 D l → ∀ p ∈ l, p.1 ≠ D := by
        intro l
        induction l with
        | nil => intro _ p hp; cases hp
        | cons a l ih =>
          intro ho p hp
          rcases List.mem_cons.mp hp with rfl | hp
          · exact ho.1
          · exact ih ho.2 p hp
      exact this o1 p (List.mem_append_left _ hp)
    · exact hoff p hp q hq
  | succ n ih =>
    intro i ys tabs res hi hT hoff hR
    refine CompRest.succ fun v I oI C oC D m₂ h tk E' hP hNs hm F N off3 hne => ?_
    have hP' : its[i]? = some v := by simpa using hP
    have hilt : i < ws.length := by omega
    obtain ⟨aw, haw⟩ : ∃ aw, ws[i]? = some aw := ⟨ws[i], List.getElem?_eq_getElem hilt⟩
    have off := off3.mem
    have Nn : ∀ p ∈ tabs ++ (cst ++ res), h.get? p.1 = some p.2 ∧ p.1 ≠ L ∧ h₀.get? p.1 = none := fun p hp => N p (.tail _ (.tail _ (.tail _ hp)))
    have hIn : ∀ p ∈ (I, oI) :: (C, oC) :: (D, lst ys) :: (cst ++ res), (hideAll h (adr tabs)).get? p.1 = some p.2 ∧ p.1 ≠ L ∧ h₀.get? p.1 = none := fun p hp => by
      rcases List.mem_cons.mp hp with rfl | hp
      · exact ⟨off_in (N _ (.head _)).1 fun q hq => (off q (List.mem_append_left _ hq)).1, (N _ (.head _)).2⟩
      · rcases List.mem_cons.mp hp with rfl | hp
        · exact ⟨off_in (N _ (.tail _ (.head _))).1 fun q hq => (off q (List.mem_append_left _ hq)).2.1, (N _ (.tail _ (.head _))).2⟩
        · rcases List.mem_cons.mp hp with rfl | hp
          · exact ⟨off_in (N _ (.tail _ (.tail _ (.head _)))).1 fun q hq => (off q (List.mem_append_left _ hq)).2.2, (N _ (.tail _ (.tail _ (.head _)))).2⟩
          · exact ⟨off_in (Nn p (List.mem_append_right _ hp)).1 fun q hq => hoff q hq p hp, (Nn p (List.mem_append_right _ hp)).2⟩
    refine helt i v aw C m₂ h tk tabs E' _ hP' haw hT (fun p hp => (Nn p (List.mem_append_left _ hp)).1) (fun p hp => (Nn p (List.mem_append_left _ hp)).2.2) (hNs.ns (N _ (.tail _ (.head _))).1) hm F.keep (fun p hp => (hIn p (.tail _ (.tail _ (.tail _ (List.mem_append_left _ hp))))).1) ?_
    intro y tabs' h' tk' hT' hget hnone hkp hres
    obtain ⟨tl, hgot, hin⟩ := res_list hres
    dsimp only at hnone hkp hgot
    have up : Kp (hideAll h (adr tabs)) h' := fun b o e => of_hideAll _ (hkp b o e)
    obtain ⟨oL, esL, epL, hL, hLr⟩ := F.ns
    have hLd : (hideAll h (adr tabs)).get? L = some oL := off_in hL fun p hp => (Nn p (List.mem_append_left _ hp)).2.1
    have hb : Kp h₀ (hideAll h (adr tabs)) := fun b o e => off_in (F.keep b o e) fun p hp q => by
      have := (Nn p (List.mem_append_left _ hp)).2.2
      rw [q, e] at this
      cases this
    have hnew : ∀ p : Addr, (hideAll h (adr tabs)).get? p = none → p ≠ L ∧ h₀.get? p = none := fun p hp => ⟨fresh_ne hp hLd, none_of hb hp⟩
    have F' : Fr h₀ L h' m := ⟨⟨oL, esL, epL, up _ _ hLd, hLr⟩, fun b o e => up b o (hb b o e), F.above⟩
    have N' : News h₀ L h' ((I, oI) :: (C, oC) :: (D, lst ys) :: (tabs' ++ (cst ++ (res ++ tl)))) := fun p hp => by
      have hold : ∀ q ∈ (I, oI) :: (C, oC) :: (D, lst ys) :: (cst ++ res), h'.get? q.1 = some q.2 ∧ q.1 ≠ L ∧ h₀.get? q.1 = none := fun q hq => ⟨up _ _ (hIn q hq).1, (hIn q hq).2⟩
      rcases List.mem_cons.mp hp with rfl | hp
      · exact hold _ (.head _)
      · rcases List.mem_cons.mp hp with rfl | hp
        · exact hold _ (.tail _ (.head _))
        · rcases List.mem_cons.mp hp with rfl | hp
          · exact hold _ (.tail _ (.tail _ (.head _)))
          · rcases List.mem_append.mp hp with hp | hp
            · exact ⟨hget p hp, hnew _ (hnone p hp)⟩
            · rcases List.mem_append.mp hp with hp | hp
              · exact hold p (.tail _ (.tail _ (.tail _ (List.mem_append_left _ hp))))
              · rcases List.mem_append.mp hp with hp | hp
                · exact hold p (.tail _ (.tail _ (.tail _ (List.mem_append_right _ hp))))
                · exact ⟨of_hideAll _ (hgot p hp).1, hnew _ (hgot p hp).2⟩
    refine CompEnd.intro F' N' (tabs' ++ (cst ++ (res ++ tl))) (fun p hp => hp) (Off3.of fun p hp => ?_) (.inr ⟨_, List.mem_append_right _ (List.mem_append_left _ hax), rfl, _, rfl⟩) ?_
    · have hn3 : (hideAll h (adr tabs)).get? p.1 = none → p.1 ≠ I ∧ p.1 ≠ C ∧ p.1 ≠ D := fun hn => ⟨fresh_ne hn (hIn _ (.head _)).1, fresh_ne hn (hIn _ (.tail _ (.head _))).1, fresh_ne hn (hIn _ (.tail _ (.tail _ (.head _)))).1⟩
      rcases List.mem_append.mp hp with hp | hp
      · exact hn3 (hnone p hp)
      · rcases List.mem_append.mp hp with hp | hp
        · exact off p (List.mem_append_right _ (List.mem_append_left _ hp))
        · rcases List.mem_append.mp hp with hp | hp
          · exact off p (List.mem_append_right _ (List.mem_append_right _ hp))
          · exact hn3 (hgot p hp).2
    · refine ih (i + 1) (ys ++ [y]) tabs' (res ++ tl) (by omega) hT' (fun p hp q hq => ?_) ?_
      · have hold : q ∈ cst ++ res → p.1 ≠ q.1 := fun hq => fresh_ne (hnone p hp) (hIn q (.tail _ (.tail _ (.tail _ hq)))).1
        rcases List.mem_append.mp hq with hq | hq
        · exact hold (List.mem_append_left _ hq)
        · rcases List.mem_append.mp hq with hq | hq
          · exact hold (List.mem_append_right _ hq)
          · intro e
            have h1 := (hgot q hq).1
            rw [hideAll_none _ (List.mem_map.mpr ⟨p, hp, e⟩)] at h1
            cases h1
      · rw [show ws.take (i + 1) = ws.take i ++ [aw] by rw [List.take_add_one, haw]; rfl]
        exact (hR.mono fun _ _ h => h.mono fun p hp => List.mem_append_left _ hp).snoc (hin.mono fun p hp => List.mem_append_right _ hp)
theorem cmp_res {tabs : List (Addr × Obj)} (F₀ : Fr h₀ L s.heap m) (N₀ : News h₀ L s.heap (tabs ++ cst)) (hT : TabOk 70 wPos wQual tabs) (hoff : ∀ p ∈ tabs, ∀ q ∈ cst, p.1 ≠ q.1)
    (hclos : closureFor scope env = pure cl) (hcell : ∀ y ∈ scope.names, y.2 ≠ .cell) (hkind : scope.kind = .function)
    (hnames : ∀ y ∈ scope.names, y.2 = .local → scope.names.lookup y.1 = some .local) (hx : scope.names.lookup x = some .local) (hh : A.handled = none)
    (hiter : ∀ Q' : Value → Shared → Prop, Q' (.ref ax) s → wpAny (model prog w) A (eval iter env) Q' E s)
    (hax : (ax, PySem.W.listOf its.toArray n₀) ∈ cst) (hsz : its.length ≤ 100) (hw : its.length = ws.length) (helt : Elt prog w A s h₀ L env elt x scope cl its ws cst) (hQ : CmpQ s h₀ L m ws cst Q)
    (hs : ∀ x, foldedSetIterable iter env x = pure x := by intro _; rfl) :
    wpAny (model prog w) A (eval (.ListComp elt [⟨.Name x px, iter, [], 0⟩] scope pos) env) Q E s := by
  refine ListComp_U F₀ hclos hcell hkind hnames hx (hiter _ (CompSrc.ledger hh F₀ N₀ (List.mem_append_right _ hax) (by rw [List.size_toArray, sizeLine_eq]; omega) fun g => ?_)) hs
  have := cmp_rest hax hw helt hQ g its.length 0 [] tabs [] (by omega) hT (by simpa using hoff) (by simpa using Two.nil)
  simpa using this
end
end Mine
set_option maxHeartbeats 1000000
namespace Mine
open PySem.Calls PySem.Spec PyProof.V PyProof.Rows.LCg
/-- a way of the law's: its list in the ledger, what is due -/
def WayAt (w : World) (cst : List (Addr × Obj)) (a : Addr) (x : PySem.Str) (v : Value) (aw : CWay) : Prop :=
  ∃ l vs ns n, v = .ref l ∧ (l, PySem.W.listOf vs.toArray n) ∈ cst ∧ StrsAre vs ns ∧ ns.length ≤ 1000 ∧ WK x ns aw.1 aw.2 ∧ ∀ h : Heap, (∀ p ∈ cst, h.get? p.1 = some p.2) → DK w h (.ref a) ns aw.1 aw.2
theorem Two.get {α β : Type} {R : α → β → Prop} {l : List α} {l' : List β} (h : Two R l l') : ∀ {j : Nat} {a : α} {b : β}, l[j]? = some a → l'[j]? = some b → R a b := by
  induction h with
  | nil => intro j a b e; simp at e
  | cons hr _ ih =>
    intro j a b e e'
    cases j with
    | zero => simp at e e'; rw [← e, ← e']; exact hr
    | succ j => exact ih (by simpa using e) (by simpa using e')
theorem tab_70 {tabs : List (Addr × Obj)} (h : TabOk 70 wPos wQual tabs) : ∃ ps, ((70 : Addr), tabObj ps) ∈ tabs := by
  rcases h with rfl | ⟨c', oc, vs, t, rfl, _⟩
  · exact ⟨_, .head _⟩
  · exact ⟨_, .head _⟩
theorem law_cmp {w : World} {lo : List PySem.Str} {mean : ExcName → Option Value} {mg mb : PySem.Str → Option Value} {dp un : Nat} {fr : Option (List Env)} {gd : Option (List Code)} {E Qf : Value → Shared → Prop} {s : Shared} {h₀ : Heap} {L : Addr} {m : PySem.Str → Option Value} {env : Env}
    {p1 p2 p3 p4 p5 p6 p7 p8 p9 q1 q3 q5 q6 q7 q8 q9 : Pos} {sc1 sc2 : Scope} {cst tabs : List (Addr × Obj)} {W a c : Addr} {its : List Value} {n₀ : Nat} {ws : List CWay} {x : PySem.Str} {oc : Obj}
    (X : (hd68.heap_39 w.params).In h₀) (T : Top topProg lo mean mg mb h₀) (C₀ : CodeHd h₀ 74 70) (F : Fr h₀ L s.heap m) (N : News h₀ L s.heap (tabs ++ cst)) (hT : TabOk 70 wPos wQual tabs) (hoff : ∀ p ∈ tabs, ∀ q ∈ cst, p.1 ≠ q.1)
    (hd : dp + 60 < recursionLimit) (hu : un + 160 < cLine) (hg : env.globals = mainGlobals)
    (hclos1 : closureFor sc1 env = pure [(PySem.Str.ofString "drawn", c)]) (hcell1 : ∀ y ∈ sc1.names, y.2 ≠ .cell) (hkind1 : sc1.kind = .function)
    (hnames1 : ∀ y ∈ sc1.names, y.2 = .local → sc1.names.lookup y.1 = some .local) (hx1 : sc1.names.lookup (PySem.Str.ofString "each") = some .local)
    (a1 : (relabel sc1 env).names.lookup (PySem.Str.ofString "each") = some .local) (a2 : (relabel sc1 env).names.lookup (PySem.Str.ofString "drawn") = some .cell) (a3 : (relabel sc1 env).names.lookup (PySem.Str.ofString "_law_walked") = some .globalImplicit) (a4 : (relabel sc1 env).names.lookup (PySem.Str.ofString "_law_written") = some .globalImplicit)
    (hclos2 : closureFor sc2 env = pure [(PySem.Str.ofString "drawn", c)]) (hcell2 : ∀ y ∈ sc2.names, y.2 ≠ .cell) (hkind2 : sc2.kind = .function)
    (hnames2 : ∀ y ∈ sc2.names, y.2 = .local → sc2.names.lookup y.1 = some .local) (hx2 : sc2.names.lookup (PySem.Str.ofString "each") = some .local)
    (b1 : (relabel sc2 env).names.lookup (PySem.Str.ofString "each") = some .local) (b2 : (relabel sc2 env).names.lookup (PySem.Str.ofString "drawn") = some .cell) (b3 : (relabel sc2 env).names.lookup (PySem.Str.ofString "_law_due") = some .globalImplicit)
    (hiter1 : ∀ (s' : Shared) (Q' : Value → Shared → Prop), Fr h₀ L s'.heap m → Q' (.ref W) s' → wpAny (model PySem.Challenge.rw_pe0068_01.row.prog w) (Ar dp un fr gd) (eval (.Name (PySem.Str.ofString "ways") p8) env) Q' E s')
    (hiter2 : ∀ (s' : Shared) (Q' : Value → Shared → Prop), Fr h₀ L s'.heap m → Q' (.ref W) s' → wpAny (model PySem.Challenge.rw_pe0068_01.row.prog w) (Ar dp un fr gd) (eval (.Name (PySem.Str.ofString "ways") q8) env) Q' E s')
    (hW : (W, PySem.W.listOf its.toArray n₀) ∈ cst) (hsz : its.length ≤ 100) (hc : (c, oc) ∈ cst) (hcd : oc.data = .cell (some (.ref a)))
    (hwr : ∀ h : Heap, (∀ p ∈ cst, h.get? p.1 = some p.2) → Wrt w h 3 (.ref a) x) (hways : Two (WayAt w cst a x) its ws)
    (hQ : ∀ h tk ps, Fr h₀ L h m → h.get? 70 = some (tabObj ps) → Qf (.bool true) { s with heap := h, toks := tk }) :
    wpAny (model PySem.Challenge.rw_pe0068_01.row.prog w) (Ar dp un fr gd) (eval (.ListComp (.Call (.Name (PySem.Str.ofString "_law_walked") p1) [.Call (.Name (PySem.Str.ofString "_law_written") p2) [.Name (PySem.Str.ofString "drawn") p3] [] p4, .Name (PySem.Str.ofString "each") p5] [] p6) [⟨.Name (PySem.Str.ofString "each") p7, .Name (PySem.Str.ofString "ways") p8, [], 0⟩] sc1 p9) env)
      (fun v s₁ => wpAny (model PySem.Challenge.rw_pe0068_01.row.prog w) (Ar dp un fr gd) (eval (.ListComp (.Call (.Name (PySem.Str.ofString "_law_due") q1) [.Name (PySem.Str.ofString "drawn") q3, .Name (PySem.Str.ofString "each") q5] [] q6) [⟨.Name (PySem.Str.ofString "each") q7, .Name (PySem.Str.ofString "ways") q8, [], 0⟩] sc2 q9) env)
        (fun u s₂ => wpAny (model PySem.Challenge.rw_pe0068_01.row.prog w) (Ar dp un fr gd) (compareOp .Eq v u) Qf E s₂) E s₁) E s := by
  refine cmp_res (its := its) (n₀ := n₀) (ws := ws) F N hT hoff hclos1 hcell1 hkind1 hnames1 hx1 rfl (fun Q' hq => hiter1 s Q' F hq) hW hsz hways.length ?_ ?_
  · intro j v aw C m₂ h tk tabs E' Q' hv haw hT htb ht0 hn hm hkp hcst hQ'
    obtain ⟨l, vs, ns, n, rfl, hl, hS, hsm, hWK, _⟩ := hways.get hv haw
    exact elt_walk X T C₀ hkp hd hu hT htb ht0 hg hkind1 a1 a2 a3 a4 rfl ⟨oc, of_hideAll _ (hcst _ hc), hcd⟩ hn hm (hwr h fun p hp => of_hideAll _ (hcst p hp)) ⟨_, hcst _ hl, rfl, _, rfl⟩ hS hsm hWK hQ'
  · intro D h tk ys tabs1 res1 hT1 F1 N1 hoff1 hR1
    have N1' : News h₀ L h (tabs1 ++ ((D, PySem.W.listOf ys.toArray ys.length) :: (cst ++ res1))) := fun p hp => N1 p (by
      rcases List.mem_append.mp hp with hp | hp
      · exact .tail _ (List.mem_append_left _ hp)
      · rcases List.mem_cons.mp hp with rfl | hp
        · exact .head _
        · exact .tail _ (List.mem_append_right _ hp))
    refine cmp_res (its := its) (n₀ := n₀) (ws := ws) (cst := (D, PySem.W.listOf ys.toArray ys.length) :: (cst ++ res1)) F1 N1' hT1 hoff1 hclos2 hcell2 hkind2 hnames2 hx2 rfl (fun Q' hq => hiter2 _ Q' F1 hq) (.tail _ (List.mem_append_left _ hW)) hsz hways.length ?_ ?_
    · intro j v aw C m₂ h' tk' tabs E' Q' hv haw hT htb ht0 hn hm hkp hcst hQ'
      have hcst' : ∀ p ∈ cst, h'.get? p.1 = some p.2 := fun p hp => of_hideAll _ (hcst p (.tail _ (List.mem_append_left _ hp)))
      obtain ⟨l, vs, ns, n, rfl, hl, hS, hsm, _, hDK⟩ := hways.get hv haw
      exact elt_due X T hkp hd hu hT htb hg hkind2 b1 b2 b3 rfl ⟨oc, hcst' _ hc, hcd⟩ hn hm ⟨_, hcst' _ hl, rfl, _, rfl⟩ hS hsm (hDK h' hcst') hQ'
    · intro D2 h2 tk2 ys2 tabs2 res2 hT2 F2 N2 hoff2 hR2
      have hin : ∀ p ∈ (D, PySem.W.listOf ys.toArray ys.length) :: (cst ++ res1) ++ res2, h2.get? p.1 = some p.2 := fun p hp => (N2 p (.tail _ (List.mem_append_right _ hp))).1
      obtain ⟨ps, hps⟩ := tab_70 hT2
      exact eq_all (tl := res1) (tl' := res2) (hin (D, _) (.head _)) (N2 _ (.head _)).1 (fun p hp => hin p (.tail _ (List.mem_append_left _ (List.mem_append_right _ hp)))) (fun p hp => hin p (List.mem_append_right _ hp)) (by show un + 32 < cLine; omega) hR1 hR2 (hQ h2 tk2 ps F2 (N2 _ (.tail _ (List.mem_append_left _ hps))).1)
end Mine
set_option maxHeartbeats 1000000
namespace Mine
open PySem.Calls PySem.Spec PyProof.V
def hfold (s : HS) (l : List Nat) : HS := (l.map fun (c : Nat) => (c : Int)).foldl hstep s
theorem hfold_nil (s : HS) : hfold s [] = s := rfl
theorem hfold_cons (s : HS) (c : Nat) (l : List Nat) : hfold s (c :: l) = hfold (hstep s (c : Int)) l := rfl
theorem hfold_app (s : HS) (a b : List Nat) : hfold s (a ++ b) = hfold (hfold s a) b := by unfold hfold; rw [List.map_append, List.foldl_append]
theorem hrun_codes (x : PySem.Str) : hrun (KStt.codes x) = hfold ⟨[], PySem.Str.empty, false, false⟩ x.cps.toList := rfl
/-- a text out of signs -/
def tx (l : List Nat) : PySem.Str := ⟨l.toArray⟩
theorem tx_toL (l : List Nat) : (tx l).cps.toList = l := by simp [tx]
theorem tx_of (x : PySem.Str) : tx x.cps.toList = x := str_eq (tx_toL _)
theorem tx_one (p : PySem.Str) (c : Nat) : p ++ (⟨#[((c : Int)).toNat]⟩ : PySem.Str) = tx (p.cps.toList ++ [c]) := by
  apply str_eq
  rw [toL_app, tx_toL]
  simp
theorem step_q_plain {res : List PySem.Str} {p : PySem.Str} {c : Nat} (h1 : c ≠ 92) (h2 : c ≠ 34) : hstep ⟨res, p, false, true⟩ (c : Int) = ⟨res, tx (p.cps.toList ++ [c]), false, true⟩ := by
  have h1' : ¬ ((c : Int) = 92) := by omega
  have h2' : ¬ ((c : Int) = 34) := by omega
  simp only [hstep, h1', h2', if_false, if_true, Bool.false_eq_true]
  rw [tx_one]
theorem step_q_esc {res : List PySem.Str} {p : PySem.Str} : hstep ⟨res, p, false, true⟩ ((92 : Nat) : Int) = ⟨res, p, true, true⟩ := by
  simp [hstep]
theorem step_e {res : List PySem.Str} {p : PySem.Str} {c : Nat} {q : Bool} : hstep ⟨res, p, true, q⟩ (c : Int) = ⟨res, tx (p.cps.toList ++ [c]), false, q⟩ := by
  simp only [hstep, if_true]
  rw [tx_one]
theorem step_close {res : List PySem.Str} {p : PySem.Str} : hstep ⟨res, p, false, true⟩ ((34 : Nat) : Int) = ⟨res, tx (p.cps.toList ++ [34]), false, false⟩ := by
  have h : ¬ (((34 : Nat) : Int) = 92) := by decide
  have h' : (((34 : Nat) : Int) = 34) := by decide
  simp only [hstep, h, h', if_false, if_true, Bool.false_eq_true]
  rw [← tx_one]; rfl
theorem step_open {res : List PySem.Str} {p : PySem.Str} : hstep ⟨res, p, false, false⟩ ((34 : Nat) : Int) = ⟨res, tx (p.cps.toList ++ [34]), false, true⟩ := by
  have h : ¬ (((34 : Nat) : Int) = 44) := by decide
  have h' : (((34 : Nat) : Int) = 34) := by decide
  simp only [hstep, h, h', if_false, if_true, Bool.false_eq_true]
  rw [← tx_one]; rfl
theorem step_comma {res : List PySem.Str} {p : PySem.Str} : hstep ⟨res, p, false, false⟩ ((44 : Nat) : Int) = ⟨res ++ [p], PySem.Str.empty, false, false⟩ := by
  simp [hstep]
theorem step_plain {res : List PySem.Str} {p : PySem.Str} {c : Nat} (h1 : c ≠ 44) (h2 : c ≠ 34) : hstep ⟨res, p, false, false⟩ (c : Int) = ⟨res, tx (p.cps.toList ++ [c]), false, false⟩ := by
  have h1' : ¬ ((c : Int) = 44) := by omega
  have h2' : ¬ ((c : Int) = 34) := by omega
  simp only [hstep, h1', h2', if_false, Bool.false_eq_true]
  rw [tx_one]
/-- the signs of a text with backslashes -/
def escL (l : List Nat) : List Nat := l.flatMap fun n => if n = 34 ∨ n = 92 then [92, n] else [n]
theorem run_esc (res : List PySem.Str) : ∀ (l : List Nat) (p : PySem.Str), hfold ⟨res, p, false, true⟩ (escL l) = ⟨res, tx (p.cps.toList ++ l), false, true⟩
  | [], p => by rw [List.append_nil, tx_of]; rfl
  | n :: l, p => by
    unfold escL
    rw [List.flatMap_cons]
    by_cases h : n = 34 ∨ n = 92
    · rw [if_pos h, hfold_app, hfold_cons, step_q_esc, hfold_cons, step_e, hfold_nil]
      have := run_esc res l (tx (p.cps.toList ++ [n]))
      unfold escL at this
      rw [this, tx_toL]; simp
    · rw [if_neg h, hfold_app, hfold_cons, step_q_plain (fun e => h (.inr e)) (fun e => h (.inl e)), hfold_nil]
      have := run_esc res l (tx (p.cps.toList ++ [n]))
      unfold escL at this
      rw [this, tx_toL]; simp
/-- a key's text: one letter -/
def Key1 (k : PySem.Str) : Prop := ∃ n, k.cps.toList = [n] ∧ 97 ≤ n ∧ n ≤ 101
theorem join_toL (sep : PySem.Str) : ∀ (rest : List PySem.Str) (p : PySem.Str), (Txt.join sep (p :: rest)).cps.toList = p.cps.toList ++ rest.flatMap (fun q => sep.cps.toList ++ q.cps.toList) := by
  intro rest
  have h : ∀ (rest : List PySem.Str) (acc : Array Nat), (rest.foldl (fun acc p => acc ++ sep.cps ++ p.cps) acc).toList = acc.toList ++ rest.flatMap (fun q => sep.cps.toList ++ q.cps.toList) := by
    intro rest
    induction rest with
    | nil => intro acc; simp
    | cons q rest ih =>
      intro acc
      rw [List.foldl_cons, ih]
      simp
  intro p
  unfold Txt.join
  rw [StrLaws.glued_eq_join, ← StrLaws.glued_cons]
  exact h rest p.cps
theorem esc_toL (y : PySem.Str) : (esc y).cps.toList = escL y.cps.toList := by
  have h1 : ∀ n, (escOne n).cps.toList = if n = 34 ∨ n = 92 then [92, n] else [n] := by
    intro n
    unfold escOne
    split <;> rfl
  unfold esc escL
  cases e : y.cps.toList with
  | nil => rfl
  | cons n l =>
    rw [List.map_cons, join_toL, show (PySem.Str.ofString "").cps.toList = [] by decide +kernel]
    rw [List.flatMap_cons, h1]
    congr 1
    rw [List.flatMap_map]
    congr 1
    funext m
    simp [h1]
theorem wItem_toL (k y : PySem.Str) : (wItem k y).cps.toList = k.cps.toList ++ (61 :: 34 :: (escL y.cps.toList ++ [34])) := by
  unfold wItem
  rw [toL_app, toL_app, toL_app, esc_toL, show (PySem.Str.ofString "=\"").cps.toList = [61, 34] by decide +kernel, q_toL]
  simp
theorem run_item (res : List PySem.Str) (p k y : PySem.Str) (hk : Key1 k) : hfold ⟨res, p, false, false⟩ (wItem k y).cps.toList = ⟨res, p ++ hdr (k, y), false, false⟩ := by
  obtain ⟨n, hn, h1, h2⟩ := hk
  rw [wItem_toL, hn, List.cons_append, List.nil_append, hfold_cons, step_plain (by omega) (by omega), hfold_cons, step_plain (by decide) (by decide), hfold_cons, step_open, hfold_app, run_esc, hfold_cons, step_close, hfold_nil]
  have : tx ((tx ((tx ((tx ((tx (p.cps.toList ++ [n])).cps.toList ++ [61])).cps.toList ++ [34])).cps.toList ++ y.cps.toList)).cps.toList ++ [34]) = p ++ hdr (k, y) := by
    apply str_eq
    rw [toL_app, hdr_toL, quo_toL, hn]
    simp only [tx_toL]
    simp
  rw [this]
/-- all parts -/
def allP (s : HS) : List PySem.Str := s.res ++ [s.part]
theorem run_rest : ∀ (ps : List (PySem.Str × PySem.Str)) (res : List PySem.Str) (p : PySem.Str), (∀ q ∈ ps, Key1 q.1) →
    ∃ res' p', hfold ⟨res, p, false, false⟩ (ps.flatMap fun q => (PySem.Str.ofString ", ").cps.toList ++ (wItem q.1 q.2).cps.toList) = ⟨res', p', false, false⟩ ∧ res' ++ [p'] = res ++ p :: (ps.map fun q => PySem.Str.ofString " " ++ hdr q) ∧ (0 < p.length → 0 < p'.length)
  | [], res, p, _ => ⟨res, p, rfl, by simp, id⟩
  | q :: ps, res, p, hk => by
    have hsep : (PySem.Str.ofString ", ").cps.toList = [44, 32] := by decide +kernel
    have hbl : tx (PySem.Str.empty.cps.toList ++ [32]) = PySem.Str.ofString " " := by decide +kernel
    obtain ⟨res', p', h1, h2, h3⟩ := run_rest ps (res ++ [p]) (PySem.Str.ofString " " ++ hdr q) fun q' hq' => hk q' (.tail _ hq')
    refine ⟨res', p', ?_, ?_, fun _ => h3 ?_⟩
    · rw [List.flatMap_cons, hfold_app, hfold_app, hsep, hfold_cons, step_comma, hfold_cons, step_plain (by decide) (by decide), hfold_nil, hbl, run_item _ _ _ _ (hk q (.head _))]
      rw [hsep] at h1
      exact h1
    · rw [h2]; simp
    · rw [PySem.Str.length_append, show (PySem.Str.ofString " ").length = 1 by decide +kernel]; omega
theorem strip_core {x : PySem.Str} {pre core : List Nat} {a b : Nat} {mid : List Nat} (hx : x.cps.toList = pre ++ core) (hp : ∀ c ∈ pre, Unicode.isSpace c = true) (h1 : core = a :: mid) (h2 : ∃ i, core = i ++ [b]) (ha : Unicode.isSpace a = false) (hb : Unicode.isSpace b = false) : Txt.strip x = tx core := by
  have hlen : x.length = pre.length + core.length := by
    have : x.length = x.cps.toList.length := by simp [PySem.Str.length]
    rw [this, hx, List.length_append]
  have hlo : stripLo Unicode.isSpace true x = pre.length := by
    unfold stripLo
    rw [if_pos rfl, hx]
    have : (pre ++ core).takeWhile Unicode.isSpace = pre := by
      rw [List.takeWhile_append_of_pos hp, h1, List.takeWhile_cons, ha]
      simp
    rw [this]
  have hhi : stripHi Unicode.isSpace true x pre.length = x.length := by
    unfold stripHi
    obtain ⟨i, hi⟩ := h2
    rw [if_pos rfl, hx, List.drop_left, hi, List.reverse_append, List.reverse_singleton, List.singleton_append, List.takeWhile_cons, hb]
    simp
  unfold Txt.strip
  rw [PyProof.Rows.stripBy_eq, hlo, hhi]
  apply str_eq
  rw [StrLaws.strSub_toList, tx_toL, hx, List.drop_left]
  apply List.take_of_length_le
  omega
theorem sp_letter {n : Nat} (h1 : 97 ≤ n) (h2 : n ≤ 101) : Unicode.isSpace n = false := by
  have : n = 97 ∨ n = 98 ∨ n = 99 ∨ n = 100 ∨ n = 101 := by omega
  rcases this with rfl | rfl | rfl | rfl | rfl <;> decide +kernel
theorem hdr_list {k y : PySem.Str} (hk : Key1 k) : ∃ n mid, (hdr (k, y)).cps.toList = n :: mid ∧ (∃ i, (hdr (k, y)).cps.toList = i ++ [34]) ∧ 97 ≤ n ∧ n ≤ 101 := by
  obtain ⟨n, hn, h1, h2⟩ := hk
  refine ⟨n, _, by rw [hdr_toL, hn]; rfl, ⟨k.cps.toList ++ 61 :: 34 :: y.cps.toList, ?_⟩, h1, h2⟩
  rw [hdr_toL, quo_toL]; simp
theorem strip_hdr {k y : PySem.Str} (hk : Key1 k) : Txt.strip (hdr (k, y)) = hdr (k, y) := by
  obtain ⟨n, mid, h1, h2, h3, h4⟩ := hdr_list (y := y) hk
  have := strip_core (x := hdr (k, y)) (pre := []) (core := (hdr (k, y)).cps.toList) rfl (fun _ h => nomatch h) h1 h2 (sp_letter h3 h4) (by decide +kernel)
  rw [this, tx_of]
theorem strip_hdr1 {k y : PySem.Str} (hk : Key1 k) : Txt.strip (PySem.Str.ofString " " ++ hdr (k, y)) = hdr (k, y) := by
  obtain ⟨n, mid, h1, h2, h3, h4⟩ := hdr_list (y := y) hk
  have := strip_core (x := PySem.Str.ofString " " ++ hdr (k, y)) (pre := [32]) (core := (hdr (k, y)).cps.toList) (by rw [toL_app, show (PySem.Str.ofString " ").cps.toList = [32] by decide +kernel]) (fun c h => by rw [List.mem_singleton.mp h]; decide +kernel) h1 h2 (sp_letter h3 h4) (by decide +kernel)
  rw [this, tx_of]
theorem run_written (k y : PySem.Str) (ps : List (PySem.Str × PySem.Str)) (hk : ∀ q ∈ (k, y) :: ps, Key1 q.1) : ∃ res' p', hrun (KStt.codes (Txt.join (PySem.Str.ofString ", ") (((k, y) :: ps).map fun q => wItem q.1 q.2))) = ⟨res', p', false, false⟩ ∧ res' ++ [p'] = hdr (k, y) :: (ps.map fun q => PySem.Str.ofString " " ++ hdr q) ∧ 0 < p'.length := by
  have e : ((ps.map fun q => wItem q.1 q.2).flatMap fun q => (PySem.Str.ofString ", ").cps.toList ++ q.cps.toList) = ps.flatMap fun q => (PySem.Str.ofString ", ").cps.toList ++ (wItem q.1 q.2).cps.toList := by rw [List.flatMap_map]
  have hE : PySem.Str.empty ++ hdr (k, y) = hdr (k, y) := by
    apply str_eq
    rw [toL_app]; rfl
  obtain ⟨res', p', h1, h2, h3⟩ := run_rest ps [] (hdr (k, y)) fun q hq => hk q (.tail _ hq)
  refine ⟨res', p', ?_, by simpa using h2, h3 (by rw [hdr_len]; omega)⟩
  rw [hrun_codes, List.map_cons, join_toL, hfold_app, run_item _ _ _ _ (hk (k, y) (.head _)), e, hE]
  exact h1
/-- parse_http_list of what is written -/
theorem http_written (k y : PySem.Str) (ps : List (PySem.Str × PySem.Str)) (hk : ∀ q ∈ (k, y) :: ps, Key1 q.1) : httpList (Txt.join (PySem.Str.ofString ", ") (((k, y) :: ps).map fun q => wItem q.1 q.2)) = ((k, y) :: ps).map hdr := by
  obtain ⟨res', p', h1, h2, h3⟩ := run_written k y ps hk
  rw [httpList_1 (res := res') (part := p') (e := false) (q := false) h1 (by omega), h2, List.map_cons, List.map_cons, List.map_map, strip_hdr (y := y) (hk (k, y) (.head _))]
  congr 1
  apply List.map_congr_left
  rintro ⟨k2, y2⟩ hq
  show Txt.strip (PySem.Str.ofString " " ++ hdr (k2, y2)) = hdr (k2, y2)
  exact strip_hdr1 (hk (k2, y2) (.tail _ hq))
end Mine
set_option maxHeartbeats 1000000
namespace Mine
open PySem.Calls PySem.Spec PyProof.V
theorem Wrt.succ {w : World} {h : Heap} : ∀ {n : Nat} {v : Value} {x : PySem.Str}, Wrt w h n v x → Wrt w h (n + 1) v x
  | 0, _, _, H => .inl H
  | n + 1, v, x, H => by
    rcases H with H | ⟨a, kvs, g, h1, h2, h3, h4, h5, h6⟩
    · exact .inl H
    · exact .inr ⟨a, kvs, g, h1, h2, h3, h4, fun k u hm => ⟨(h5 k u hm).1.succ, (h5 k u hm).2⟩, h6⟩
abbrev sA : PySem.Str := PySem.Str.ofString "a"
abbrev sB : PySem.Str := PySem.Str.ofString "b"
abbrev sC : PySem.Str := PySem.Str.ofString "c"
abbrev sD : PySem.Str := PySem.Str.ofString "d"
abbrev sE : PySem.Str := PySem.Str.ofString "e"
abbrev sZ : PySem.Str := PySem.Str.ofString "z"
abbrev sQ : PySem.Str := PySem.Str.ofString "q"
abbrev sU : PySem.Str := PySem.Str.ofString "?"
/-- a header out of pairs -/
def wr (ps : List (PySem.Str × PySem.Str)) : PySem.Str := Txt.join (PySem.Str.ofString ", ") (ps.map fun q => wItem q.1 q.2)
def pD (d : PySem.Str) : List (PySem.Str × PySem.Str) := [(sD, d)]
def pB (c d : PySem.Str) : List (PySem.Str × PySem.Str) := [(sC, c), (sA, wr (pD d))]
def pE (e : Option (PySem.Str × Tok)) : List (PySem.Str × PySem.Str) := match e with | none => [] | some (y, _) => [(sE, y)]
def pA (a c d : PySem.Str) (e : Option (PySem.Str × Tok)) : List (PySem.Str × PySem.Str) := (sA, a) :: (sB, wr (pB c d)) :: pE e
theorem len_toL (x : PySem.Str) : x.length = x.cps.toList.length := by simp [PySem.Str.length]
theorem escL_len : ∀ l : List Nat, (escL l).length ≤ 2 * l.length
  | [] => Nat.le_refl _
  | n :: l => by
    have := escL_len l
    unfold escL at this ⊢
    rw [List.flatMap_cons, List.length_append, List.length_cons]
    split
    · simp only [List.length_cons, List.length_nil]; omega
    · simp only [List.length_cons, List.length_nil]; omega
theorem item_len (k y : PySem.Str) : (wItem k y).length ≤ k.length + 3 + 2 * y.length := by
  have := escL_len y.cps.toList
  rw [len_toL, wItem_toL, len_toL k, len_toL y]
  simp only [List.length_append, List.length_cons, List.length_nil]
  omega
theorem sep_len : (PySem.Str.ofString ", ").cps.toList.length = 2 := by decide +kernel
theorem kA : Key1 sA := ⟨97, by decide +kernel, by decide, by decide⟩
theorem kB : Key1 sB := ⟨98, by decide +kernel, by decide, by decide⟩
theorem kC : Key1 sC := ⟨99, by decide +kernel, by decide, by decide⟩
theorem kD : Key1 sD := ⟨100, by decide +kernel, by decide, by decide⟩
theorem kE : Key1 sE := ⟨101, by decide +kernel, by decide, by decide⟩
theorem Key1.len {k : PySem.Str} (h : Key1 k) : k.length = 1 := by
  obtain ⟨n, hn, _⟩ := h
  rw [len_toL, hn]; rfl
theorem wr1_len {k y : PySem.Str} (hk : Key1 k) : (wr [(k, y)]).length ≤ 4 + 2 * y.length := by
  have := item_len k y
  rw [hk.len] at this
  unfold wr
  rw [len_toL, List.map_cons, List.map_nil, join_toL, List.flatMap_nil, List.append_nil, ← len_toL]
  dsimp only
  omega
theorem wr2_len {k y k2 y2 : PySem.Str} (hk : Key1 k) (hk2 : Key1 k2) : (wr [(k, y), (k2, y2)]).length ≤ 10 + 2 * y.length + 2 * y2.length := by
  have h1 := item_len k y
  have h2 := item_len k2 y2
  rw [hk.len] at h1
  rw [hk2.len] at h2
  unfold wr
  rw [len_toL, List.map_cons, List.map_cons, List.map_nil, join_toL, List.flatMap_cons, List.flatMap_nil, List.append_nil, List.length_append, List.length_append, sep_len, ← len_toL, ← len_toL]
  dsimp only
  omega
theorem wr3_len {k y k2 y2 k3 y3 : PySem.Str} (hk : Key1 k) (hk2 : Key1 k2) (hk3 : Key1 k3) : (wr [(k, y), (k2, y2), (k3, y3)]).length ≤ 16 + 2 * y.length + 2 * y2.length + 2 * y3.length := by
  have h1 := item_len k y
  have h2 := item_len k2 y2
  have h3 := item_len k3 y3
  rw [hk.len] at h1
  rw [hk2.len] at h2
  rw [hk3.len] at h3
  unfold wr
  rw [len_toL, List.map_cons, List.map_cons, List.map_cons, List.map_nil, join_toL, List.flatMap_cons, List.flatMap_cons, List.flatMap_nil, List.append_nil, List.length_append, List.length_append, List.length_append, List.length_append, sep_len, ← len_toL, ← len_toL, ← len_toL]
  dsimp only
  omega
section
variable {a c d : PySem.Str} {e : Option (PySem.Str × Tok)}
theorem lenD (hd : Okt d) : (wr (pD d)).length ≤ 8 := by
  have := wr1_len (y := d) kD
  have := hd.1
  unfold pD; omega
theorem lenB (hc : Okt c) (hd : Okt d) : (wr (pB c d)).length ≤ 30 := by
  have h1 := wr2_len (y := c) (y2 := wr (pD d)) kC kA
  have := lenD hd
  have := hc.1
  unfold pB; omega
theorem lenA (ha : Okt a) (hc : Okt c) (hd : Okt d) (he : ∀ p, e = some p → Okt p.1) : (wr (pA a c d e)).length ≤ 100 := by
  have h1 := lenB hc hd
  have h2 := ha.1
  unfold pA pE
  cases e with
  | none =>
    have := wr2_len (y := a) (y2 := wr (pB c d)) kA kB
    dsimp only
    omega
  | some p =>
    have h3 := (he p rfl).1
    have := wr3_len (y := a) (y2 := wr (pB c d)) (y3 := p.1) kA kB kE
    dsimp only
    omega
end
theorem hasEq_wr (k y : PySem.Str) (ps : List (PySem.Str × PySem.Str)) : hasEq (wr ((k, y) :: ps)) = true := by
  unfold hasEq wr
  rw [List.map_cons, join_toL, wItem_toL]
  simp
theorem hasEq_okt {x : PySem.Str} (h : Okt x) : hasEq x = false := by
  unfold hasEq
  cases q : x.cps.toList.contains 61 with
  | false => rfl
  | true => exact absurd rfl (h.2 61 (by simpa using q))
theorem parsed_wr {k y : PySem.Str} {ps : List (PySem.Str × PySem.Str)} {n z : PySem.Str} (hk : ∀ q ∈ (k, y) :: ps, Key1 q.1) (hnd : (((k, y) :: ps).map (·.1)).Nodup) (hl : (wr ((k, y) :: ps)).length ≤ 1000) (hv : ∀ q ∈ (k, y) :: ps, q.2.length ≤ 1000) (hn : ps.length ≤ 10)
    (hz : z = ((((k, y) :: ps).find? fun p => decide (p.1 = n)).map (·.2)).getD sU) : Parsed (wr ((k, y) :: ps)) n z ((k, y) :: ps) where
  len := by omega
  items := http_written k y ps hk
  few := by simp only [List.length_cons]; omega
  short := fun p hp => by
    have h1 := hv p hp
    have h2 := (hk p hp).len
    rw [show hdr p = hdr (p.1, p.2) from rfl, hdr_len]
    omega
  keys := fun p hp q hq => by
    obtain ⟨m, hm, h1, h2⟩ := hk p hp
    rw [hm] at hq
    rw [List.mem_singleton.mp hq]
    omega
  nodup := hnd
  val := hz
/-- the tree, in a heap -/
structure TreeAt (w : World) (h : Heap) (A B D : Addr) (a c d : PySem.Str) (e : Option (PySem.Str × Tok)) (t1 t2 t3 : Tok) : Prop where
  dA : h.DictOf (PySem.strKind PySem.Challenge.rw_pe0068_01.row.prog w) A (kvsA a t1 B e)
  dB : h.DictOf (PySem.strKind PySem.Challenge.rw_pe0068_01.row.prog w) B (kvsB c t2 D)
  dD : h.DictOf (PySem.strKind PySem.Challenge.rw_pe0068_01.row.prog w) D [(sD, .str d t3)]
  sA : (A == sysModules) = false
  sB : (B == sysModules) = false
  sD : (D == sysModules) = false
def gB (c d k : PySem.Str) : PySem.Str := if k = sC then c else wr (pD d)
def gA (a c d : PySem.Str) (e : Option (PySem.Str × Tok)) (k : PySem.Str) : PySem.Str := if k = sA then a else if k = sB then wr (pB c d) else (e.map (·.1)).getD sU
theorem gB_c {c d : PySem.Str} : gB c d sC = c := if_pos rfl
theorem gB_a {c d : PySem.Str} : gB c d sA = wr (pD d) := if_neg (by decide +kernel)
theorem gA_a {a c d : PySem.Str} {e : Option (PySem.Str × Tok)} : gA a c d e sA = a := if_pos rfl
theorem gA_b {a c d : PySem.Str} {e : Option (PySem.Str × Tok)} : gA a c d e sB = wr (pB c d) := by
  unfold gA
  rw [if_neg (by decide +kernel), if_pos rfl]
theorem gA_e {a c d : PySem.Str} {p : PySem.Str × Tok} : gA a c d (some p) sE = p.1 := by
  unfold gA
  rw [if_neg (by decide +kernel), if_neg (by decide +kernel)]
  rfl
section
variable {w : World} {h : Heap} {A B D : Addr} {a c d : PySem.Str} {e : Option (PySem.Str × Tok)} {t1 t2 t3 : Tok}
theorem wrtD (T : TreeAt w h A B D a c d e t1 t2 t3) (od : Okt d) : Wrt w h 1 (.ref D) (wr (pD d)) := by
  refine .inr ⟨D, _, fun _ => d, rfl, T.dD, T.sD, by show 1 ≤ 3; decide, fun k u hm => ?_, rfl⟩
  rw [List.mem_singleton] at hm
  cases hm
  exact ⟨⟨t3, rfl⟩, Nat.le_trans od.1 (by decide), by decide +kernel⟩
theorem wrtB (T : TreeAt w h A B D a c d e t1 t2 t3) (oc : Okt c) (od : Okt d) : Wrt w h 2 (.ref B) (wr (pB c d)) := by
  refine .inr ⟨B, _, gB c d, rfl, T.dB, T.sB, by show 2 ≤ 3; decide, fun k u hm => ?_, ?_⟩
  · unfold kvsB at hm
    rcases List.mem_cons.mp hm with q | hm
    · cases q
      rw [gB_c]
      exact ⟨.inl ⟨t2, rfl⟩, Nat.le_trans oc.1 (by decide), by decide +kernel⟩
    · rw [List.mem_singleton] at hm
      cases hm
      rw [gB_a]
      exact ⟨wrtD T od, Nat.le_trans (lenD od) (by decide), by decide +kernel⟩
  · unfold kvsB wr pB
    simp only [List.map_cons, List.map_nil]
    rw [gB_c, gB_a]
theorem wrtA (T : TreeAt w h A B D a c d e t1 t2 t3) (oa : Okt a) (oc : Okt c) (od : Okt d) (oe : ∀ p, e = some p → Okt p.1) : Wrt w h 3 (.ref A) (wr (pA a c d e)) := by
  refine .inr ⟨A, _, gA a c d e, rfl, T.dA, T.sA, kvsA_len _ _ _ _, fun k u hm => ?_, ?_⟩
  · unfold kvsA at hm
    rcases List.mem_cons.mp hm with q | hm
    · cases q
      rw [gA_a]
      exact ⟨.inl ⟨t1, rfl⟩, Nat.le_trans oa.1 (by decide), by decide +kernel⟩
    · rcases List.mem_cons.mp hm with q | hm
      · cases q
        rw [gA_b]
        exact ⟨wrtB T oc od, Nat.le_trans (lenB oc od) (by decide), by decide +kernel⟩
      · cases e with
        | none => cases hm
        | some p =>
          have hm : (k, u) ∈ [(sE, Value.str p.1 p.2)] := hm
          rw [List.mem_singleton] at hm
          cases hm
          rw [gA_e]
          exact ⟨.inl ⟨p.2, rfl⟩, Nat.le_trans (oe p rfl).1 (by decide), by decide +kernel⟩
  · unfold kvsA wr pA eOf pE
    cases e with
    | none =>
      simp only [List.map_cons, List.map_nil]
      rw [gA_a, gA_b]
    | some p =>
      simp only [List.map_cons, List.map_nil]
      rw [gA_a, gA_b, gA_e]
theorem nAB : ¬ sA = sB := by decide +kernel
theorem nAZ : ¬ sA = sZ := by decide +kernel
theorem nBZ : ¬ sB = sZ := by decide +kernel
theorem nEZ : ¬ sE = sZ := by decide +kernel
theorem nAE : ¬ sA = sE := by decide +kernel
theorem nBE : ¬ sB = sE := by decide +kernel
theorem nCA : ¬ sC = sA := by decide +kernel
theorem nEA : ¬ sE = sA := by decide +kernel
theorem nEB : ¬ sE = sB := by decide +kernel
abbrev fnd (ps : List (PySem.Str × PySem.Str)) (n : PySem.Str) : PySem.Str := ((ps.find? fun p => decide (p.1 = n)).map (·.2)).getD sU
theorem fA_a : fnd (pA a c d e) sA = a := by simp [fnd, pA]
theorem fA_b : fnd (pA a c d e) sB = wr (pB c d) := by simp [fnd, pA, nAB]
theorem fA_z : fnd (pA a c d e) sZ = sU := by
  cases e with
  | none => simp [fnd, pA, pE, nAZ, nBZ]
  | some p => simp [fnd, pA, pE, nAZ, nBZ, nEZ]
theorem fA_e : fnd (pA a c d e) sE = (e.map (·.1)).getD sU := by
  cases e with
  | none => simp [fnd, pA, pE, nAE, nBE]
  | some p => simp [fnd, pA, pE, nAE, nBE]
theorem fB_c : fnd (pB c d) sC = c := by simp [fnd, pB]
theorem fB_a : fnd (pB c d) sA = wr (pD d) := by simp [fnd, pB, nCA]
theorem fD_d : fnd (pD d) sD = d := by simp [fnd, pD]
theorem prsD (od : Okt d) {n z : PySem.Str} (hz : fnd (pD d) n = z) : Parsed (wr (pD d)) n z (pD d) :=
  parsed_wr (fun q hq => by rw [List.mem_singleton.mp hq]; exact kD) (by simp) (Nat.le_trans (lenD od) (by decide)) (fun q hq => by rw [List.mem_singleton.mp hq]; exact Nat.le_trans od.1 (by decide)) (by decide) hz.symm
theorem prsB (oc : Okt c) (od : Okt d) {n z : PySem.Str} (hz : fnd (pB c d) n = z) : Parsed (wr (pB c d)) n z (pB c d) := by
  refine parsed_wr (fun q hq => ?_) (by simp [nCA]) (Nat.le_trans (lenB oc od) (by decide)) (fun q hq => ?_) (by simp) hz.symm
  · rcases List.mem_cons.mp hq with rfl | hq
    · exact kC
    · rw [List.mem_singleton.mp hq]; exact kA
  · rcases List.mem_cons.mp hq with rfl | hq
    · exact Nat.le_trans oc.1 (by decide)
    · rw [List.mem_singleton.mp hq]; exact Nat.le_trans (lenD od) (by decide)
theorem prsA (oa : Okt a) (oc : Okt c) (od : Okt d) (oe : ∀ p, e = some p → Okt p.1) {n z : PySem.Str} (hz : fnd (pA a c d e) n = z) : Parsed (wr (pA a c d e)) n z (pA a c d e) := by
  have hE : ∀ q ∈ pE e, q.1 = sE ∧ Okt q.2 := fun q hq => by
    cases e with
    | none => cases hq
    | some p =>
      have hq : q ∈ [(sE, p.1)] := hq
      rw [List.mem_singleton.mp hq]
      exact ⟨rfl, oe p rfl⟩
  refine parsed_wr (fun q hq => ?_) ?_ (Nat.le_trans (lenA oa oc od oe) (by decide)) (fun q hq => ?_) ?_ hz.symm
  · rcases List.mem_cons.mp hq with rfl | hq
    · exact kA
    · rcases List.mem_cons.mp hq with rfl | hq
      · exact kB
      · rw [(hE q hq).1]; exact kE
  · cases e with
    | none => simp [pE, nAB]
    | some p => simp [pE, nAB, nAE, nBE]
  · rcases List.mem_cons.mp hq with rfl | hq
    · exact Nat.le_trans oa.1 (by decide)
    · rcases List.mem_cons.mp hq with rfl | hq
      · exact Nat.le_trans (lenB oc od) (by decide)
      · exact Nat.le_trans (hE q hq).2.1 (by decide)
  · cases e with
    | none => simp [pE]
    | some p => simp [pE]
/-- what the five ways answer -/
def wsOf (a c d : PySem.Str) (e : Option (PySem.Str × Tok)) : List CWay :=
  [([some (wr (pB c d)), some c], [(sB, wr (pA a c d e)), (sC, wr (pB c d))]),
   ([some (wr (pB c d)), some (wr (pD d)), some d], [(sB, wr (pA a c d e)), (sA, wr (pB c d)), (sD, wr (pD d))]),
   ([some sU], [(sZ, wr (pA a c d e))]),
   ([some a, none], [(sA, wr (pA a c d e))]),
   ([some ((e.map (·.1)).getD sU)], [(sE, wr (pA a c d e))])]
theorem wk1 (oa : Okt a) (oc : Okt c) (od : Okt d) (oe : ∀ p, e = some p → Okt p.1) : WK (wr (pA a c d e)) [sB, sC] [some (wr (pB c d)), some c] [(sB, wr (pA a c d e)), (sC, wr (pB c d))] :=
  .step (hasEq_wr _ _ _) (prsA oa oc od oe fA_b) (.step (hasEq_wr _ _ _) (prsB oc od fB_c) (.nil _))
theorem wk2 (oa : Okt a) (oc : Okt c) (od : Okt d) (oe : ∀ p, e = some p → Okt p.1) : WK (wr (pA a c d e)) [sB, sA, sD] [some (wr (pB c d)), some (wr (pD d)), some d] [(sB, wr (pA a c d e)), (sA, wr (pB c d)), (sD, wr (pD d))] :=
  .step (hasEq_wr _ _ _) (prsA oa oc od oe fA_b) (.step (hasEq_wr _ _ _) (prsB oc od fB_a) (.step (hasEq_wr _ _ _) (prsD od fD_d) (.nil _)))
theorem wk3 (oa : Okt a) (oc : Okt c) (od : Okt d) (oe : ∀ p, e = some p → Okt p.1) : WK (wr (pA a c d e)) [sZ] [some sU] [(sZ, wr (pA a c d e))] :=
  .step (hasEq_wr _ _ _) (prsA oa oc od oe fA_z) (.nil _)
theorem wk4 (oa : Okt a) (oc : Okt c) (od : Okt d) (oe : ∀ p, e = some p → Okt p.1) : WK (wr (pA a c d e)) [sA, sQ] [some a, none] [(sA, wr (pA a c d e))] :=
  .step (hasEq_wr _ _ _) (prsA oa oc od oe fA_a) (.unk (Nat.le_trans oa.1 (by decide)) (hasEq_okt oa))
theorem wk5 (oa : Okt a) (oc : Okt c) (od : Okt d) (oe : ∀ p, e = some p → Okt p.1) : WK (wr (pA a c d e)) [sE] [some ((e.map (·.1)).getD sU)] [(sE, wr (pA a c d e))] :=
  .step (hasEq_wr _ _ _) (prsA oa oc od oe fA_e) (.nil _)
theorem vA_a : valueAt (kvsA a t1 B e) sA = some (.str a t1) := rfl
theorem vA_b : valueAt (kvsA a t1 B e) sB = some (.ref B) := rfl
theorem vA_z : valueAt (kvsA a t1 B e) sZ = none := by cases e <;> rfl
theorem vA_e : valueAt (kvsA a t1 B e) sE = e.map fun p => Value.str p.1 p.2 := by cases e <;> rfl
theorem vB_c : valueAt (kvsB c t2 D) sC = some (.str c t2) := rfl
theorem vB_a : valueAt (kvsB c t2 D) sA = some (.ref D) := rfl
theorem vD_d : valueAt [(sD, Value.str d t3)] sD = some (.str d t3) := rfl
theorem dk1 (T : TreeAt w h A B D a c d e t1 t2 t3) (oa : Okt a) (oc : Okt c) (od : Okt d) (oe : ∀ p, e = some p → Okt p.1) : DK w h (.ref A) [sB, sC] [some (wr (pB c d)), some c] [(sB, wr (pA a c d e)), (sC, wr (pB c d))] := by
  refine .step T.dA T.sA (wrtA T oa oc od oe) (fun t => ?_) fun t => ?_
  · rw [vA_b]; exact (wrtB T oc od).succ
  · rw [vA_b]
    refine .step T.dB T.sB (wrtB T oc od).succ (fun t => ?_) fun t => ?_
    · rw [vB_c]; exact .inl ⟨t2, rfl⟩
    · exact .nil _
theorem dk2 (T : TreeAt w h A B D a c d e t1 t2 t3) (oa : Okt a) (oc : Okt c) (od : Okt d) (oe : ∀ p, e = some p → Okt p.1) : DK w h (.ref A) [sB, sA, sD] [some (wr (pB c d)), some (wr (pD d)), some d] [(sB, wr (pA a c d e)), (sA, wr (pB c d)), (sD, wr (pD d))] := by
  refine .step T.dA T.sA (wrtA T oa oc od oe) (fun t => ?_) fun t => ?_
  · rw [vA_b]; exact (wrtB T oc od).succ
  · rw [vA_b]
    refine .step T.dB T.sB (wrtB T oc od).succ (fun t => ?_) fun t => ?_
    · rw [vB_a]; exact (wrtD T od).succ.succ
    · rw [vB_a]
      refine .step T.dD T.sD (wrtD T od).succ.succ (fun t => ?_) fun t => ?_
      · rw [vD_d]; exact .inl ⟨t3, rfl⟩
      · exact .nil _
theorem dk3 (T : TreeAt w h A B D a c d e t1 t2 t3) (oa : Okt a) (oc : Okt c) (od : Okt d) (oe : ∀ p, e = some p → Okt p.1) : DK w h (.ref A) [sZ] [some sU] [(sZ, wr (pA a c d e))] := by
  refine .step T.dA T.sA (wrtA T oa oc od oe) (fun t => ?_) fun t => .nil _
  rw [vA_z]; exact .inl ⟨t, rfl⟩
theorem dk4 (T : TreeAt w h A B D a c d e t1 t2 t3) (oa : Okt a) (oc : Okt c) (od : Okt d) (oe : ∀ p, e = some p → Okt p.1) : DK w h (.ref A) [sA, sQ] [some a, none] [(sA, wr (pA a c d e))] := by
  refine .step T.dA T.sA (wrtA T oa oc od oe) (fun t => ?_) fun t => ?_
  · rw [vA_a]; exact .inl ⟨t1, rfl⟩
  · rw [vA_a]; exact .unk
theorem dk5 (T : TreeAt w h A B D a c d e t1 t2 t3) (oa : Okt a) (oc : Okt c) (od : Okt d) (oe : ∀ p, e = some p → Okt p.1) : DK w h (.ref A) [sE] [some ((e.map (·.1)).getD sU)] [(sE, wr (pA a c d e))] := by
  refine .step T.dA T.sA (wrtA T oa oc od oe) (fun t => ?_) fun t => .nil _
  rw [vA_e]
  cases e with
  | none => exact .inl ⟨t, rfl⟩
  | some p => exact .inl ⟨p.2, rfl⟩
end
end Mine
set_option maxHeartbeats 1000000
namespace Mine
open PySem.Calls PySem.Spec PyProof.V PyProof.Rows.LCg
theorem law_fin {w : World} {lo : List PySem.Str} {mean : ExcName → Option Value} {mg mb : PySem.Str → Option Value} {dp un : Nat} {fr : Option (List Env)} {gd : Option (List Code)} {E Qf : Value → Shared → Prop} {s : Shared} {h₀ : Heap} {L : Addr} {m : PySem.Str → Option Value} {env : Env}
    {p1 p2 p3 p4 p5 p6 p7 p8 p9 q1 q3 q5 q6 q7 q8 q9 : Pos} {sc1 sc2 : Scope} {W l1 l2 l3 l4 l5 D B A S cc : Addr} {oD oB oA oS oc : Obj} {u1 u2 u3 u4 u5 u6 u7 u8 u9 t1 t2 t3 : Tok} {a c d : PySem.Str} {e : Option (PySem.Str × Tok)}
    (X : (hd68.heap_39 w.params).In h₀) (T : Top topProg lo mean mg mb h₀) (C₀ : CodeHd h₀ 74 70) (F : Fr h₀ L s.heap m)
    (N : News h₀ L s.heap [(W, PySem.W.listOf #[.ref l1, .ref l2, .ref l3, .ref l4, .ref l5] 0), (l5, PySem.W.listOf #[.str sE u9] 0), (l4, PySem.W.listOf #[.str Mine.sA u7, .str sQ u8] 0), (l3, PySem.W.listOf #[.str sZ u6] 0), (l2, PySem.W.listOf #[.str Mine.sB u3, .str Mine.sA u4, .str Mine.sD u5] 0), (l1, PySem.W.listOf #[.str Mine.sB u1, .str sC u2] 0), (D, oD), (B, oB), (A, oA), (S, oS), (cc, oc), (70, tabObj #[])])
    (hcd : oc.data = .cell (some (.ref A)))
    (iA : oA.IsDictOf (PySem.strKind PySem.Challenge.rw_pe0068_01.row.prog w) (kvsA a t1 B e)) (iB : oB.IsDictOf (PySem.strKind PySem.Challenge.rw_pe0068_01.row.prog w) (kvsB c t2 D)) (iD : oD.IsDictOf (PySem.strKind PySem.Challenge.rw_pe0068_01.row.prog w) [(Mine.sD, .str d t3)])
    (yA : (A == sysModules) = false) (yB : (B == sysModules) = false) (yD : (D == sysModules) = false) (oa : Okt a) (okc : Okt c) (od : Okt d) (oe : ∀ p, e = some p → Okt p.1)
    (n70 : ∀ b ∈ [W, l5, l4, l3, l2, l1, D, B, A, S, cc], (70 : Addr) ≠ b)
    (hd : dp + 60 < recursionLimit) (hu : un + 160 < cLine) (hg : env.globals = mainGlobals)
    (hclos1 : closureFor sc1 env = pure [(PySem.Str.ofString "drawn", cc)]) (hcell1 : ∀ y ∈ sc1.names, y.2 ≠ .cell) (hkind1 : sc1.kind = .function)
    (hnames1 : ∀ y ∈ sc1.names, y.2 = .local → sc1.names.lookup y.1 = some .local) (hx1 : sc1.names.lookup (PySem.Str.ofString "each") = some .local)
    (a1 : (relabel sc1 env).names.lookup (PySem.Str.ofString "each") = some .local) (a2 : (relabel sc1 env).names.lookup (PySem.Str.ofString "drawn") = some .cell) (a3 : (relabel sc1 env).names.lookup (PySem.Str.ofString "_law_walked") = some .globalImplicit) (a4 : (relabel sc1 env).names.lookup (PySem.Str.ofString "_law_written") = some .globalImplicit)
    (hclos2 : closureFor sc2 env = pure [(PySem.Str.ofString "drawn", cc)]) (hcell2 : ∀ y ∈ sc2.names, y.2 ≠ .cell) (hkind2 : sc2.kind = .function)
    (hnames2 : ∀ y ∈ sc2.names, y.2 = .local → sc2.names.lookup y.1 = some .local) (hx2 : sc2.names.lookup (PySem.Str.ofString "each") = some .local)
    (b1 : (relabel sc2 env).names.lookup (PySem.Str.ofString "each") = some .local) (b2 : (relabel sc2 env).names.lookup (PySem.Str.ofString "drawn") = some .cell) (b3 : (relabel sc2 env).names.lookup (PySem.Str.ofString "_law_due") = some .globalImplicit)
    (hiter1 : ∀ (s' : Shared) (Q' : Value → Shared → Prop), Fr h₀ L s'.heap m → Q' (.ref W) s' → wpAny (model PySem.Challenge.rw_pe0068_01.row.prog w) (Ar dp un fr gd) (eval (.Name (PySem.Str.ofString "ways") p8) env) Q' E s')
    (hiter2 : ∀ (s' : Shared) (Q' : Value → Shared → Prop), Fr h₀ L s'.heap m → Q' (.ref W) s' → wpAny (model PySem.Challenge.rw_pe0068_01.row.prog w) (Ar dp un fr gd) (eval (.Name (PySem.Str.ofString "ways") q8) env) Q' E s')
    (hQ : ∀ h tk ps, Fr h₀ L h m → h.get? 70 = some (tabObj ps) → Qf (.bool true) { s with heap := h, toks := tk }) :
    wpAny (model PySem.Challenge.rw_pe0068_01.row.prog w) (Ar dp un fr gd) (eval (.ListComp (.Call (.Name (PySem.Str.ofString "_law_walked") p1) [.Call (.Name (PySem.Str.ofString "_law_written") p2) [.Name (PySem.Str.ofString "drawn") p3] [] p4, .Name (PySem.Str.ofString "each") p5] [] p6) [⟨.Name (PySem.Str.ofString "each") p7, .Name (PySem.Str.ofString "ways") p8, [], 0⟩] sc1 p9) env)
      (fun v s₁ => wpAny (model PySem.Challenge.rw_pe0068_01.row.prog w) (Ar dp un fr gd) (eval (.ListComp (.Call (.Name (PySem.Str.ofString "_law_due") q1) [.Name (PySem.Str.ofString "drawn") q3, .Name (PySem.Str.ofString "each") q5] [] q6) [⟨.Name (PySem.Str.ofString "each") q7, .Name (PySem.Str.ofString "ways") q8, [], 0⟩] sc2 q9) env)
        (fun u s₂ => wpAny (model PySem.Challenge.rw_pe0068_01.row.prog w) (Ar dp un fr gd) (compareOp .Eq v u) Qf E s₂) E s₁) E s := by
  generalize hcst : [(W, PySem.W.listOf #[.ref l1, .ref l2, .ref l3, .ref l4, .ref l5] 0), (l5, PySem.W.listOf #[.str sE u9] 0), (l4, PySem.W.listOf #[.str Mine.sA u7, .str sQ u8] 0), (l3, PySem.W.listOf #[.str sZ u6] 0), (l2, PySem.W.listOf #[.str Mine.sB u3, .str Mine.sA u4, .str Mine.sD u5] 0), (l1, PySem.W.listOf #[.str Mine.sB u1, .str sC u2] 0), (D, oD), (B, oB), (A, oA), (S, oS), (cc, oc)] = cst
  have N2 : News h₀ L s.heap (cst ++ [(70, tabObj #[])]) := by subst hcst; exact N
  have N' : News h₀ L s.heap ([(70, tabObj #[])] ++ cst) := fun p hp => N2 p (List.mem_append.mpr (List.mem_append.mp hp).symm)
  have hTr : ∀ h : Heap, (∀ p ∈ cst, h.get? p.1 = some p.2) → TreeAt w h A B D a c d e t1 t2 t3 := fun h hp => by
    subst hcst
    exact ⟨Heap.dictOf_iff.mpr ⟨oA, hp (A, oA) (by simp), iA⟩, Heap.dictOf_iff.mpr ⟨oB, hp (B, oB) (by simp), iB⟩, Heap.dictOf_iff.mpr ⟨oD, hp (D, oD) (by simp), iD⟩, yA, yB, yD⟩
  refine law_cmp (x := wr (pA a c d e)) (ws := wsOf a c d e) (its := [.ref l1, .ref l2, .ref l3, .ref l4, .ref l5]) (n₀ := 0) (W := W) (oc := oc) X T C₀ F N' (.inl rfl) ?_ hd hu hg hclos1 hcell1 hkind1 hnames1 hx1 a1 a2 a3 a4 hclos2 hcell2 hkind2 hnames2 hx2 b1 b2 b3 hiter1 hiter2 (by rw [← hcst]; simp) (by simp) (by rw [← hcst]; simp) hcd (fun h hp => wrtA (hTr h hp) oa okc od oe) ?_ hQ
  · intro p hp q hq
    rw [List.mem_singleton.mp hp]
    refine n70 q.1 ?_
    rw [← hcst] at hq
    simp only [List.mem_cons, List.not_mem_nil, or_false] at hq ⊢
    rcases hq with rfl | rfl | rfl | rfl | rfl | rfl | rfl | rfl | rfl | rfl | rfl <;> simp
  · refine .cons ⟨l1, [.str Mine.sB u1, .str sC u2], [Mine.sB, sC], 0, rfl, by rw [← hcst]; simp, .cons _ _ (.cons _ _ .nil), by decide, wk1 oa okc od oe, fun h hp => dk1 (hTr h hp) oa okc od oe⟩ ?_
    refine .cons ⟨l2, [.str Mine.sB u3, .str Mine.sA u4, .str Mine.sD u5], [Mine.sB, Mine.sA, Mine.sD], 0, rfl, by rw [← hcst]; simp, .cons _ _ (.cons _ _ (.cons _ _ .nil)), by decide, wk2 oa okc od oe, fun h hp => dk2 (hTr h hp) oa okc od oe⟩ ?_
    refine .cons ⟨l3, [.str sZ u6], [sZ], 0, rfl, by rw [← hcst]; simp, .cons _ _ .nil, by decide, wk3 oa okc od oe, fun h hp => dk3 (hTr h hp) oa okc od oe⟩ ?_
    refine .cons ⟨l4, [.str Mine.sA u7, .str sQ u8], [Mine.sA, sQ], 0, rfl, by rw [← hcst]; simp, .cons _ _ (.cons _ _ .nil), by decide, wk4 oa okc od oe, fun h hp => dk4 (hTr h hp) oa okc od oe⟩ ?_
    exact .cons ⟨l5, [.str sE u9], [sE], 0, rfl, by rw [← hcst]; simp, .cons _ _ .nil, by decide, wk5 oa okc od oe, fun h hp => dk5 (hTr h hp) oa okc od oe⟩ .nil
end Mine
set_option maxHeartbeats 1000000
namespace Mine
open PySem.Calls PySem.Spec PyProof.V
local macro_rules | `(tactic| walk_at "call ref") => `(tactic| with_reducible refine Stop.mk ?_)
local macro_rules | `(tactic| walk_at "eval ListComp") => `(tactic| with_reducible refine Stop.mk ?_)
theorem lw : PySem.Challenge.rw_pe0068_01.Holds := hd68 (by
  k_with_none
  w_top on
  k_go0
  (all_goals try k_fold)
  k_steps
  unfold Stop
  rename Fr _ _ _ _ => cF
  rename News _ _ _ _ => cN
  rename Frag.In _ _ => X
  rename Top _ _ _ _ _ (ghostOf _ _) => T
  rename CodeHd _ _ _ => C
  rename IntsAre _ (List.take 4 _) => hI4
  have gD := (cN _ (.head _)).1
  (with_unfolding_all refine' tree_c (X.keeps cF.keep) (T.keeps cF.keep) ?hd ?hl hI4 ?_)
  case hd => decide
  case hl => exact ⟨_, gD, rfl, _, rfl⟩
  intro m nx h1 tk1 hTJ hnx hk1 v hv
  obtain ⟨A, B, D, oA, oB, oD, t1, t2, t3, a, c, d, e, rfl, hmA, sA, sB, sD, iA, iB, iD, okA, okC, okD, okE⟩ := hTJ
  rw [hmA] at hv
  cases hv
  have hfr : ∀ p ∈ [(D, oD), (B, oB), (A, oA)], _ := fun p hp => news_fresh cF (hnx p hp).2 (hnx p hp).1
  have F' := cF.keeps hk1
  have N' : News _ _ h1 ((D, oD) :: (B, oB) :: (A, oA) :: _) := fun r hr => by
    rcases List.mem_cons.mp hr with rfl | hr
    · exact hfr _ (.head _)
    · rcases List.mem_cons.mp hr with rfl | hr
      · exact hfr _ (.tail _ (.head _))
      · rcases List.mem_cons.mp hr with rfl | hr
        · exact hfr _ (.tail _ (.tail _ (.head _)))
        · exact ⟨hk1 _ _ (cN r hr).1, (cN r hr).2⟩
  have gcell := (cN _ (.tail _ (.head _))).1
  have g70 := (cN _ (.tail _ (.tail _ (.head _)))).1
  dsimp only at gcell g70
  have nA := fresh_ne (hnx _ (.tail _ (.tail _ (.head _)))).2 gcell
  have nB := fresh_ne (hnx _ (.tail _ (.head _))).2 gcell
  have nD := fresh_ne (hnx _ (.head _)).2 gcell
  have nA7 := fresh_ne (hnx _ (.tail _ (.tail _ (.head _)))).2 g70
  have nB7 := fresh_ne (hnx _ (.tail _ (.head _))).2 g70
  have nD7 := fresh_ne (hnx _ (.head _)).2 g70
  dsimp only at nA nB nD nA7 nB7 nD7
  clear cF cN hnx gcell g70
  dsimp only
  k_steps
  unfold Stop
  rename Fr _ _ _ _ => cF
  rename News _ _ _ _ => cN
  rename (_ = Data.cell (some (Value.ref A))) => hcd
  (with_unfolding_all refine' law_fin X T C cF cN hcd iA iB iD sA sB sD okA okC okD okE ?n70 ?hd ?hu rfl rfl ?k1 rfl ?k2 rfl rfl rfl rfl rfl rfl ?k3 rfl ?k4 rfl rfl rfl rfl ?it1 ?it2 ?fin)
  case n70 =>
    have l70 := Heap.lt_size (hT8 70 (.head _))
    have l70' := Nat.ne_of_lt (Nat.lt_succ_of_lt l70)
    intro b hb
    simp only [List.mem_cons, List.not_mem_nil, or_false] at hb
    rcases hb with rfl | rfl | rfl | rfl | rfl | rfl | rfl | rfl | rfl | rfl | rfl <;> first | exact Ne.symm nD7 | exact Ne.symm nB7 | exact Ne.symm nA7 | exact l70' | exact Nat.ne_of_lt (show @LT.lt Nat _ 70 _ by omega)
  case hd => decide
  case hu => decide
  case k1 => decide
  case k2 => decide
  case k3 => decide
  case k4 => decide
  case it1 => intro s' Q' F' hq; exact wpAny_Name (wpAny_loadName_local rfl rfl F'.ns rfl hq) (by decide +kernel)
  case it2 => intro s' Q' F' hq; exact wpAny_Name (wpAny_loadName_local rfl rfl F'.ns rfl hq) (by decide +kernel)
  case fin =>
    intro h9 tk9 ps F9 h70
    clear cF cN
    dsimp only
    refine ⟨?_, ⟨ps, h70⟩, trivial⟩
    first | (k_end; wrow_close; done) | (wrow_close; done))
end Mine
set_option maxRecDepth 100000 in
set_option maxHeartbeats 8000000 in
theorem PySem.Challenge.cw_pe0068_01_holds : PySem.Challenge.rw_pe0068_01.Holds := by
  exact Mine.lw
