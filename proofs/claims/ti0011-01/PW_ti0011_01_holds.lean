import PyProof.Rows.All
import Wide.All
import OpenK.AllK
import Wide.FinOn
import Lean
import PySem.Challenge.RW_ti0011_01
set_option Elab.async false

section
open PySem PySem.W PyProof.Rows
namespace Mine
set_option maxRecDepth 100000 in
set_option maxHeartbeats 8000000 in
open_top hd for PySem.Challenge.rw_ti0011_01
end Mine
end

section
open PySem PySem.W PySem.Calls PySem.Spec PyProof.Rows
namespace Mine

/-- What a call of the def at `f` does: it ends, hands back a `v` and new objects `tl` with `Out v tl`. -/
def Does (w : World) (p : Program) (loose : List Str) (mean : ExcName → Option Value) (mg mb : Str → Option Value) (k : Nat) (f : Addr) (vs : List Value) (pre : List (Addr × Obj)) (Out : Value → List (Addr × Obj) → Prop) : Prop :=
  ∀ (dp un : Nat) (gd : Option (List Code)) (cn : Str) (cs : Scope) (a : Addr) (ccd : Value) (cl : List (Str × Addr)) (outer : List Env) (A₀ : Around) (base h₀ : Heap) (L : Addr) (m : Str → Option Value) (news : List (Addr × Obj)) (s : Shared) (Q E : Value → Shared → Prop),
    Below A₀ base outer h₀ → Fr h₀ L s.heap m → (hd.heap_39 w.params).In h₀ → News h₀ L s.heap (pre ++ news) → Top p loose mean mg mb h₀ → cs.kind = .function →
    dp + k < recursionLimit → un + 8 * k + 500 < cLine →
    (∀ (v : Value) (tl : List (Addr × Obj)) (h' : Heap) (tk' : Nat), Fr h₀ L h' m → News h₀ L h' (tl ++ (pre ++ news)) → (∀ q ∈ tl, ∀ p ∈ pre ++ news, p.1 ≠ q.1) → Out v tl → Q v { s with heap := h', toks := tk' }) →
    wpAny (model PySem.Challenge.rw_ti0011_01.row.prog w) (ktrTop dp un gd cn cs L a ccd cl outer) (call (.ref f) vs) Q E s

theorem Does.use {w : World} {p : Program} {loose : List Str} {mean : ExcName → Option Value} {mg mb : Str → Option Value} {k : Nat} {f : Addr} {vs : List Value} {pre : List (Addr × Obj)} {Out : Value → List (Addr × Obj) → Prop}
    (C : Does w p loose mean mg mb k f vs pre Out) {dp un : Nat} {gd : Option (List Code)} {cn : Str} {cs : Scope} {a : Addr} {ccd : Value} {cl : List (Str × Addr)} {outer : List Env} {A₀ : Around} {base h₀ : Heap} {L : Addr} {m : Str → Option Value} {news : List (Addr × Obj)} {s : Shared} {Q E : Value → Shared → Prop}
    (B : Below A₀ base outer h₀) (F : Fr h₀ L s.heap m) (X : (hd.heap_39 w.params).In h₀) (N : News h₀ L s.heap news) (T : Top p loose mean mg mb h₀) (hk : cs.kind = .function)
    (hpre : ∀ q ∈ pre, q ∈ news) (hd : dp + k < recursionLimit) (hu : un + 8 * k + 500 < cLine)
    (ret : ∀ (v : Value) (tl : List (Addr × Obj)) (h' : Heap) (tk' : Nat), Fr h₀ L h' m → News h₀ L h' (tl ++ news) → (∀ q ∈ tl, ∀ p ∈ news, p.1 ≠ q.1) → Out v tl → Q v { s with heap := h', toks := tk' }) :
    wpAny (model PySem.Challenge.rw_ti0011_01.row.prog w) (ktrTop dp un gd cn cs L a ccd cl outer) (call (.ref f) vs) Q E s := by
  refine C dp un gd cn cs a ccd cl outer A₀ base h₀ L m news s Q E B F X (fun q hq => N q ((List.mem_append.mp hq).elim (hpre q) id)) T hk hd hu ?_
  intro v tl h' tk' F' N' hlt ho
  refine ret v tl h' tk' F' (fun q hq => N' q ?_) (fun q hq p hp => hlt q hq p (List.mem_append.mpr (.inr hp))) ho
  rcases List.mem_append.mp hq with h | h
  · exact List.mem_append.mpr (.inl h)
  · exact List.mem_append.mpr (.inr (List.mem_append.mpr (.inr h)))


/-- A def that makes nothing that stays: its value alone. -/
abbrev PureC (w : World) (p : Program) (loose : List Str) (mean : ExcName → Option Value) (mg mb : Str → Option Value) (k : Nat) (f : Addr) (vs : List Value) (pre : List (Addr × Obj)) (V : Tok → Value) : Prop :=
  Does w p loose mean mg mb k f vs pre (fun v tl => tl = [] ∧ ∃ t, v = V t)

theorem PureC.use {w : World} {p : Program} {loose : List Str} {mean : ExcName → Option Value} {mg mb : Str → Option Value} {k : Nat} {f : Addr} {vs : List Value} {pre : List (Addr × Obj)} {V : Tok → Value}
    (C : PureC w p loose mean mg mb k f vs pre V) {dp un : Nat} {gd : Option (List Code)} {cn : Str} {cs : Scope} {a : Addr} {ccd : Value} {cl : List (Str × Addr)} {outer : List Env} {A₀ : Around} {base h₀ : Heap} {L : Addr} {m : Str → Option Value} {news : List (Addr × Obj)} {s : Shared} {Q E : Value → Shared → Prop}
    (B : Below A₀ base outer h₀) (F : Fr h₀ L s.heap m) (X : (hd.heap_39 w.params).In h₀) (N : News h₀ L s.heap news) (T : Top p loose mean mg mb h₀) (hk : cs.kind = .function)
    (hpre : ∀ q ∈ pre, q ∈ news) (hd : dp + k < recursionLimit) (hu : un + 8 * k + 500 < cLine)
    (ret : ∀ (t : Tok) (h' : Heap) (tk' : Nat), Fr h₀ L h' m → News h₀ L h' news → Q (V t) { s with heap := h', toks := tk' }) :
    wpAny (model PySem.Challenge.rw_ti0011_01.row.prog w) (ktrTop dp un gd cn cs L a ccd cl outer) (call (.ref f) vs) Q E s := by
  refine Does.use C B F X N T hk hpre hd hu ?_
  intro v tl h' tk' F' N' _ ho
  obtain ⟨e1, t, e2⟩ := ho
  subst e1 e2
  exact ret t h' tk' F' N'

theorem PureC.intro {w : World} {p : Program} {loose : List Str} {mean : ExcName → Option Value} {mg mb : Str → Option Value} {k : Nat} {f : Addr} {vs : List Value} {pre : List (Addr × Obj)} {V : Tok → Value}
    (H : ∀ (dp un : Nat) (gd : Option (List Code)) (cn : Str) (cs : Scope) (a : Addr) (ccd : Value) (cl : List (Str × Addr)) (outer : List Env) (A₀ : Around) (base h₀ : Heap) (L : Addr) (m : Str → Option Value) (news : List (Addr × Obj)) (s : Shared) (Q E : Value → Shared → Prop),
      Below A₀ base outer h₀ → Fr h₀ L s.heap m → (hd.heap_39 w.params).In h₀ → News h₀ L s.heap (pre ++ news) → Top p loose mean mg mb h₀ → cs.kind = .function →
      dp + k < recursionLimit → un + 8 * k + 500 < cLine →
      (∀ (t : Tok) (h' : Heap) (tk' : Nat), Fr h₀ L h' m → News h₀ L h' (pre ++ news) → Q (V t) { s with heap := h', toks := tk' }) →
      wpAny (model PySem.Challenge.rw_ti0011_01.row.prog w) (ktrTop dp un gd cn cs L a ccd cl outer) (call (.ref f) vs) Q E s) :
    PureC w p loose mean mg mb k f vs pre V := by
  intro dp un gd cn cs a ccd cl outer A₀ base h₀ L m news s Q E B F X N T hk hd hu hret
  exact H dp un gd cn cs a ccd cl outer A₀ base h₀ L m news s Q E B F X N T hk hd hu fun t h' tk' F' N' => hret (V t) [] h' tk' F' N' (fun _ h => nomatch h) ⟨rfl, t, rfl⟩

/-- Into a def whose caller's ledger is laid by: all that lay on the heap stays (`kk` at the end). -/
theorem enter0 {prog : Program} {w : World} {A₀ A : Around} {s : Shared} {K : Frag} {L : Addr} {h₀ base : Heap} {m mg mb : Str → Option Value} {p : Program} {loose : List Str} {mean : ExcName → Option Value}
    {env : Env} {outer : List Env} {R : Result → Shared → Prop} {name qual : Str} {params : Arguments} {body : List Stmt} {scope : Scope} {dV kV doc pm cdv ct oc : Value} {an od : Option Addr} {osl : Array (Option Value)} {f : Addr} {args : Args} {binds : List (Str × Value)}
    (B : Below A₀ base outer h₀) (F : Fr h₀ L s.heap m) (X₀ : K.In h₀) (T : Top p loose mean mg mb h₀) (hA : A.frames = some (env :: outer)) (hf : env.frame = some L) (hke : env.scope.kind = .function)
    (ho : K.lookup f = some ⟨oc, od, .func (fnOf name qual params body scope dV kV doc pm an cdv ct), osl⟩) (hcd : codeIn K cdv qual = true) (hroom : A.depth < recursionLimit)
    (hbind : BindsTo s (fnOf name qual params body scope dV kV doc pm an cdv ct) args binds) (hloc : ∀ y ∈ binds, scope.names.lookup y.1 = some .local)
    (h : ∀ g L' h₁, Fr h₀ L g m → Fr g L' h₁ (fun y => binds.reverse.lookup y) → News g L' h₁ [] → Below A base (env :: outer) g → K.In g → Top p loose mean mg mb g → (∀ b o, s.heap.get? b = some o → g.get? b = some o) →
      wpAny (model prog w) (A.deeper (envOf qual scope L' f cdv)) (execs body (envOf qual scope L' f cdv))
        (fun fl s' => LeaveK h₀ L m g (fun r s'' => (∀ b o, s.heap.get? b = some o → s''.heap.get? b = some o) → R r s'') (match fl with | .ret v => v | _ => .none) s')
        (fun e s' => wpAny (model prog w) (A.deeper (envOf qual scope L' f cdv)) (leaving (envOf qual scope L' f cdv) e) (fun _ s'' => R (.error e) s'') (fun e' s'' => R (.error e') s'') s')
        { s with heap := h₁, toks := s.toks + binds.length })
    (hco : scope.isCoroutine = false) (hgen : scope.isGenerator = false) (hk : scope.kind = .function)
    (hcell : ∀ x ∈ scope.names, x.2 ≠ .cell) : codeAny (model prog w) A (.call (.ref f) args) R s := by
  obtain ⟨FG, BG, st, lv⟩ := groundX (R := fun r s'' => (∀ b o, s.heap.get? b = some o → s''.heap.get? b = some o) → R r s'') (news := []) B F (fun _ hp => nomatch hp) hA hf hke
  refine codeAny_call_def (fd := fnX name qual params body scope [] dV kV doc pm an cdv ct) (body := body) (binds := binds) hroom ((X₀.keeps F.keep) _ _ ho) rfl (T.nolimit.keeps F.keep) (codeRec_of (X₀.keeps F.keep) hcd) rfl hbind hcell hloc (fun h₁ hns hk₁ => ?_) hco hgen hk
  refine wpAny_mono (h s.heap s.heap.objs.size h₁ F ⟨hns, hk₁, Nat.le_refl _⟩ (fun _ hp => nomatch hp) BG (X₀.keeps F.keep) (T.keeps F.keep) (fun _ _ q => q)) (fun fl s' hl => ?_) fun _ _ y => y
  have hl' := hl
  obtain ⟨L', m', news', F', N', _⟩ := hl'
  exact lv _ _ hl F'.keep

theorem news_kept {h₀ h h' : Heap} {L : Addr} {news : List (Addr × Obj)} (N : News h₀ L h news) (kk : ∀ b o, h.get? b = some o → h'.get? b = some o) : News h₀ L h' news := fun p hp => ⟨kk _ _ (N p hp).1, (N p hp).2⟩

/-- The same for a def with cells. -/
theorem enter0C {prog : Program} {w : World} {A₀ A : Around} {s : Shared} {K : Frag} {L : Addr} {h₀ base : Heap} {m mg mb : Str → Option Value} {p : Program} {loose : List Str} {mean : ExcName → Option Value}
    {env : Env} {outer : List Env} {R : Result → Shared → Prop} {name qual : Str} {params : Arguments} {body : List Stmt} {scope : Scope} {dV kV doc pm cdv ct oc : Value} {an od : Option Addr} {osl : Array (Option Value)} {f : Addr} {args : Args} {binds : List (Str × Value)}
    (B : Below A₀ base outer h₀) (F : Fr h₀ L s.heap m) (X₀ : K.In h₀) (T : Top p loose mean mg mb h₀) (hA : A.frames = some (env :: outer)) (hf : env.frame = some L) (hke : env.scope.kind = .function)
    (ho : K.lookup f = some ⟨oc, od, .func (fnOf name qual params body scope dV kV doc pm an cdv ct), osl⟩) (hcd : codeIn K cdv qual = true) (hroom : A.depth < recursionLimit)
    (hbind : BindsTo s (fnOf name qual params body scope dV kV doc pm an cdv ct) args binds) (hkind : (binds.all fun y => scope.names.lookup y.1 == some .local || scope.names.lookup y.1 == some .cell) = true)
    (hnd : ((cellsFrom 0 scope.names []).map (·.1)).Nodup)
    (h : ∀ g L' h₁ tk cells, Fr h₀ L g m → Fr g L' h₁ (bindL (envOfC qual scope L' f cdv).kindOf binds fun _ => none) → News g L' h₁ cells →
      CellsAre (bindC (envOfC qual scope L' f cdv).kindOf binds fun _ => none) (cellsFrom (L' + 1) scope.names []) cells → Below A base (env :: outer) g → K.In g → Top p loose mean mg mb g → (∀ b o, s.heap.get? b = some o → g.get? b = some o) →
      wpAny (model prog w) (A.deeper (envOfC qual scope L' f cdv)) (execs body (envOfC qual scope L' f cdv))
        (fun fl s' => LeaveK h₀ L m g (fun r s'' => (∀ b o, s.heap.get? b = some o → s''.heap.get? b = some o) → R r s'') (match fl with | .ret v => v | _ => .none) s')
        (fun e s' => wpAny (model prog w) (A.deeper (envOfC qual scope L' f cdv)) (leaving (envOfC qual scope L' f cdv) e) (fun _ s'' => R (.error e) s'') (fun e' s'' => R (.error e') s'') s')
        { s with heap := h₁, toks := tk })
    (hco : scope.isCoroutine = false) (hgen : scope.isGenerator = false) (hk : scope.kind = .function) : codeAny (model prog w) A (.call (.ref f) args) R s := by
  obtain ⟨FG, BG, st, lv⟩ := groundX (R := fun r s'' => (∀ b o, s.heap.get? b = some o → s''.heap.get? b = some o) → R r s'') (news := []) B F (fun _ hp => nomatch hp) hA hf hke
  refine codeAny_call_function hroom ((X₀.keeps F.keep) _ _ ho) rfl hco hgen rfl (codeRec_of (X₀.keeps F.keep) hcd) (hbind _ _ _ _ ?_)
  refine wpAny_newFunctionEnv_cells hk (kindsX hkind _) fun env' he s' x => ?_
  subst he
  refine ⟨(T.nolimit.keeps F.keep).keeps x.toInCall.keep, codeAny_func ?_⟩
  obtain ⟨h₁, tk, rfl, _⟩ := x.done
  obtain ⟨cells, NC, Y⟩ := Cl.news (h₀ := s.heap) (Nat.le_refl _) fun n c hm => ⟨x.cell n c (lookup_of_mem_nodup (cellsFrom_names scope.names 0 (s.heap.objs.size + 1) [] [] rfl ▸ hnd) hm), x.above n c hm⟩
  refine wpAny_mono (h s.heap s.heap.objs.size h₁ tk cells F ⟨x.toInCall.ns, x.toInCall.keep, Nat.le_refl _⟩ NC Y BG (X₀.keeps F.keep) (T.keeps F.keep) (fun _ _ q => q)) (fun fl s' hl => ?_) fun _ _ y => y
  have hl' := hl
  obtain ⟨L', m', news', F', N', _⟩ := hl'
  exact lv _ _ hl F'.keep

theorem news_apart {h₀ g s h' : Heap} {L L' D : Addr} {o : Obj} {news led : List (Addr × Obj)} (N : News h₀ L s news) (hG : ∀ b o, s.get? b = some o → g.get? b = some o) (N' : News g L' h' led) (hm : (D, o) ∈ led) : ∀ p ∈ news, p.1 ≠ D := fun p hp e => by
  have h1 := hG _ _ (N p hp).1
  have h2 := (N' _ hm).2.2
  rw [e, h2] at h1
  cases h1

end Mine
end

section
open PySem PySem.W PySem.Calls PySem.Spec PyProof.Rows PyProof
namespace Mine

/-- the first place from `j` on, at most `f` places on, at which `P` is false -/
noncomputable def firstFrom (P : Nat → Bool) : Nat → Nat → Nat
  | 0, j => j
  | f + 1, j => if P j then firstFrom P f (j + 1) else j
/-- down from `b` as long as `P` holds of the place below -/
noncomputable def downFrom (P : Nat → Bool) : Nat → Nat
  | 0 => 0
  | b + 1 => if P b then downFrom P b else b + 1

noncomputable def ltB {α : Type} [DecidableEq α] [LT α] [DecidableLT α] (l : List α) (i j : Nat) : Bool := decide (l.drop i < l.drop j)
noncomputable def endOf {α : Type} [DecidableEq α] [LT α] [DecidableLT α] (l : List α) (i : Nat) : Nat := firstFrom (ltB l i) (l.length - (i + 1)) (i + 1)

/-- _strcoll -/
noncomputable def scoll (a b : PySem.Str) : Int := b2i (decide (b.cps.toList < a.cps.toList)) - b2i (decide (a.cps.toList < b.cps.toList))

theorem scoll_pair (a b : PySem.Str) : ([scoll a b, scoll b a] = [-1, 1]) ↔ a.cps.toList < b.cps.toList := by
  unfold scoll
  constructor
  · intro h
    by_cases h1 : a.cps.toList < b.cps.toList
    · exact h1
    · exfalso
      simp only [h1, decide_false, b2i] at h
      by_cases h2 : b.cps.toList < a.cps.toList <;> simp [h2] at h
  · intro h
    have h2 : ¬ b.cps.toList < a.cps.toList := fun h' => List.lt_irrefl _ (List.lt_trans h h')
    simp [h, h2, b2i]
theorem scoll_zero (a b : PySem.Str) : scoll a b = 0 ↔ a.cps.toList = b.cps.toList := by
  unfold scoll
  constructor
  · intro h
    by_cases h1 : a.cps.toList < b.cps.toList
    · have h2 : ¬ b.cps.toList < a.cps.toList := fun h' => List.lt_irrefl _ (List.lt_trans h1 h')
      simp [h1, h2, b2i] at h
    · by_cases h2 : b.cps.toList < a.cps.toList
      · simp [h1, h2, b2i] at h
      · exact List.le_antisymm (List.not_lt.mp h2) (List.not_lt.mp h1)
  · intro h
    simp [h]

theorem slice_cps (x : PySem.Str) (l u : Option Int) (a b : Nat) (h : Builtin.Str.strSliceIndices l u 1 x.length = sliceRange a b 1) (hb : b ≤ x.length) :
    (Txt.slice x l u).cps.toList = (x.cps.toList.drop a).take (b - a) := by
  unfold Txt.slice
  rw [h, sliceRange_one]
  split
  · rename_i hc
    simp at hc
    have h1 : x.cps.toList.length = b - a := by rw [hc]; rfl
    by_cases h0 : x.length = 0
    · have : x.cps.toList = [] := List.eq_nil_of_length_eq_zero (by rw [Array.length_toList]; exact h0)
      simp [this]
    · have : a = 0 := by lia
      subst this
      simp only [List.drop_zero]
      rw [List.take_of_length_le (by (exact Nat.le_of_eq h1))]
  · rw [pick_run]
theorem slice_drop (x : PySem.Str) (i : Nat) : (Txt.slice x (some (i : Int)) none).cps.toList = x.cps.toList.drop i := by
  have e : Builtin.Str.strSliceIndices (some (i : Int)) none 1 x.length = sliceRange ((min i x.length : Nat) : Int) ((x.length : Nat) : Int) 1 := by
    unfold Builtin.Str.strSliceIndices
    simp only [show (1 : Int) > 0 by decide, if_true, if_neg (show ¬ ((i : Int) < 0) by (exact Int.not_ofNat_neg i))]
    congr 1
    lia
  rw [slice_cps x _ _ _ _ e (Nat.le_refl _)]
  have hl : x.cps.toList.length = x.length := rfl
  by_cases h : i ≤ x.length
  · rw [Nat.min_eq_left h, List.take_of_length_le (by rw [List.length_drop]; (exact Nat.le_refl (x.cps.toList.length - i)))]
  · rw [Nat.min_eq_right (by (exact Nat.le_of_not_ge h)), List.drop_eq_nil_of_le (by (exact Nat.le_refl x.cps.toList.length)), List.drop_eq_nil_of_le (by (exact Nat.le_of_not_ge h))]; simp
theorem slice_run (x : PySem.Str) (i j : Nat) : (Txt.slice x (some (i : Int)) (some (j : Int))).cps.toList = (x.cps.toList.drop i).take (j - i) := by
  have e : Builtin.Str.strSliceIndices (some (i : Int)) (some (j : Int)) 1 x.length = sliceRange ((min i x.length : Nat) : Int) ((min j x.length : Nat) : Int) 1 := by
    unfold Builtin.Str.strSliceIndices
    simp only [show (1 : Int) > 0 by decide, if_true, if_neg (show ¬ ((i : Int) < 0) by lia), if_neg (show ¬ ((j : Int) < 0) by lia)]
    congr 1 <;> lia
  rw [slice_cps x _ _ _ _ e (by (with_reducible exact Nat.min_le_right _ _))]
  have hl : x.cps.toList.length = x.length := rfl
  by_cases h : i ≤ x.length
  · rw [Nat.min_eq_left h]
    by_cases h2 : j ≤ x.length
    · rw [Nat.min_eq_left h2]
    · rw [Nat.min_eq_right (by lia), List.take_of_length_le (by rw [List.length_drop]; lia), List.take_of_length_le (by rw [List.length_drop]; (grind -ring -linarith))]
  · rw [Nat.min_eq_right (show x.length ≤ i by lia), List.drop_eq_nil_of_le (by lia), List.drop_eq_nil_of_le (by lia)]; simp

theorem firstFrom_le (P : Nat → Bool) : ∀ f j, firstFrom P f j ≤ j + f
  | 0, j => Nat.le_refl _
  | f + 1, j => by
    unfold firstFrom
    split
    · have := firstFrom_le P f (j + 1); lia
    · (with_reducible exact Nat.le_add_right _ _)
theorem firstFrom_ge (P : Nat → Bool) : ∀ f j, j ≤ firstFrom P f j
  | 0, j => Nat.le_refl _
  | f + 1, j => by
    unfold firstFrom
    split
    · have := firstFrom_ge P f (j + 1); (with_reducible exact Nat.le_of_succ_le ‹_›)
    · (with_reducible exact Nat.le_refl _)
theorem firstFrom_step {P : Nat → Bool} {n j : Nat} (h : j < n) (hp : P j = true) : firstFrom P (n - (j + 1)) (j + 1) = firstFrom P (n - j) j := by
  have e : n - j = (n - (j + 1)) + 1 := by (grind -ring -linarith)
  rw [e]
  show _ = if P j then _ else _
  rw [if_pos hp]
theorem firstFrom_stop {P : Nat → Bool} {n j : Nat} (hp : P j = false) : firstFrom P (n - j) j = j := by
  cases e : n - j with
  | zero => rfl
  | succ f =>
    show (if P j then _ else _) = _
    rw [hp]; rfl
theorem firstFrom_end {P : Nat → Bool} {n j : Nat} (h : n ≤ j) : firstFrom P (n - j) j = j := by
  rw [Nat.sub_eq_zero_of_le h]; rfl

theorem downFrom_step {P : Nat → Bool} {b : Nat} (h : 0 < b) (hp : P (b - 1) = true) : downFrom P (b - 1) = downFrom P b := by
  cases b with
  | zero => (with_reducible rfl)
  | succ b =>
    show _ = if P b then _ else _
    rw [show b + 1 - 1 = b by (with_reducible exact Nat.add_sub_cancel _ _)] at hp ⊢
    rw [if_pos hp]
theorem downFrom_stop {P : Nat → Bool} {b : Nat} (h : 0 < b) (hp : P (b - 1) = false) : downFrom P b = b := by
  cases b with
  | zero => (ac_rfl)
  | succ b =>
    rw [show b + 1 - 1 = b by lia] at hp
    show (if P b then _ else _) = _
    rw [hp]; rfl

/-- the signs at two places are the same -/
noncomputable def eqAt (t : List Nat) (a b : Nat) : Bool := t[a]? == t[b]?
noncomputable def beginOf (t : List Nat) (i p : Nat) : Nat := downFrom (fun b => eqAt t b (b + p)) i
noncomputable def stopOf (t : List Nat) (i p : Nat) : Nat := firstFrom (fun e => eqAt t e (e - p)) (t.length - (i + p)) (i + p)

theorem scoll_items (x : PySem.Str) (a b : Int) (ha : 0 ≤ a) (hb : 0 ≤ b) (ha' : a < x.length) (hb' : b < x.length) : scoll (Txt.item x a) (Txt.item x b) = 0 ↔ eqAt x.cps.toList a.toNat b.toNat = true := by
  have hl : x.cps.toList.length = x.length := rfl
  rw [scoll_zero, item_at (n := a.toNat) ha ha' rfl, item_at (n := b.toNat) hb hb' rfl]
  unfold eqAt
  have h1 : a.toNat < x.cps.size := by show a.toNat < x.length; lia
  have h2 : b.toNat < x.cps.size := by show b.toNat < x.length; lia
  simp [Array.getD, h1, h2]

/-- a tuple of three ints as it lies on the heap -/
noncomputable def tup3 (a b c : Int) (ta tb tc : Tok) : Obj := { cls := .type "tuple", data := .seq #[.int a ta, .int b tb, .int c tc] }

theorem toNat_up {n f : Int} (h : f < n) : (n - (f + 1)).toNat < (n - f).toNat := by lia
theorem toNat_down {f : Int} (h : 0 < f) : (f - 1).toNat < f.toNat := by lia
theorem room_le {dp a b N : Nat} (h : dp + a < N) (hb : 1 + b ≤ a) : dp + 1 + b < N := Nat.lt_of_le_of_lt (by rw [Nat.add_assoc]; exact Nat.add_le_add_left hb dp) h
theorem units_le {un a b N : Nat} (h : un + 8 * a + 500 < N) (hb : 3 + 8 * b ≤ 8 * a) : un + 3 + 8 * b + 500 < N := Nat.lt_of_le_of_lt (Nat.add_le_add_right (by rw [Nat.add_assoc]; exact Nat.add_le_add_left hb un) 500) h

/-- Where the walk is to stop: no line serves this word. -/
def Stop (P : Prop) : Prop := P
theorem stop_here {P : Prop} (h : Stop P) : P := h
theorem stop_out {P : Prop} (h : P) : Stop P := h
/-- Marks in the context: at which keys it stops. -/
structure StopFor : Prop where
  mark :: (one : True)
structure StopIter : Prop where
  mark :: (one : True)
structure StopCall : Prop where
  mark :: (one : True)
structure StopComp : Prop where
  mark :: (one : True)
theorem stop_post {α : Type} {M : Model} {A : Around} {t : Sem α} {Q : α → Shared → Prop} {E : Value → Shared → Prop} {s : Shared} (h : wpAny M A t (fun a s' => Stop (Q a s')) E s) : wpAny M A t Q E s := wpAny_mono h (fun _ _ q => q) fun _ _ q => q

end Mine
end

section
open PySem PySem.W PySem.Calls PySem.Spec PyProof PyProof.Rows
namespace Mine
open Builtin Builtin.Str StrLaws

noncomputable abbrev dots : PySem.Str := PySem.Str.ofString "..."
theorem dots_list : dots.cps.toList = [46, 46, 46] := by decide +kernel
theorem dots_len : dots.length = 3 := by decide +kernel

theorem cps_app (a b : PySem.Str) : (a ++ b).cps.toList = a.cps.toList ++ b.cps.toList := by
  rw [Str.cps_append, Array.toList_append]
theorem str_ext {a b : PySem.Str} (h : a.cps.toList = b.cps.toList) : a = b := Str.ext' (Array.toList_inj.mp h)

theorem at_iff (x : PySem.Str) (k : Nat) : At x dots x.length k ↔ k + 3 ≤ x.length ∧ (x.cps.toList.drop k).take 3 = [46, 46, 46] := by
  unfold At
  rw [subAt_eq, dots_len, dots_list, beq_iff_eq]

theorem getElem_of_take {t : List Nat} {k : Nat} (h : (t.drop k).take 3 = [46, 46, 46]) (j : Nat) (hj : j < 3) : t[k + j]? = some 46 := by
  have h1 : ((t.drop k).take 3)[j]? = some 46 := by
    rw [h]
    cases j with
    | zero => rfl
    | succ j =>
      cases j with
      | zero => rfl
      | succ j =>
        cases j with
        | zero => rfl
        | succ j => exact absurd (Nat.lt_of_succ_lt_succ (Nat.lt_of_succ_lt_succ (Nat.lt_of_succ_lt_succ hj))) (Nat.not_lt_zero _)
  rw [List.getElem?_take_of_lt hj, List.getElem?_drop] at h1
  exact h1

theorem strKind_ge (x : PySem.Str) : 1 ≤ Builtin.Str.strKind x := by
  unfold Builtin.Str.strKind
  split
  · (with_reducible exact Nat.le_refl _)
  · split <;> (with_reducible exact Nat.le_add_left _ _)
theorem strKind_dots : Builtin.Str.strKind dots = 1 := by decide +kernel

theorem split_of_occ {x : PySem.Str} (hl : 3 ≤ x.length) (hne : (occurrences x dots 0 x.length (x.length + 1)).isEmpty = false) : Txt.split x dots = partsFrom x 3 0 (occurrences x dots 0 x.length (x.length + 1)) := by
  unfold Txt.split
  have h1 := strKind_ge x
  rw [if_neg (by rw [dots_len, strKind_dots]; simp; lia), hne, if_neg (by simp), partsBetween_eq, dots_len]

theorem one_at {u : PySem.Str} (hu : ∀ c ∈ u.cps.toList, c ≠ 46) (k : Nat) : At (u ++ dots) dots (u ++ dots).length k ↔ k = u.length := by
  have hlen : (u ++ dots).length = u.length + 3 := by rw [Str.length_append, dots_len]
  have hl : u.cps.toList.length = u.length := rfl
  have hs' : u.cps.size = u.length := rfl
  rw [at_iff, hlen, cps_app, dots_list]
  constructor
  · rintro ⟨h1, h2⟩
    have h3 := getElem_of_take h2 0 (by (with_reducible exact Nat.succ_pos _))
    by_cases hk : k < u.length
    · rw [Nat.add_zero, List.getElem?_append_left (by (exact Nat.lt_of_succ_le hk))] at h3
      exact absurd rfl (hu 46 (List.mem_of_getElem? h3))
    · lia
  · rintro rfl
    refine ⟨by (with_reducible exact Nat.le_refl _), ?_⟩
    rw [← hl, List.drop_left]
    rfl
theorem occ_one {u : PySem.Str} (hu : ∀ c ∈ u.cps.toList, c ≠ 46) : occurrences (u ++ dots) dots 0 (u ++ dots).length ((u ++ dots).length + 1) = [u.length] := by
  obtain ⟨f, hc, hn⟩ := occ_tight (u ++ dots) dots (by rw [dots_len]; (with_reducible exact Nat.le_add_left _ _))
  generalize occurrences (u ++ dots) dots 0 (u ++ dots).length ((u ++ dots).length + 1) = l at hc
  match l, hc with
  | [], hc =>
    have e : f = 0 := hc
    exact absurd ((one_at hu _).mpr rfl) (hn _ (by ((subst_vars; lia))))
  | c :: r, hc =>
    obtain ⟨_, hA, _, hr⟩ := hc
    have e := (one_at hu c).mp hA
    subst e
    match r, hr with
    | [], _ => rfl
    | c2 :: r2, hr =>
      obtain ⟨h1, hA2, _⟩ := hr
      have e2 := (one_at hu c2).mp hA2
      rw [dots_len] at h1
      ((subst_vars; lia))
theorem split_one {u : PySem.Str} (hu : ∀ c ∈ u.cps.toList, c ≠ 46) : Txt.split (u ++ dots) dots = [u, ⟨#[]⟩] := by
  have hlen : (u ++ dots).length = u.length + 3 := by rw [Str.length_append, dots_len]
  have hl : u.cps.toList.length = u.length := rfl
  have hs' : u.cps.size = u.length := rfl
  rw [split_of_occ (by lia) (by rw [occ_one hu]; rfl), occ_one hu]
  show [strSub (u ++ dots) 0 u.length, strSub (u ++ dots) (u.length + 3) (u ++ dots).length] = _
  congr 1
  · apply str_ext
    rw [strSub_toList, cps_app, List.drop_zero, Nat.sub_zero, ← hl, List.take_left]
  · congr 1
    apply str_ext
    rw [strSub_toList, hlen, Nat.sub_self]
    rfl
theorem found_one' {u : PySem.Str} (hu : ∀ c ∈ u.cps.toList, c ≠ 46) : (occurrences (u ++ dots) dots 0 (u ++ dots).length 1).isEmpty = false := by
  have h := (found_iff (u ++ dots) dots).mpr ⟨u.length, (one_at hu _).mpr rfl⟩
  simpa using h

theorem two_at {u : PySem.Str} (hu : ∀ c ∈ u.cps.toList, c ≠ 46) (h1 : 1 ≤ u.length) (k : Nat) : At (dots ++ u ++ dots) dots (dots ++ u ++ dots).length k ↔ k = 0 ∨ k = u.length + 3 := by
  have hlen : (dots ++ u ++ dots).length = u.length + 6 := by rw [Str.length_append, Str.length_append, dots_len]; (simp +arith only)
  have hl : u.cps.toList.length = u.length := rfl
  have hs' : u.cps.size = u.length := rfl
  rw [at_iff, hlen, cps_app, cps_app, dots_list]
  have key : ∀ j, 3 ≤ j → j < u.length + 3 → ([46, 46, 46] ++ u.cps.toList ++ [46, 46, 46])[j]? ≠ some 46 := by
    intro j h3 h4 h5
    rw [List.getElem?_append_left (by simp; (exact Nat.lt_of_succ_le h4)), List.getElem?_append_right (by simp; (omega))] at h5
    exact hu 46 (List.mem_of_getElem? h5) rfl
  constructor
  · rintro ⟨h2, h3⟩
    by_cases hk : k = 0
    · exact .inl hk
    · right
      by_cases hk2 : k < u.length + 3
      · exfalso
        by_cases hk3 : 3 ≤ k
        · exact key k hk3 hk2 (getElem_of_take h3 0 (by lia))
        · have h4 := getElem_of_take h3 (3 - k) (by (grind -ring -linarith only))
          rw [show k + (3 - k) = 3 by lia] at h4
          exact key 3 (by (with_reducible exact Nat.le_refl _)) (by (exact Nat.lt_add_of_pos_left h1)) h4
      · lia
  · rintro (rfl | rfl)
    · exact ⟨by (with_reducible exact Nat.le_add_left _ _), rfl⟩
    · refine ⟨by (with_reducible exact Nat.le_refl _), ?_⟩
      have e : u.length + 3 = ([46, 46, 46] ++ u.cps.toList).length := by simp; (ac_rfl)
      rw [e, List.drop_left]
      rfl
theorem occ_two {u : PySem.Str} (hu : ∀ c ∈ u.cps.toList, c ≠ 46) (h1 : 1 ≤ u.length) : occurrences (dots ++ u ++ dots) dots 0 (dots ++ u ++ dots).length ((dots ++ u ++ dots).length + 1) = [0, u.length + 3] := by
  obtain ⟨f, hc, hn⟩ := occ_tight (dots ++ u ++ dots) dots (by rw [dots_len]; lia)
  generalize occurrences (dots ++ u ++ dots) dots 0 (dots ++ u ++ dots).length ((dots ++ u ++ dots).length + 1) = l at hc
  match l, hc with
  | [], hc =>
    have e : f = 0 := hc
    exact absurd ((two_at hu h1 _).mpr (.inl rfl)) (hn _ (by lia))
  | c :: r, hc =>
    obtain ⟨_, hA, hno, hr⟩ := hc
    have e : c = 0 := by
      by_cases h0 : c = 0
      · exact h0
      · exact absurd ((two_at hu h1 0).mpr (.inl rfl)) (hno 0 (by (with_reducible exact Nat.zero_le _)) (by (with_reducible exact Nat.pos_of_ne_zero ‹_›)))
    subst e
    rw [dots_len] at hr
    match r, hr with
    | [], hr =>
      have e : f = 0 + 3 := hr
      exact absurd ((two_at hu h1 _).mpr (.inr rfl)) (hn _ (by ((subst_vars; lia))))
    | c2 :: r2, hr =>
      obtain ⟨h3, hA2, _, hr2⟩ := hr
      rcases (two_at hu h1 c2).mp hA2 with e2 | e2
      · lia
      · subst e2
        rw [dots_len] at hr2
        match r2, hr2 with
        | [], _ => rfl
        | c3 :: r3, hr3 =>
          obtain ⟨h4, hA3, _⟩ := hr3
          rcases (two_at hu h1 c3).mp hA3 with e3 | e3 <;> ((subst_vars; lia))
theorem split_two' {u : PySem.Str} (hu : ∀ c ∈ u.cps.toList, c ≠ 46) (h1 : 1 ≤ u.length) : Txt.split (dots ++ u ++ dots) dots = [⟨#[]⟩, u, ⟨#[]⟩] := by
  have hlen : (dots ++ u ++ dots).length = u.length + 6 := by rw [Str.length_append, Str.length_append, dots_len]; lia
  have hl : u.cps.toList.length = u.length := rfl
  have hs' : u.cps.size = u.length := rfl
  rw [split_of_occ (by lia) (by rw [occ_two hu h1]; rfl), occ_two hu h1]
  show [strSub (dots ++ u ++ dots) 0 0, strSub (dots ++ u ++ dots) (0 + 3) (u.length + 3), strSub (dots ++ u ++ dots) (u.length + 3 + 3) (dots ++ u ++ dots).length] = _
  congr 1
  · apply str_ext
    rw [strSub_toList]
    simp
  congr 1
  · apply str_ext
    rw [strSub_toList, cps_app, cps_app, dots_list, List.append_assoc, show (0 : Nat) + 3 = ([46, 46, 46] : List Nat).length from rfl, List.drop_left]
    show List.take (u.length + 3 - 3) _ = _
    rw [show u.length + 3 - 3 = u.cps.toList.length by (exact Eq.symm (Nat.eq_sub_of_add_eq rfl)), List.take_left]
  · congr 1
    apply str_ext
    rw [strSub_toList, hlen, show u.length + 6 - (u.length + 3 + 3) = 0 by (with_reducible exact Nat.sub_self _)]
    rfl
theorem found_two' {u : PySem.Str} (hu : ∀ c ∈ u.cps.toList, c ≠ 46) (h1 : 1 ≤ u.length) : (occurrences (dots ++ u ++ dots) dots 0 (dots ++ u ++ dots).length 1).isEmpty = false := by
  have h := (found_iff (dots ++ u ++ dots) dots).mpr ⟨0, (two_at hu h1 _).mpr (.inl rfl)⟩
  simpa using h

theorem word_list (x : PySem.Str) (i q : Int) (hi : 0 ≤ i) (hq : 0 ≤ q) : (Txt.slice x (some i) (some (i + q))).cps.toList = (x.cps.toList.drop i.toNat).take q.toNat := by
  obtain ⟨a, rfl⟩ := Int.eq_ofNat_of_zero_le hi
  obtain ⟨b, rfl⟩ := Int.eq_ofNat_of_zero_le hq
  rw [show ((a : Int) + (b : Int)) = ((a + b : Nat) : Int) by (exact Int.ofNat_add_ofNat a b), slice_run]
  simp
theorem word_len (x : PySem.Str) (i q : Int) (hi : 0 ≤ i) (hq : 0 ≤ q) (h : i + q ≤ x.length) : ((Txt.slice x (some i) (some (i + q))).length : Int) = q := by
  have h1 : (Txt.slice x (some i) (some (i + q))).length = (Txt.slice x (some i) (some (i + q))).cps.toList.length := rfl
  have h2 : x.cps.toList.length = x.length := rfl
  rw [h1, word_list x i q hi hq, List.length_take, List.length_drop, h2]
  (omega)
theorem word_free (x : PySem.Str) (i q : Int) (hi : 0 ≤ i) (hq : 0 ≤ q) (h : ∀ c ∈ x.cps.toList, c ≠ 46) : ∀ c ∈ (Txt.slice x (some i) (some (i + q))).cps.toList, c ≠ 46 := by
  intro c hc
  rw [word_list x i q hi hq] at hc
  exact h c (List.mem_of_mem_drop (List.mem_of_mem_take hc))
theorem app_free {a b : PySem.Str} (ha : ∀ c ∈ a.cps.toList, c ≠ 46) (hb : ∀ c ∈ b.cps.toList, c ≠ 46) : ∀ c ∈ (a ++ b).cps.toList, c ≠ 46 := by
  intro c hc
  rw [cps_app] at hc
  exact (List.mem_append.mp hc).elim (ha c) (hb c)

theorem rangeKs_get (a : Int) {n i : Nat} (h : i < n) : (rangeKs a n)[i]? = some (a + (i : Int)) := by simp [rangeKs, h]

end Mine
end

section
open PySem PySem.W PySem.Calls PySem.Spec PyProof PyProof.Rows PyProof.Rows.LCg
namespace Mine

def EnPost (h₀ : Heap) (L : Addr) (m : Str → Option Value) (s : Shared) (led : List (Addr × Obj)) (b : Bool) (ok : Bool) (s' : Shared) : Prop :=
  ok = b ∧ ∃ h' tk', s' = { s with heap := h', toks := tk' } ∧ Fr h₀ L h' m ∧ News h₀ L h' led
/-- A turn of «[a for a, b in enumerate(xs) if c]»: the test's worth is `g i`, and nothing stays. -/
def EnTurn (prog : Program) (w : World) (A : Around) (h₀ : Heap) (L : Addr) (m : Str → Option Value) (env : Env) (c : Expr) (a b : Str) (scope : Scope) (cl : List (Str × Addr)) (its : Array Value) (g : Nat → Bool) (news : List (Addr × Obj)) (s : Shared) : Prop :=
  ∀ (i : Nat) (v : Value) (t : Tok) (C : Addr) (oC : Obj) (m₂ : Str → Option Value) (h : Heap) (tk : Nat) (extra : List (Addr × Obj)) (E' : Value → Shared → Prop), i < its.size → its[i]? = some v → NsObj oC m₂ → m₂ a = some (.int (i : Int) t) → m₂ b = some v → Fr h₀ L h m → News h₀ L h ((C, oC) :: (news ++ extra)) →
    wpAny (model prog w) A (isTrue c (compEnvC scope cl C env) (eval c (compEnvC scope cl C env))) (EnPost h₀ L m s ((C, oC) :: (news ++ extra)) (g i)) E' { s with heap := h, toks := tk }

section
variable {prog : Program} {w : World} {A : Around} {E : Value → Shared → Prop} {s : Shared} {h₀ : Heap} {L : Addr} {m : Str → Option Value} {env : Env}

theorem en_block {iter c : Expr} {a b : Str} {pe pa pb tp : Pos} {kk : Nat} {scope : Scope} {cl : List (Str × Addr)} {pos : Pos} {s₂ : Shared} {e it l : Addr} {its : Array Value} {k : Nat} {g : Nat → Bool} {news : List (Addr × Obj)} {RR : Value → Addr → Result → Shared → Prop}
    (hh : A.handled = none) (hei : e ≠ it) (hle : l ≠ e) (hli : l ≠ it) (hsz : its.size ≤ sizeLine)
    (he : IsEnum s₂.heap e it 0 .none) (hit : s₂.heap.IsListIter it l 0)
    (hcell : ∀ y ∈ scope.names, y.2 ≠ .cell) (hkind : scope.kind = .function) (hxa : scope.names.lookup a = some .local) (hxb : scope.names.lookup b = some .local) (hab : ¬ a = b) (hdb : (a == ("__debug__" : Str)) = false)
    (F : Fr h₀ L s₂.heap m) (N : News h₀ L s₂.heap news) (hm : (l, ({ cls := .type "list", data := .seq its k } : Obj)) ∈ news) (hL : L ≠ e ∧ L ≠ it) (h0 : h₀.get? e = none ∧ h₀.get? it = none) (off : ∀ p ∈ news, p.1 ≠ e ∧ p.1 ≠ it)
    (turn : EnTurn prog w A h₀ L m env c a b scope cl its g news s₂)
    (hRR : ∀ D C h tk m' ys, Fr h₀ L h m → News h₀ L h ((D, lst ys) :: news) → (∀ p ∈ news, p.1 < D) → h.Ns C m' → h₀.get? C = none → h₀.get? D = none → C ≠ L → D ≠ L → C ≠ D → (∀ p ∈ news, p.1 ≠ C) → IntsAre ys (((List.range its.size).filter g).map fun (j : Nat) => (j : Int)) → RR (.ref D) C (.ok .next) { s₂ with heap := h, toks := tk }) :
    wpAny (model prog w) A (newList []) (fun acc s₃ => wpAny (model prog w) A (newFunctionEnv scope env.globals cl [] env.qual none .none (some env)) (fun cenv s₄ =>
      codeAny (model prog w) A (.compStart (.ListComp (.Name a pe) [⟨.Tuple [.Name a pa, .Name b pb] kk tp, iter, [c], 0⟩] scope pos) 0 (.ref e) acc { cenv with scope := relabel scope env }) (RR acc cenv.locals) s₄) E s₃) E s₂ := by
  refine wpAny_newObj_type (wpAny_newFunctionEnv hcell (by intro y hy; simp at hy) (fun h₁ hns₁ hsb₁ => ?_) hkind)
  dsimp only at hns₁ hsb₁ ⊢
  generalize hH2 : s₂.heap.push { cls := .type "list", dict := none, data := .seq ([] : List Value).toArray } = H2 at hns₁ hsb₁ ⊢
  have hC : H2.objs.size = s₂.heap.objs.size + 1 := by rw [← hH2, Heap.size_push]
  have hDC : s₂.heap.objs.size ≠ H2.objs.size := by rw [hC]; exact Nat.ne_of_lt (Nat.lt_succ_self _)
  have below : ∀ x, x < s₂.heap.objs.size → x ≠ H2.objs.size ∧ x ≠ s₂.heap.objs.size := fun x hx => ⟨by rw [hC]; exact Nat.ne_of_lt (Nat.lt_succ_of_lt hx), Nat.ne_of_lt hx⟩
  have helt : e < s₂.heap.objs.size := Heap.lt_size he
  have hitlt : it < s₂.heap.objs.size := by obtain ⟨_, q, _⟩ := hit; exact Heap.lt_size q
  have old : ∀ x o, s₂.heap.get? x = some o → h₁.get? x = some o := fun x o q => hsb₁.extBut x o (below x (Heap.lt_size q)).1 (Heap.get?_push_of_some _ (hH2 ▸ Heap.get?_push_of_some _ q))
  have hacc : h₁.get? s₂.heap.objs.size = some (lst []) := hsb₁.extBut _ _ hDC (Heap.get?_push_of_some _ (hH2 ▸ Heap.get?_push_size _ rfl))
  have fresh₀ : ∀ x, s₂.heap.objs.size ≤ x → h₀.get? x = none := fun x hx => by
    cases q : h₀.get? x with
    | none => rfl
    | some o' => exact absurd (Heap.lt_size (F.keep x o' q)) (Nat.not_lt.mpr hx)
  have hD₀ : h₀.get? s₂.heap.objs.size = none := fresh₀ _ (Nat.le_refl _)
  have hC₀ : h₀.get? H2.objs.size = none := fresh₀ _ (by rw [hC]; exact Nat.le_succ _)
  have hLlt : L < s₂.heap.objs.size := F.ns.lt
  have hDL : s₂.heap.objs.size ≠ L := Ne.symm (below L hLlt).2
  have hCL : H2.objs.size ≠ L := Ne.symm (below L hLlt).1
  have hCe : e ≠ H2.objs.size := (below e helt).1
  have hDe : e ≠ s₂.heap.objs.size := (below e helt).2
  have hCi : it ≠ H2.objs.size := (below it hitlt).1
  have hDi : it ≠ s₂.heap.objs.size := (below it hitlt).2
  have offN : ∀ p ∈ news, p.1 ≠ H2.objs.size ∧ p.1 ≠ s₂.heap.objs.size := fun p hp => below _ (Heap.lt_size (N p hp).1)
  have W := WalksT.enumerate (prog := prog) (w := w) hh e it l hei hle hli its
  have loop : ∀ s₃ : Shared, s₃ = { s₂ with heap := h₁, toks := s₂.toks + ([] : List (Str × Value)).length } →
      codeAny (model prog w) A (.compLoop (.ListComp (.Name a pe) [⟨.Tuple [.Name a pa, .Name b pb] kk tp, iter, [c], 0⟩] scope pos) 0 (.ref e) (.ref s₂.heap.objs.size) (compEnvC scope cl H2.objs.size env))
        (RR (.ref s₂.heap.objs.size) H2.objs.size) s₃ := by
    rintro s₃ rfl
    refine kct_loop
      (fun n s' => ∃ h' tk i ys m', s' = { s₂ with heap := h', toks := tk } ∧ i ≤ its.size ∧ n = its.size + 1 - i ∧ ys.length ≤ i ∧ (∃ ov, IsEnum h' e it i ov) ∧ h'.IsListIter it l i ∧ Fr h₀ L h' m ∧ h'.Ns H2.objs.size m' ∧
        News h₀ L h' ((s₂.heap.objs.size, lst ys) :: news) ∧ IntsAre ys (((List.range i).filter g).map fun (j : Nat) => (j : Int))) ?_ (its.size + 1)
      ⟨h₁, _, 0, [], _, rfl, Nat.zero_le _, rfl, Nat.le_refl _, ⟨_, old _ _ he⟩, hit.at fun o q => old _ o q, F.keeps old, hns₁, fun p hp => ?_, .nil⟩
    · rintro n s' ⟨h', tk, i, ys, m', rfl, hi, rfl, hyl, ⟨ov, he'⟩, hit', F', hn', N', hys⟩
      have hl' : h'.IsList l its := ⟨_, (N' _ (List.mem_cons_of_mem _ hm)).1, rfl, k, rfl⟩
      by_cases hlt : i < its.size
      · refine W.item i _ _ _ hlt ⟨⟨ov, he'⟩, hit', hl'⟩ fun T vals h₂ tk₂ hP hTs hT hMid hk₂ => ?_
        obtain ⟨t, x, hx, rfl⟩ := hP
        refine W.go _ _ _ i T _ _ _ hMid fun h₃ hst₃ hk₃ => ?_
        have hTw := W.apart i T h₂ hMid
        have up₃ : ∀ c o, c ≠ e → c ≠ it → h'.get? c = some o → h₃.get? c = some o := fun c o h1 h2 q => hk₃ c o (by simp [h1, h2]) (hk₂ c o (by simp [h1, h2]) q)
        have hT₃ : h₃.IsTuple T #[.int (i : Int) t, x] := by
          obtain ⟨o, q, r⟩ := hT
          exact ⟨o, hk₃ _ _ hTw q, r⟩
        refine kcp_assign (env := compEnvC scope cl H2.objs.size env) hh hT₃ (lookup_relabel_local hxa) (lookup_relabel_local hxb) (by simp [compEnvC, relabel, hkind]) (hn'.at' fun o q => up₃ _ o (Ne.symm hCe) (Ne.symm hCi) q) fun h₄ tk₄ hn₄ hs₄ => ?_
        obtain ⟨⟨ov₃, he₃⟩, hit₃, hl₃⟩ := hst₃
        have up : ∀ c o, c ≠ e → c ≠ it → c ≠ H2.objs.size → h'.get? c = some o → h₄.get? c = some o := fun c o h1 h2 h3 q => hs₄ c o h3 (up₃ c o h1 h2 q)
        have he₄ : IsEnum h₄ e it (i + 1) ov₃ := hs₄ e _ hCe he₃
        have hit₄ : h₄.IsListIter it l (i + 1) := hit₃.at fun o q => hs₄ it o hCi q
        obtain ⟨oe, hoe, hoE⟩ : ∃ oe : Obj, h₄.get? e = some oe ∧ ∀ h : Heap, h.get? e = some oe → ∃ ov, IsEnum h e it (i + 1) ov := ⟨_, he₄, fun _ q => ⟨_, q⟩⟩
        obtain ⟨oi, hoi, hoI⟩ : ∃ oi : Obj, h₄.get? it = some oi ∧ ∀ h : Heap, h.get? it = some oi → h.IsListIter it l (i + 1) := by
          obtain ⟨o, q, r⟩ := hit₄
          exact ⟨o, q, fun _ q' => ⟨o, q', r⟩⟩
        obtain ⟨oC, heC, hoC⟩ := ns_obj hn₄
        have F₄ : Fr h₀ L h₄ m := ⟨F'.ns.at' fun o q => up _ o hL.1 hL.2 (Ne.symm hCL) q, fun c o q => up c o (fun z => by rw [z, h0.1] at q; cases q) (fun z => by rw [z, h0.2] at q; cases q) (fun z => by rw [z, hC₀] at q; cases q) (F'.keep c o q), F'.above⟩
        have N₄ : News h₀ L h₄ ((H2.objs.size, oC) :: (news ++ [(e, oe), (it, oi), (s₂.heap.objs.size, lst ys)])) := fun q hq => by
          rcases List.mem_cons.mp hq with rfl | hq
          · exact ⟨heC, hCL, hC₀⟩
          rcases List.mem_append.mp hq with hq | hq
          · have z := N' q (List.mem_cons_of_mem _ hq)
            exact ⟨up _ _ (off q hq).1 (off q hq).2 (offN q hq).1 z.1, z.2⟩
          rcases List.mem_cons.mp hq with rfl | hq
          · exact ⟨hoe, Ne.symm hL.1, h0.1⟩
          rcases List.mem_cons.mp hq with rfl | hq
          · exact ⟨hoi, Ne.symm hL.2, h0.2⟩
          · rw [List.mem_singleton.mp hq]
            have z := N' _ (List.mem_cons_self (a := (s₂.heap.objs.size, lst ys)) (l := news))
            exact ⟨up _ _ (Ne.symm hDe) (Ne.symm hDi) hDC z.1, z.2⟩
        have hxa' : (fun z => if z = b then some x else if z = a then some (Value.int (i : Int) t) else m' z) a = some (.int (i : Int) t) := by simp [hab]
        refine wpAny_mono (turn i x t H2.objs.size oC _ h₄ _ _ _ hlt hx hoC hxa' (by simp) F₄ N₄) (fun okb s₅ h₅ => ?_) fun _ _ z => z
        obtain ⟨hok, h₅, tk₅, rfl, F₅, N₅⟩ := h₅
        have ze := (N₅ (e, oe) (List.mem_cons_of_mem _ (List.mem_append_right _ List.mem_cons_self))).1
        have zi := (N₅ (it, oi) (List.mem_cons_of_mem _ (List.mem_append_right _ (List.mem_cons_of_mem _ List.mem_cons_self)))).1
        have zD := (N₅ (s₂.heap.objs.size, lst ys) (List.mem_cons_of_mem _ (List.mem_append_right _ (List.mem_cons_of_mem _ (List.mem_cons_of_mem _ List.mem_cons_self))))).1
        have zC := (N₅ (H2.objs.size, oC) List.mem_cons_self).1
        have N₅' : News h₀ L h₅ news := fun q hq => N₅ q (List.mem_cons_of_mem _ (List.mem_append_left _ hq))
        have hr : ((List.range (i + 1)).filter g).map (fun (j : Nat) => (j : Int)) = ((List.range i).filter g).map (fun (j : Nat) => (j : Int)) ++ (if g i = true then [(i : Int)] else []) := by
          rw [List.range_succ, List.filter_append, List.map_append]
          congr 1
          cases hg : g i <;> simp [hg]
        cases okb with
        | false =>
          simp only [Bool.false_eq_true, if_false]
          rw [← hok] at hr
          simp only [Bool.false_eq_true, if_false, List.append_nil] at hr
          refine ⟨its.size + 1 - (i + 1), by omega, h₅, tk₅, i + 1, ys, _, rfl, hlt, rfl, Nat.le_succ_of_le hyl, hoE h₅ ze, hoI h₅ zi, F₅, hoC.ns zC, fun q hq => ?_, by rw [hr]; exact hys⟩
          rcases List.mem_cons.mp hq with rfl | hq
          · exact ⟨zD, hDL, hD₀⟩
          · exact N₅' q hq
        | true =>
          simp only [if_true]
          rw [← hok] at hr
          simp only [if_true] at hr
          refine wpAny_Name (wpAny_loadName_local (by simp [compEnvC, relabel, hkind]) (lookup_relabel_local hxa) (hoC.ns zC) hxa' ?_) hdb
          refine append_at (hsz := by show ys.toArray.size ≤ sizeLine; rw [List.size_toArray]; exact Nat.le_trans hyl (Nat.le_trans hi hsz)) zD fun h₆ hs₆ hD₆ => ?_
          refine ⟨its.size + 1 - (i + 1), by omega, h₆, _, i + 1, ys ++ [.int (i : Int) t], _, rfl, hlt, rfl, by rw [List.length_append, List.length_singleton]; exact Nat.succ_le_succ hyl, hoE h₆ (hs₆.extBut _ _ hDe ze), hoI h₆ (hs₆.extBut _ _ hDi zi), F₅.change hs₆ hDL hD₀,
            (hoC.ns zC).sameBut hs₆ (Ne.symm hDC), fun q hq => ?_, by rw [hr]; exact hys.append (.cons _ t .nil)⟩
          rcases List.mem_cons.mp hq with rfl | hq
          · exact ⟨hD₆.trans (congrArg some (lst_snoc ys _)), hDL, hD₀⟩
          · exact ⟨hs₆.extBut _ _ (offN q hq).2 (N₅' q hq).1, (N₅' q hq).2⟩
      · have hin : i = its.size := Nat.le_antisymm hi (Nat.not_lt.mp hlt)
        subst hin
        refine W.done _ _ _ ⟨⟨ov, he'⟩, hit', hl'⟩ fun h₂ tk₂ hk₂ => ?_
        have up₂ : ∀ c o, c ≠ e → c ≠ it → h'.get? c = some o → h₂.get? c = some o := fun c o h1 h2 q => hk₂ c o (by simp [h1, h2]) q
        refine hRR _ _ h₂ tk₂ _ ys ⟨F'.ns.at' fun o q => up₂ _ o hL.1 hL.2 q, fun c o q => up₂ c o (fun z => by rw [z, h0.1] at q; cases q) (fun z => by rw [z, h0.2] at q; cases q) (F'.keep c o q), F'.above⟩ (fun q hq => ?_)
          (fun p hp => Heap.lt_size (N p hp).1) (hn'.at' fun o q => up₂ _ o (Ne.symm hCe) (Ne.symm hCi) q) hC₀ hD₀ hCL hDL (Ne.symm hDC) (fun p hp => (offN p hp).1) hys
        have z := N' q hq
        rcases List.mem_cons.mp hq with rfl | hq
        · exact ⟨up₂ _ _ (Ne.symm hDe) (Ne.symm hDi) z.1, z.2⟩
        · exact ⟨up₂ _ _ (off q hq).1 (off q hq).2 z.1, z.2⟩
    · rcases List.mem_cons.mp hp with rfl | hp
      · exact ⟨hacc, hDL, hD₀⟩
      · exact ⟨old _ _ (N p hp).1, (N p hp).2⟩
  exact codeAny_compStart_list (loop _ rfl) (wpAny_pyIter_enum (old _ _ he) (loop _ rfl))

/-- what lies when «enumerate(xs)» is made, and the turns -/
def EnSrc (prog : Program) (w : World) (A : Around) (h₀ : Heap) (L : Addr) (m : Str → Option Value) (env : Env) (c : Expr) (a b : Str) (scope : Scope) (cl : List (Str × Addr)) (Q : Value → Shared → Prop) (xv : Value) (s₁ : Shared) : Prop :=
  ∃ (e it l : Addr) (its : Array Value) (k : Nat) (g : Nat → Bool) (news : List (Addr × Obj)), xv = .ref e ∧ A.handled = none ∧ e ≠ it ∧ l ≠ e ∧ l ≠ it ∧ its.size ≤ sizeLine ∧ IsEnum s₁.heap e it 0 .none ∧ s₁.heap.IsListIter it l 0 ∧ Fr h₀ L s₁.heap m ∧ News h₀ L s₁.heap news ∧
    (l, ({ cls := .type "list", data := .seq its k } : Obj)) ∈ news ∧ (L ≠ e ∧ L ≠ it) ∧ (h₀.get? e = none ∧ h₀.get? it = none) ∧ (∀ p ∈ news, p.1 ≠ e ∧ p.1 ≠ it) ∧ EnTurn prog w A h₀ L m env c a b scope cl its g news s₁ ∧
    ∀ D ys h' tk, Fr h₀ L h' m → News h₀ L h' ((D, lst ys) :: news) → (∀ p ∈ news, p.1 < D) → IntsAre ys (((List.range its.size).filter g).map fun (j : Nat) => (j : Int)) → Q (.ref D) { s₁ with heap := h', toks := tk }

theorem ListComp_En {iter c : Expr} {a b : Str} {pe pa pb tp : Pos} {kk : Nat} {scope : Scope} {cl : List (Str × Addr)} {pos : Pos} {Q : Value → Shared → Prop} (_F₀ : Fr h₀ L s.heap m)
    (hclos : closureFor scope env = pure cl) (hcell : ∀ y ∈ scope.names, y.2 ≠ .cell) (hkind : scope.kind = .function)
    (hnames : ∀ y ∈ scope.names, y.2 = .local → scope.names.lookup y.1 = some .local) (hxa : scope.names.lookup a = some .local) (hxb : scope.names.lookup b = some .local) (hab : ¬ a = b) (hdb : (a == ("__debug__" : Str)) = false)
    (h : wpAny (model prog w) A (eval iter env) (EnSrc prog w A h₀ L m env c a b scope cl Q) E s)
    (hs : ∀ x, foldedSetIterable iter env x = pure x) :
    wpAny (model prog w) A (eval (.ListComp (.Name a pe) [⟨.Tuple [.Name a pa, .Name b pb] kk tp, iter, [c], 0⟩] scope pos) env) Q E s := by
  rw [eval_ListComp]
  refine wpAny_comprehension_free (use := none) rfl hs hclos hkind hnames (wpAny_mono h (fun xv s₁ h₁ => ?_) fun _ _ e => e)
  obtain ⟨e, it, l, its, k, g, news, rfl, hh, hei, hle, hli, hsz, he, hit, F, N, hm, hL, h0, off, turn, fin⟩ := h₁
  refine wpAny_pyIter_enum he ?_
  refine en_block hh hei hle hli hsz he hit hcell hkind hxa hxb hab hdb F N hm hL h0 off turn ?_
  intro D C h tk m' ys F' N' lt hn hC₀ hD₀ hCL hDL hCD offC hys
  refine ⟨m', hn, fun h'' hs'' => fin D ys h'' tk (F'.change hs'' hCL hC₀) (fun p hp => ?_) lt hys⟩
  refine ⟨hs''.extBut _ _ ?_ (N' p hp).1, (N' p hp).2⟩
  rcases List.mem_cons.mp hp with rfl | hp
  · exact Ne.symm hCD
  · exact offC p hp
end

section
variable {prog : Program} {w : World} {A : Around} {E : Value → Shared → Prop} {s : Shared} {h₀ : Heap} {L : Addr} {m : Str → Option Value} {env : Env}
theorem en_make {c : Expr} {a b : Str} {scope : Scope} {cl : List (Str × Addr)} {Q : Value → Shared → Prop} {l : Addr} {vs : List Value} {k : Nat} {news : List (Addr × Obj)} (g : Nat → Bool)
    (hh : A.handled = none) (F : Fr h₀ L s.heap m) (N : News h₀ L s.heap news) (hm : (l, ({ cls := .type "list", data := .seq vs.toArray k } : Obj)) ∈ news) (hsz : vs.toArray.size ≤ sizeLine)
    (turn : EnTurn prog w A h₀ L m env c a b scope cl vs.toArray g news s)
    (fin : ∀ D ys h' tk, Fr h₀ L h' m → News h₀ L h' ((D, lst ys) :: news) → (∀ p ∈ news, p.1 < D) → IntsAre ys (((List.range vs.toArray.size).filter g).map fun (j : Nat) => (j : Int)) → Q (.ref D) { s with heap := h', toks := tk }) :
    wpAny (model prog w) A (call (.type "enumerate") [.ref l]) (EnSrc prog w A h₀ L m env c a b scope cl Q) E s := by
  have hls : s.heap.IsList l vs.toArray := ⟨_, (N _ hm).1, rfl, k, rfl⟩
  have hlt : l < s.heap.objs.size := Heap.lt_size (N _ hm).1
  refine call_enumerate_list hls fun h' he hit hsize hk => ?_
  have hLlt : L < s.heap.objs.size := F.ns.lt
  have none₀ : ∀ x, s.heap.objs.size ≤ x → h₀.get? x = none := fun x hx => by
    cases q : h₀.get? x with
    | none => rfl
    | some o' => exact absurd (Heap.lt_size (F.keep x o' q)) (Nat.not_lt.mpr hx)
  refine ⟨_, _, l, vs.toArray, k, g, news, rfl, hh, Nat.ne_of_gt (Nat.lt_succ_self _), Nat.ne_of_lt (Nat.lt_succ_of_lt hlt), Nat.ne_of_lt hlt, hsz, he, hit, F.keeps hk, fun p hp => ⟨hk _ _ (N p hp).1, (N p hp).2⟩, hm,
    ⟨Nat.ne_of_lt (Nat.lt_succ_of_lt hLlt), Nat.ne_of_lt hLlt⟩, ⟨none₀ _ (Nat.le_succ _), none₀ _ (Nat.le_refl _)⟩, fun p hp => ⟨Nat.ne_of_lt (Nat.lt_succ_of_lt (Heap.lt_size (N p hp).1)), Nat.ne_of_lt (Heap.lt_size (N p hp).1)⟩, turn, fin⟩
end

theorem carried_at {ys : List Value} : ∀ {ds : List PyData}, CarriedAll ys ds → ∀ {i : Nat} {v : Value}, ys[i]? = some v → ∃ d, ds[i]? = some d ∧ Carried v d := by
  induction ys with
  | nil => intro ds _ i v h; cases h
  | cons y ys ih =>
    intro ds H i v h
    cases H with
    | cons hc r =>
      cases i with
      | zero => cases h; exact ⟨_, rfl, hc⟩
      | succ i => exact ih r h
theorem carried_str {v : Value} {x : PySem.Str} (h : Carried v (.str x)) : ∃ t, v = .str x t := by
  cases h
  exact ⟨_, rfl⟩

end Mine
end

section
open PySem PySem.W PySem.Calls PySem.Spec PyProof PyProof.Rows
namespace Mine

noncomputable def startsOf (x : PySem.Str) (q : Int) : List Nat := (List.range ((x.length : Int) - 2 * q + 1 - 0).toNat).filter fun (i : Nat) => Txt.startswith (Txt.slice x (some (i : Int)) none) (Txt.slice x (some (i : Int)) (some ((i : Int) + q)) ++ Txt.slice x (some (i : Int)) (some ((i : Int) + q)))
def listOut (ns : List Int) (v : Value) (tl : List (Addr × Obj)) : Prop := ∃ r ys, v = .ref r ∧ tl = [(r, LCg.lst ys)] ∧ IntsAre ys ns

noncomputable def startsI (x : PySem.Str) (q : Int) : List Int := (startsOf x q).map fun (j : Nat) => (j : Int)
noncomputable def lastI (S : List Int) : Nat → Int → Int
  | 0, p => p
  | f + 1, p => if p + 1 ∈ S then lastI S f (p + 1) else p
noncomputable def wordOf (x : PySem.Str) (q p : Int) : PySem.Str := Txt.slice x (some p) (some (p + q))
noncomputable def midOf (u : PySem.Str) : PySem.Str := Txt.slice u (some 1) (some (-1))
noncomputable def toldAt (x : PySem.Str) (q : Int) (S : List Int) (p : Int) : List (Int × Int × Int) :=
  if p - 1 ∉ S ∧ Txt.contains (midOf (wordOf x q p ++ wordOf x q p)) (wordOf x q p) = false then [(p, lastI S ((x.length : Int) - p).toNat p + 2 * q, q)] else []
noncomputable def toldStep (x : PySem.Str) (q : Int) : List (Int × Int × Int) := (startsI x q).flatMap (toldAt x q (startsI x q))
noncomputable def told (x : PySem.Str) : List (Int × Int × Int) := (rangeKs 1 (x.length / 2)).flatMap (toldStep x)

theorem startsI_bounds {x : PySem.Str} {q p : Int} (h : p ∈ startsI x q) : 0 ≤ p ∧ p ≤ (x.length : Int) - 2 * q := by
  unfold startsI startsOf at h
  obtain ⟨j, hj, rfl⟩ := List.mem_map.mp h
  have h1 := List.mem_range.mp (List.mem_filter.mp hj).1
  lia
theorem startsI_len (x : PySem.Str) (q : Int) (hq : 1 ≤ q) : (startsI x q).length ≤ x.length := by
  unfold startsI startsOf
  rw [List.length_map]
  refine Nat.le_trans (List.length_filter_le _ _) ?_
  rw [List.length_range]
  lia

/-- a list of tuples of three ints, its tuples in the ledger -/
inductive TupsAre (led : List (Addr × Obj)) : List Value → List (Int × Int × Int) → Prop
  | nil : TupsAre led [] []
  | cons {r : Addr} {a b c : Int} {ta tb tc : Tok} {vs : List Value} {ts : List (Int × Int × Int)} : (r, tup3 a b c ta tb tc) ∈ led → TupsAre led vs ts → TupsAre led (.ref r :: vs) ((a, b, c) :: ts)
theorem TupsAre.mono {led led' : List (Addr × Obj)} (h : ∀ p ∈ led, p ∈ led') {vs ts} (H : TupsAre led vs ts) : TupsAre led' vs ts := by
  induction H with
  | nil => exact .nil
  | cons m _ ih => exact .cons (h _ m) ih
theorem TupsAre.snoc {led : List (Addr × Obj)} {r : Addr} {a b c : Int} {ta tb tc : Tok} (h : (r, tup3 a b c ta tb tc) ∈ led) {vs ts} (H : TupsAre led vs ts) : TupsAre led (vs ++ [.ref r]) (ts ++ [(a, b, c)]) := by
  induction H with
  | nil => exact .cons h .nil
  | cons m _ ih => exact .cons m ih
theorem TupsAre.length {led : List (Addr × Obj)} {vs ts} (H : TupsAre led vs ts) : vs.length = ts.length := by
  induction H with
  | nil => rfl
  | cons m _ ih => exact congrArg Nat.succ ih

theorem fr_named {h₀ h : Heap} {L : Addr} {m : Str → Option Value} {a : Str} {v : Value} (F : Fr h₀ L h m) (hm : m a = some v) : Fr h₀ L h (fun z => if z = a then some v else m z) := by
  have e : (fun z => if z = a then some v else m z) = m := by
    funext z
    by_cases hz : z = a
    · rw [if_pos hz, hz, hm]
    · rw [if_neg hz]
  rw [e]; exact F

theorem lastI_step {S : List Int} {n l : Int} (h : l < n) (hm : l + 1 ∈ S) : lastI S (n - (l + 1)).toNat (l + 1) = lastI S (n - l).toNat l := by
  rw [show (n - l).toNat = (n - (l + 1)).toNat + 1 by lia]
  show _ = if l + 1 ∈ S then _ else _
  rw [if_pos hm]
theorem lastI_stop {S : List Int} {n l : Int} (hm : ¬ l + 1 ∈ S) : lastI S (n - l).toNat l = l := by
  cases (n - l).toNat with
  | zero => rfl
  | succ f =>
    show (if l + 1 ∈ S then _ else _) = _
    rw [if_neg hm]

end Mine
end

section
open PySem PySem.W PySem.Calls PySem.Spec PyProof.Rows
local macro_rules | `(tactic| units_room) => `(tactic| (have hcL9 := cLine_is; (try simp only [units_in1, units_deeper, Around.mark_units, units_caller]); (try dsimp only [ktrTop]); lia))
local macro_rules | `(tactic| k_ne) => `(tactic| (refine neN ?_; (try dsimp only); first | (with_reducible assumption) | (with_reducible exact Ne.symm (by assumption)) | omega))
local macro_rules | `(tactic| size_fits) => `(tactic| (rw [PySem.sizeLine_eq]; lia))
local macro_rules
  | `(tactic| walk_at "truthy str") => `(tactic| k_extra "truthy str")
  | `(tactic| walk_at "CompSrc") => `(tactic| k_extra "CompSrc")
  | `(tactic| walk_at "KCtEl") => `(tactic| k_extra "KCtEl")
  | `(tactic| walk_at "exec For Name Call cons nil") => `(tactic| k_extra "exec For Name Call cons nil")
  | `(tactic| walk_at "exec For Name Name cons nil") => `(tactic| k_extra "exec For Name Name cons nil")
  | `(tactic| walk_at "pyIter ref") => `(tactic| k_extra "pyIter ref")
  | `(tactic| walk_at "exec Assign cons ListComp") => `(tactic| k_extra "exec Assign cons ListComp")
  | `(tactic| walk_at "CompRest") => `(tactic| k_extra "CompRest")
  | `(tactic| walk_at "CompRestT") => `(tactic| k_extra "CompRestT")
  | `(tactic| walk_at "compareOp Eq ref ref") => `(tactic| k_extra "compareOp Eq ref ref")
  | `(tactic| walk_at "call builtin:sorted") => `(tactic| k_extra "call builtin:sorted")
  | `(tactic| walk_at "eval ListComp") => `(tactic| k_extra "eval ListComp")
  | `(tactic| walk_at "eval ListComp Name cons") => `(tactic| k_extra "eval ListComp Name cons")

section
open PySem PySem.W PySem.Calls PySem.Spec PyProof.Rows
namespace Mine

set_option maxRecDepth 100000 in
set_option maxHeartbeats 4000000 in
theorem d_strcoll {w p loose mean mg mb} (a b : PySem.Str) (ta tb : Tok) : PureC w p loose mean mg mb 3 21 [.str a ta, .str b tb] [] (.int (scoll a b)) := by
  k_with_none
  w_top off
  k_with "mine end" => ((
      (first | refine' cb_retI (by assumption) ?_ (by k_asm) (by first | k_asm | (refine' cb_drop (by assumption) (by kcj_all))) | refine' cb_retB (by assumption) ?_ (by k_asm) (by first | k_asm | (refine' cb_drop (by assumption) (by kcj_all))))))
  refine PureC.intro ?_
  k_fill
  intro dp un gd cn cs aa ccd cl outer A₀ base h₀ L m news s Q E B F X N T hk hd hu hret
  simp only [List.nil_append] at N hret
  refine wpAny_call ?_
  k_dflt cell_enter
  k_steps
  walk_at "mine end"
  exact rfl



theorem slice_dropI (x : PySem.Str) (i : Int) (h : 0 ≤ i) : (Txt.slice x (some i) none).cps.toList = x.cps.toList.drop i.toNat := by
  obtain ⟨k, rfl⟩ := Int.eq_ofNat_of_zero_le h
  rw [slice_drop]; rfl
theorem codes_go {x : PySem.Str} {i j : Int} (h0 : 0 ≤ i) (h1 : i < j) (h2 : j ≤ x.length) (h3 : firstFrom (ltB x.cps.toList i.toNat) (x.length - j.toNat) j.toNat = endOf x.cps.toList i.toNat) (hl : j < x.length)
    (he : [scoll (Txt.slice x (some i) none) (Txt.slice x (some j) none), scoll (Txt.slice x (some j) none) (Txt.slice x (some i) none)] = [-1, 1]) :
    i < j + 1 ∧ j + 1 ≤ x.length ∧ firstFrom (ltB x.cps.toList i.toNat) (x.length - (j + 1).toNat) (j + 1).toNat = endOf x.cps.toList i.toNat := by
  refine ⟨by lia, by (exact Int.add_one_le_of_lt hl), ?_⟩
  rw [scoll_pair, slice_dropI _ _ h0, slice_dropI _ _ (by lia)] at he
  rw [← h3, show (j + 1).toNat = j.toNat + 1 by (grind -ring -linarith)]
  exact firstFrom_step (by (grind -ring -linarith)) (decide_eq_true he)
theorem codes_stop {x : PySem.Str} {i j : Int} (h0 : 0 ≤ i) (h1 : i < j) (h3 : firstFrom (ltB x.cps.toList i.toNat) (x.length - j.toNat) j.toNat = endOf x.cps.toList i.toNat)
    (he : ¬ [scoll (Txt.slice x (some i) none) (Txt.slice x (some j) none), scoll (Txt.slice x (some j) none) (Txt.slice x (some i) none)] = [-1, 1]) :
    j = (endOf x.cps.toList i.toNat : Int) := by
  rw [scoll_pair, slice_dropI _ _ h0, slice_dropI _ _ (by lia)] at he
  rw [← h3, firstFrom_stop (decide_eq_false he)]; (grind -ring -linarith)
theorem codes_end {x : PySem.Str} {i j : Int} (h0 : 0 ≤ i) (h1 : i < j) (h3 : firstFrom (ltB x.cps.toList i.toNat) (x.length - j.toNat) j.toNat = endOf x.cps.toList i.toNat)
    (he : ¬ j < x.length) : j = (endOf x.cps.toList i.toNat : Int) := by
  rw [← h3, firstFrom_end (by lia)]; lia
theorem codes_first {x : PySem.Str} {i : Int} (h0 : 0 ≤ i) (h1 : i < x.length) : i < i + 1 ∧ i + 1 ≤ x.length ∧ firstFrom (ltB x.cps.toList i.toNat) (x.length - (i + 1).toNat) (i + 1).toNat = endOf x.cps.toList i.toNat := by
  refine ⟨by (simp +arith only), by (exact Int.add_one_le_of_lt h1), ?_⟩
  rw [show (i + 1).toNat = i.toNat + 1 by (exact toNat_add_one_of_nonneg h0)]; rfl

set_option maxRecDepth 100000 in
set_option maxHeartbeats 4000000 in
theorem d_by_codes {w p loose mean mg mb} (x : PySem.Str) (i : Int) (ta tb : Tok) (h0 : 0 ≤ i) (hi : i < x.length) (hx : x.length ≤ 12) : PureC w p loose mean mg mb 6 57 [.str x ta, .int i tb] [] (.int (endOf x.cps.toList i.toNat)) := by
  k_with_none
  w_top off
  k_with "mine end" => ((
      (first | refine' cb_retI (by assumption) ?_ (by k_asm) (by first | k_asm | (refine' cb_drop (by assumption) (by kcj_all))) | refine' cb_retB (by assumption) ?_ (by k_asm) (by first | k_asm | (refine' cb_drop (by assumption) (by kcj_all))))))
  k_with "call ref cons nil" => ((k_here; (with_reducible show wpAny _ _ (call (Value.ref 21) [Value.str _ _, Value.str _ _]) _ _ _); k_dflt (refine' PureC.use (d_strcoll _ _ _ _) (by k_asm) (by k_asm) (by k_asm) (by k_asm) (by k_asm) (by first | exact rfl | assumption) (by exact List.forall_mem_nil _) (by first | exact room_le (by with_reducible assumption) (Nat.le_of_ble_eq_true rfl) | exact Nat.lt_of_le_of_lt (Nat.le_add_right _ _) (by with_reducible assumption) | ktr_room) (by first | exact units_le (by with_reducible assumption) (Nat.le_of_ble_eq_true rfl) | ktr_units) ?_; k_whole); intro t'Zq h'Zq tk'Zq F'Zq N'Zq; (try dsimp only); (try k_fold)))
  k_with "call builtin:len cons nil" => (((with_reducible show wpAny _ _ (call (Value.builtin "len") [Value.str _ _]) _ _ _); refine PyProof.P.len_str (by lia) ?_))
  refine PureC.intro ?_
  k_fill
  intro dp un gd cn cs aa ccd cl outer A₀ base h₀ L m news s Q E B F X N T hk hd hu hret
  simp only [List.nil_append] at N hret
  refine wpAny_call ?_
  k_dflt cell_enter
  k_with "exec While BoolOp cons nil" => k_while (fun _ j => i < j ∧ j ≤ x.length ∧ firstFrom (ltB x.cps.toList i.toNat) (x.length - j.toNat) j.toNat = endOf x.cps.toList i.toNat) (fun _ j => (x.length - j).toNat) "other"
  k_with "measure" => first | exact toNat_up (by with_reducible assumption) | exact toNat_down (by with_reducible assumption) | exact toNat_up (by lia)
  k_with "state" => first | exact codes_go (by assumption) (by assumption) (by assumption) (by assumption) (by assumption) (by assumption) | exact codes_first (by assumption) (by assumption)
  k_steps
  all_goals walk_at "mine end"
  · exact codes_stop (by assumption) (by assumption) (by assumption) (by assumption)
  · exact codes_end (by assumption) (by assumption) (by assumption) (by assumption)
end Mine
end

section
open PySem PySem.W PySem.Calls PySem.Spec PyProof.Rows
namespace Mine


set_option maxRecDepth 100000 in
set_option maxHeartbeats 4000000 in
theorem d_isterm {w p loose mean mg mb} (z : Int) (ta : Tok) : PureC w p loose mean mg mb 3 38 [.int z ta] [] (fun _ => .bool (decide (z < 256))) := by
  k_with_none
  w_top off
  k_with "mine end" => ((
      (first | refine' cb_retI (by assumption) ?_ (by k_asm) (by first | k_asm | (refine' cb_drop (by assumption) (by kcj_all))) | refine' cb_retB (by assumption) ?_ (by k_asm) (by first | k_asm | (refine' cb_drop (by assumption) (by kcj_all))))))
  refine PureC.intro ?_
  k_fill
  intro dp un gd cn cs aa ccd cl outer A₀ base h₀ L m news s Q E B F X N T hk hd hu hret
  simp only [List.nil_append] at N hret
  refine wpAny_call ?_
  k_dflt cell_enter
  k_steps
  all_goals walk_at "mine end"
  all_goals rfl
set_option maxRecDepth 100000 in
set_option maxHeartbeats 4000000 in
theorem d_iseof {w p loose mean mg mb} (z : Int) (ta : Tok) : PureC w p loose mean mg mb 3 45 [.int z ta] [] (fun _ => .bool (decide (z = 0))) := by
  k_with_none
  w_top off
  k_with "mine end" => ((
      (first | refine' cb_retI (by assumption) ?_ (by k_asm) (by first | k_asm | (refine' cb_drop (by assumption) (by kcj_all))) | refine' cb_retB (by assumption) ?_ (by k_asm) (by first | k_asm | (refine' cb_drop (by assumption) (by kcj_all))))))
  k_with "call ref cons nil" => ((k_here; (with_reducible show wpAny _ _ (call (Value.ref 38) [Value.int _ _]) _ _ _); k_dflt (refine' PureC.use (d_isterm _ _) (by k_asm) (by k_asm) (by k_asm) (by k_asm) (by k_asm) (by first | exact rfl | assumption) (by exact List.forall_mem_nil _) (by first | exact room_le (by with_reducible assumption) (Nat.le_of_ble_eq_true rfl) | exact Nat.lt_of_le_of_lt (Nat.le_add_right _ _) (by with_reducible assumption) | ktr_room) (by first | exact units_le (by with_reducible assumption) (Nat.le_of_ble_eq_true rfl) | ktr_units) ?_; k_whole); intro t'Zq h'Zq tk'Zq F'Zq N'Zq; (try dsimp only); (try k_fold)))
  refine PureC.intro ?_
  k_fill
  intro dp un gd cn cs aa ccd cl outer A₀ base h₀ L m news s Q E B F X N T hk hd hu hret
  simp only [List.nil_append] at N hret
  refine wpAny_call ?_
  k_dflt cell_enter
  k_steps
  all_goals walk_at "mine end"
  all_goals rfl

theorem ltB_step (ns : List Int) (a b : Nat) (ha : a < ns.length) (hb : b < ns.length) : ltB ns a b = (decide (ns.getD a 0 < ns.getD b 0) || (decide (ns.getD a 0 = ns.getD b 0) && ltB ns (a + 1) (b + 1))) := by
  unfold ltB
  rw [List.drop_eq_getElem_cons ha, List.drop_eq_getElem_cons hb]
  have e1 : ns.getD a 0 = ns[a] := by simp [ha]
  have e2 : ns.getD b 0 = ns[b] := by simp [hb]
  rw [e1, e2]
  have e3 : (ns[a] :: ns.drop (a + 1) < ns[b] :: ns.drop (b + 1)) = (ns[a] < ns[b] ∨ ns[a] = ns[b] ∧ ns.drop (a + 1) < ns.drop (b + 1)) := propext List.cons_lt_cons_iff
  simp only [e3, Bool.decide_or, Bool.decide_and]
theorem ahead_go {ns : List Int} {a b : Int} {X : Bool} (h0 : 0 ≤ a) (h1 : a < b) (h2 : b ≤ ns.length) (h3 : ltB ns a.toNat b.toNat = X) (h4 : b < ns.length) (h5 : ns.getD a.toNat 0 - ns.getD b.toNat 0 = 0) :
    0 ≤ a + 1 ∧ a + 1 < b + 1 ∧ b + 1 ≤ ns.length ∧ ltB ns (a + 1).toNat (b + 1).toNat = X := by
  refine ⟨by (exact Int.le_add_one h0), by (exact Int.add_lt_add_right h1 1), by (exact Int.add_one_le_of_lt h4), ?_⟩
  rw [← h3, ltB_step ns a.toNat b.toNat (by lia) (by (grind -ring -linarith)), show (a + 1).toNat = a.toNat + 1 by (exact toNat_add_one_of_nonneg h0), show (b + 1).toNat = b.toNat + 1 by (grind -ring -linarith)]
  have e : ns.getD a.toNat 0 = ns.getD b.toNat 0 := by (exact Int.eq_of_sub_eq_zero h5)
  simp only [e, Int.lt_irrefl, decide_false, decide_true, Bool.true_and, Bool.false_or]
theorem ahead_stop {ns : List Int} {a b : Int} {X : Bool} (h0 : 0 ≤ a) (h1 : a < b) (h2 : b ≤ ns.length) (h3 : ltB ns a.toNat b.toNat = X) (h4 : b < ns.length) (h5 : ¬ ns.getD a.toNat 0 - ns.getD b.toNat 0 = 0) :
    decide (256 + Int.fdiv (ns.getD a.toNat 0 - ns.getD b.toNat 0) 3 < 256) = X := by
  rw [← h3, ltB_step ns a.toNat b.toNat (by lia) (by lia)]
  have e : ¬ ns.getD a.toNat 0 = ns.getD b.toNat 0 := by lia
  simp only [e, decide_false, Bool.false_and, Bool.or_false]
  have h6 : Int.fdiv (ns.getD a.toNat 0 - ns.getD b.toNat 0) 3 = (ns.getD a.toNat 0 - ns.getD b.toNat 0) / 3 := Int.fdiv_eq_ediv_of_nonneg _ (by (decide))
  rw [h6]
  congr 1
  apply propext
  lia
theorem ahead_end {ns : List Int} {a b : Int} {X : Bool} (h2 : b ≤ ns.length) (h3 : ltB ns a.toNat b.toNat = X) (h4 : ¬ b < ns.length) :
    decide (b < ns.length) = X := by
  rw [← h3]
  unfold ltB
  have e : ns.drop b.toNat = [] := List.drop_eq_nil_of_le (by (grind -ring -linarith))
  rw [e]
  simp only [h4, decide_false]
  cases ns.drop a.toNat <;> simp

set_option maxRecDepth 100000 in
set_option maxHeartbeats 4000000 in
theorem d_ahead {w p loose mean mg mb} (l : Addr) (vs : List Value) (ns : List Int) (c : Nat) (hi : IntsAre vs ns) (hn : ns.length ≤ 12) (i j : Int) (ta tb : Tok) (h0 : 0 ≤ i) (hij : i < j) (hj : j ≤ ns.length) : PureC w p loose mean mg mb 5 64 [.ref l, .int i ta, .int j tb] [(l, listOf vs.toArray c)] (fun _ => .bool (ltB ns i.toNat j.toNat)) := by
  k_with_none
  w_top off
  k_with "mine end" => ((
      (first | refine' cb_retI (by assumption) ?_ (by k_asm) (by first | k_asm | (refine' cb_drop (by assumption) (by kcj_all))) | refine' cb_retB (by assumption) ?_ (by k_asm) (by first | k_asm | (refine' cb_drop (by assumption) (by kcj_all))))))
  k_with "call ref cons nil" => ((k_here; (with_reducible show wpAny _ _ (call (Value.ref 38) [Value.int _ _]) _ _ _); k_dflt (refine' PureC.use (d_isterm _ _) (by k_asm) (by k_asm) (by k_asm) (by k_asm) (by k_asm) (by first | exact rfl | assumption) (by exact List.forall_mem_nil _) (by first | exact room_le (by with_reducible assumption) (Nat.le_of_ble_eq_true rfl) | exact Nat.lt_of_le_of_lt (Nat.le_add_right _ _) (by with_reducible assumption) | ktr_room) (by first | exact units_le (by with_reducible assumption) (Nat.le_of_ble_eq_true rfl) | ktr_units) ?_; k_whole); intro t'Zq h'Zq tk'Zq F'Zq N'Zq; (try dsimp only); (try k_fold)))
  k_with "call ref cons nil" => ((k_here; (with_reducible show wpAny _ _ (call (Value.ref 45) [Value.int _ _]) _ _ _); k_dflt (refine' PureC.use (d_iseof _ _) (by k_asm) (by k_asm) (by k_asm) (by k_asm) (by k_asm) (by first | exact rfl | assumption) (by exact List.forall_mem_nil _) (by first | exact room_le (by with_reducible assumption) (Nat.le_of_ble_eq_true rfl) | exact Nat.lt_of_le_of_lt (Nat.le_add_right _ _) (by with_reducible assumption) | ktr_room) (by first | exact units_le (by with_reducible assumption) (Nat.le_of_ble_eq_true rfl) | ktr_units) ?_; k_whole); intro t'Zq h'Zq tk'Zq F'Zq N'Zq; (try dsimp only); (try k_fold)))
  refine PureC.intro ?_
  k_fill
  intro dp un gd cn cs aa ccd cl outer A₀ base h₀ L m news s Q E B F X N T hk hd hu hret
  simp only [List.cons_append, List.nil_append] at N hret
  refine wpAny_call ?_
  k_dflt cell_enter
  k_with "exec While BoolOp cons nil" => k_while (fun _ a b => 0 ≤ a ∧ a < b ∧ b ≤ ns.length ∧ ltB ns a.toNat b.toNat = ltB ns i.toNat j.toNat) (fun _ a b => (ns.length - b).toNat) "place" "other"
  k_with "measure" => first | exact toNat_up (by with_reducible assumption) | exact toNat_down (by with_reducible assumption) | exact toNat_up (by lia)
  k_with "state" => first | exact ahead_go (by assumption) (by assumption) (by assumption) (by assumption) (by assumption) (by assumption) | exact ⟨by assumption, by assumption, by assumption, rfl⟩
  k_steps
  all_goals walk_at "mine end"
  · exact ahead_stop (by assumption) (by assumption) (by assumption) (by assumption) (by assumption) (by assumption)
  · exact ahead_end (by assumption) (by assumption) (by assumption)

theorem nums_go {ns : List Int} {i j : Int} (h0 : 0 ≤ i) (h1 : i < j) (h2 : j ≤ ns.length) (h3 : firstFrom (ltB ns i.toNat) (ns.length - j.toNat) j.toNat = endOf ns i.toNat) (hl : j < ns.length) (he : ltB ns i.toNat j.toNat = true) :
    i < j + 1 ∧ j + 1 ≤ ns.length ∧ firstFrom (ltB ns i.toNat) (ns.length - (j + 1).toNat) (j + 1).toNat = endOf ns i.toNat := by
  refine ⟨by lia, by lia, ?_⟩
  rw [← h3, show (j + 1).toNat = j.toNat + 1 by lia]
  exact firstFrom_step (by lia) he
theorem nums_stop {ns : List Int} {i j : Int} (h0 : 0 ≤ i) (h1 : i < j) (h3 : firstFrom (ltB ns i.toNat) (ns.length - j.toNat) j.toNat = endOf ns i.toNat) (he : ltB ns i.toNat j.toNat = false) : j = (endOf ns i.toNat : Int) := by
  rw [← h3, firstFrom_stop he]; (grind -ring -linarith)
theorem nums_end {ns : List Int} {i j : Int} (h0 : 0 ≤ i) (h1 : i < j) (h3 : firstFrom (ltB ns i.toNat) (ns.length - j.toNat) j.toNat = endOf ns i.toNat) (he : ¬ j < ns.length) : j = (endOf ns i.toNat : Int) := by
  rw [← h3, firstFrom_end (by lia)]; lia
theorem nums_first {ns : List Int} {i : Int} (h0 : 0 ≤ i) (h1 : i < ns.length) : i < i + 1 ∧ i + 1 ≤ ns.length ∧ firstFrom (ltB ns i.toNat) (ns.length - (i + 1).toNat) (i + 1).toNat = endOf ns i.toNat := by
  refine ⟨by (simp +arith only), by (exact Int.add_one_le_of_lt h1), ?_⟩
  rw [show (i + 1).toNat = i.toNat + 1 by lia]; rfl

set_option maxRecDepth 100000 in
set_option maxHeartbeats 4000000 in
theorem d_by_numbers {w p loose mean mg mb} (l : Addr) (vs : List Value) (ns : List Int) (c : Nat) (hi : IntsAre vs ns) (hn : ns.length ≤ 12) (i : Int) (ta : Tok) (h0 : 0 ≤ i) (hi1 : i < ns.length) : PureC w p loose mean mg mb 7 71 [.ref l, .int i ta] [(l, listOf vs.toArray c)] (.int (endOf ns i.toNat)) := by
  k_with_none
  w_top off
  k_with "mine end" => ((
      (first | refine' cb_retI (by assumption) ?_ (by k_asm) (by first | k_asm | (refine' cb_drop (by assumption) (by kcj_all))) | refine' cb_retB (by assumption) ?_ (by k_asm) (by first | k_asm | (refine' cb_drop (by assumption) (by kcj_all))))))
  k_with "call ref cons nil" => ((k_here; (with_reducible show wpAny _ _ (call (Value.ref 38) [Value.int _ _]) _ _ _); k_dflt (refine' PureC.use (d_isterm _ _) (by k_asm) (by k_asm) (by k_asm) (by k_asm) (by k_asm) (by first | exact rfl | assumption) (by exact List.forall_mem_nil _) (by first | exact room_le (by with_reducible assumption) (Nat.le_of_ble_eq_true rfl) | exact Nat.lt_of_le_of_lt (Nat.le_add_right _ _) (by with_reducible assumption) | ktr_room) (by first | exact units_le (by with_reducible assumption) (Nat.le_of_ble_eq_true rfl) | ktr_units) ?_; k_whole); intro t'Zq h'Zq tk'Zq F'Zq N'Zq; (try dsimp only); (try k_fold)))
  k_with "call ref cons nil" => ((k_here; (with_reducible show wpAny _ _ (call (Value.ref 45) [Value.int _ _]) _ _ _); k_dflt (refine' PureC.use (d_iseof _ _) (by k_asm) (by k_asm) (by k_asm) (by k_asm) (by k_asm) (by first | exact rfl | assumption) (by exact List.forall_mem_nil _) (by first | exact room_le (by with_reducible assumption) (Nat.le_of_ble_eq_true rfl) | exact Nat.lt_of_le_of_lt (Nat.le_add_right _ _) (by with_reducible assumption) | ktr_room) (by first | exact units_le (by with_reducible assumption) (Nat.le_of_ble_eq_true rfl) | ktr_units) ?_; k_whole); intro t'Zq h'Zq tk'Zq F'Zq N'Zq; (try dsimp only); (try k_fold)))
  k_with "call ref cons nil" => ((k_here; (with_reducible show wpAny _ _ (call (Value.ref 64) [Value.ref _, Value.int _ _, Value.int _ _]) _ _ _); k_dflt (refine' PureC.use (d_ahead _ _ _ _ (by assumption) (by assumption) _ _ _ _ (by (with_reducible assumption)) (by (with_reducible assumption)) (by (omega))) (by k_asm) (by k_asm) (by k_asm) (by k_asm) (by k_asm) (by first | exact rfl | assumption) (by kcj_all) (by first | exact room_le (by with_reducible assumption) (Nat.le_of_ble_eq_true rfl) | exact Nat.lt_of_le_of_lt (Nat.le_add_right _ _) (by with_reducible assumption) | ktr_room) (by first | exact units_le (by with_reducible assumption) (Nat.le_of_ble_eq_true rfl) | ktr_units) ?_; k_whole); intro t'Zq h'Zq tk'Zq F'Zq N'Zq; (try dsimp only); (try k_fold)))
  refine PureC.intro ?_
  k_fill
  intro dp un gd cn cs aa ccd cl outer A₀ base h₀ L m news s Q E B F X N T hk hd hu hret
  simp only [List.cons_append, List.nil_append] at N hret
  refine wpAny_call ?_
  k_dflt cell_enter
  k_with "exec While BoolOp cons nil" => k_while (fun _ j => i < j ∧ j ≤ ns.length ∧ firstFrom (ltB ns i.toNat) (ns.length - j.toNat) j.toNat = endOf ns i.toNat) (fun _ j => (ns.length - j).toNat) "other"
  k_with "measure" => first | exact toNat_up (by with_reducible assumption) | exact toNat_down (by with_reducible assumption) | exact toNat_up (by lia)
  k_with "state" => first | exact nums_go (by assumption) (by assumption) (by assumption) (by assumption) (by assumption) (by assumption) | exact nums_first (by assumption) (by assumption)
  k_steps
  all_goals walk_at "mine end"
  · exact nums_stop (by assumption) (by assumption) (by assumption) (by assumption)
  · exact nums_end (by assumption) (by assumption) (by assumption) (by assumption)
end Mine
end

section
open PySem PySem.W PySem.Calls PySem.Spec PyProof.Rows
namespace Mine


theorem car_go1 {x : PySem.Str} {i q b : Int} (hq : 1 ≤ q) (hi : i + q ≤ x.length) (h0 : 0 ≤ b) (h1 : b ≤ i) (h2 : downFrom (fun b => eqAt x.cps.toList b (b + q.toNat)) b.toNat = beginOf x.cps.toList i.toNat q.toNat) (h3 : 0 < b)
    (h4 : scoll (Txt.item x (b - 1)) (Txt.item x (b - 1 + q)) = 0) : 0 ≤ b - 1 ∧ b - 1 ≤ i ∧ downFrom (fun b => eqAt x.cps.toList b (b + q.toNat)) (b - 1).toNat = beginOf x.cps.toList i.toNat q.toNat := by
  refine ⟨by lia, by lia, ?_⟩
  rw [scoll_items x _ _ (by lia) (by lia) (by lia) (by lia)] at h4
  rw [← h2, show (b - 1).toNat = b.toNat - 1 by lia]
  refine downFrom_step (by lia) ?_
  rw [show (b - 1).toNat = b.toNat - 1 by lia, show (b - 1 + q).toNat = b.toNat - 1 + q.toNat by lia] at h4
  exact h4
theorem car_stop1 {x : PySem.Str} {i q b : Int} (hq : 1 ≤ q) (hi : i + q ≤ x.length) (h0 : 0 ≤ b) (h1 : b ≤ i) (h2 : downFrom (fun b => eqAt x.cps.toList b (b + q.toNat)) b.toNat = beginOf x.cps.toList i.toNat q.toNat) (h3 : 0 < b)
    (h4 : scoll (Txt.item x (b - 1)) (Txt.item x (b - 1 + q)) ≠ 0) : b = (beginOf x.cps.toList i.toNat q.toNat : Int) := by
  rw [ne_eq, scoll_items x _ _ (by lia) (by lia) (by lia) (by lia)] at h4
  rw [show (b - 1).toNat = b.toNat - 1 by lia, show (b - 1 + q).toNat = b.toNat - 1 + q.toNat by lia] at h4
  rw [← h2, downFrom_stop (by lia) (by simpa using h4)]; lia
theorem car_end1 {x : PySem.Str} {i q b : Int} (h0 : 0 ≤ b) (h2 : downFrom (fun b => eqAt x.cps.toList b (b + q.toNat)) b.toNat = beginOf x.cps.toList i.toNat q.toNat) (h3 : ¬ 0 < b) : b = (beginOf x.cps.toList i.toNat q.toNat : Int) := by
  have e : b = 0 := by lia
  subst e
  rw [← h2]; rfl
theorem car_go2 {x : PySem.Str} {i q e : Int} (h0 : 0 ≤ i) (hq : 1 ≤ q) (h1 : i + q ≤ e) (h2 : e ≤ x.length) (h3 : firstFrom (fun e => eqAt x.cps.toList e (e - q.toNat)) (x.length - e.toNat) e.toNat = stopOf x.cps.toList i.toNat q.toNat) (h4 : e < x.length)
    (h5 : scoll (Txt.item x e) (Txt.item x (e - q)) = 0) : i + q ≤ e + 1 ∧ e + 1 ≤ x.length ∧ firstFrom (fun e => eqAt x.cps.toList e (e - q.toNat)) (x.length - (e + 1).toNat) (e + 1).toNat = stopOf x.cps.toList i.toNat q.toNat := by
  refine ⟨by lia, by lia, ?_⟩
  rw [scoll_items x _ _ (by lia) (by lia) (by lia) (by lia), show (e - q).toNat = e.toNat - q.toNat by lia] at h5
  rw [← h3, show (e + 1).toNat = e.toNat + 1 by lia]
  exact firstFrom_step (by lia) h5
theorem car_stop2 {x : PySem.Str} {i q e : Int} (h0 : 0 ≤ i) (hq : 1 ≤ q) (h1 : i + q ≤ e) (h2 : e ≤ x.length) (h3 : firstFrom (fun e => eqAt x.cps.toList e (e - q.toNat)) (x.length - e.toNat) e.toNat = stopOf x.cps.toList i.toNat q.toNat) (h4 : e < x.length)
    (h5 : scoll (Txt.item x e) (Txt.item x (e - q)) ≠ 0) : e = (stopOf x.cps.toList i.toNat q.toNat : Int) := by
  rw [ne_eq, scoll_items x _ _ (by lia) (by lia) (by lia) (by lia), show (e - q).toNat = e.toNat - q.toNat by lia] at h5
  rw [← h3, firstFrom_stop (by simpa using h5)]; lia
theorem car_end2 {x : PySem.Str} {i q e : Int} (h0 : 0 ≤ i) (hq : 1 ≤ q) (h1 : i + q ≤ e) (h3 : firstFrom (fun e => eqAt x.cps.toList e (e - q.toNat)) (x.length - e.toNat) e.toNat = stopOf x.cps.toList i.toNat q.toNat) (h4 : ¬ e < x.length) : e = (stopOf x.cps.toList i.toNat q.toNat : Int) := by
  rw [← h3, firstFrom_end (by lia)]; lia
theorem car_first2 {x : PySem.Str} {i q : Int} (h0 : 0 ≤ i) (hq : 1 ≤ q) (h1 : i + q ≤ x.length) : i + q ≤ i + q ∧ i + q ≤ x.length ∧ firstFrom (fun e => eqAt x.cps.toList e (e - q.toNat)) (x.length - (i + q).toNat) (i + q).toNat = stopOf x.cps.toList i.toNat q.toNat := by
  refine ⟨by lia, by lia, ?_⟩
  rw [show (i + q).toNat = i.toNat + q.toNat by lia]; rfl

def tupOut (a b c : Int) (v : Value) (tl : List (Addr × Obj)) : Prop := ∃ r ta tb tc, v = .ref r ∧ tl = [(r, tup3 a b c ta tb tc)]
theorem tup_ret {h₀ h' : Heap} {L r r' : Addr} {o : Obj} {m : Str → Option Value} {news : List (Addr × Obj)} {s : Shared} {Q : Value → Shared → Prop} {tk' : Nat} {a b c a' b' c' : Int} {ta tb tc : Tok}
    (hret : ∀ (v : Value) (tl : List (Addr × Obj)) (h' : Heap) (tk' : Nat), Fr h₀ L h' m → News h₀ L h' (tl ++ news) → (∀ q ∈ tl, ∀ p ∈ news, p.1 ≠ q.1) → tupOut a b c v tl → Q v { s with heap := h', toks := tk' })
    (F : Fr h₀ L h' m) (N : News h₀ L h' ((r, tup3 a' b' c' ta tb tc) :: (r', o) :: news)) (hl : AllLt r news) (ea : a' = a) (eb : b' = b) (ec : c' = c) : Q (.ref r) { s with heap := h', toks := tk' } := by
  subst ea eb ec
  refine hret _ _ h' tk' F (fun p hp => N p ?_) ?_ ⟨r, ta, tb, tc, rfl, rfl⟩
  · rcases List.mem_cons.mp hp with rfl | hp
    · exact .head _
    · exact .tail _ (.tail _ hp)
  · intro q hq p hp
    rw [List.mem_singleton.mp hq]
    exact Nat.ne_of_lt (ktn_ltOf hl p hp)

set_option maxRecDepth 100000 in
set_option maxHeartbeats 4000000 in
theorem d_carried {w p loose mean mg mb} (x : PySem.Str) (i q : Int) (ta tb tc : Tok) (hx : x.length ≤ 12) (h0 : 0 ≤ i) (hq : 1 ≤ q) (hi : i + q ≤ x.length) : Does w p loose mean mg mb 6 78 [.str x ta, .int i tb, .int q tc] [] (tupOut (beginOf x.cps.toList i.toNat q.toNat) (stopOf x.cps.toList i.toNat q.toNat) q) := by
  k_with_none
  w_top off
  k_with "call builtin:len cons nil" => (((with_reducible show wpAny _ _ (call (Value.builtin "len") [Value.str _ _]) _ _ _); refine PyProof.P.len_str (by lia) ?_))
  k_with "call ref cons nil" => ((k_here; (with_reducible show wpAny _ _ (call (Value.ref 21) [Value.str _ _, Value.str _ _]) _ _ _); k_dflt (refine' PureC.use (d_strcoll _ _ _ _) (by k_asm) (by k_asm) (by k_asm) (by k_asm) (by k_asm) (by first | exact rfl | assumption) (by exact List.forall_mem_nil _) (by first | exact room_le (by with_reducible assumption) (Nat.le_of_ble_eq_true rfl) | exact Nat.lt_of_le_of_lt (Nat.le_add_right _ _) (by with_reducible assumption) | ktr_room) (by first | exact units_le (by with_reducible assumption) (Nat.le_of_ble_eq_true rfl) | ktr_units) ?_; k_whole); intro t'Zq h'Zq tk'Zq F'Zq N'Zq; (try dsimp only); (try k_fold)))
  unfold Does
  k_fill
  intro dp un gd cn cs aa ccd cl outer A₀ base h₀ L m news s Q E B F X N T hk hd hu hret
  simp only [List.nil_append] at N hret
  refine wpAny_call ?_
  k_dflt cell_enter
  k_with "exec While BoolOp cons nil" => k_while (fun _ b => 0 ≤ b ∧ b ≤ i ∧ downFrom (fun b => eqAt x.cps.toList b (b + q.toNat)) b.toNat = beginOf x.cps.toList i.toNat q.toNat) (fun _ b => b.toNat) "begin"
  k_with "exec While BoolOp cons nil" => k_while (fun _ e => i + q ≤ e ∧ e ≤ x.length ∧ firstFrom (fun e => eqAt x.cps.toList e (e - q.toNat)) (x.length - e.toNat) e.toNat = stopOf x.cps.toList i.toNat q.toNat) (fun _ e => (x.length - e).toNat) "end"
  k_with "measure" => first | exact toNat_up (by with_reducible assumption) | exact toNat_down (by with_reducible assumption) | exact toNat_up (by lia)
  k_with "state" => first
    | exact car_go1 (by assumption) (by assumption) (by assumption) (by assumption) (by assumption) (by assumption) (by assumption)
    | exact car_go2 (by assumption) (by assumption) (by assumption) (by assumption) (by assumption) (by assumption) (by assumption)
    | exact car_first2 (by assumption) (by assumption) (by assumption)
    | exact ⟨by assumption, Int.le_refl _, rfl⟩
  k_steps
  all_goals refine tup_ret hret (by assumption) (by assumption) (by first | assumption | exact And.right (by assumption)) ?_ ?_ ?_
  all_goals first
    | rfl
    | exact car_stop1 (by assumption) (by assumption) (by assumption) (by assumption) (by assumption) (by assumption) (by assumption)
    | exact car_end1 (by assumption) (by assumption) (by assumption)
    | exact car_stop2 (by assumption) (by assumption) (by assumption) (by assumption) (by assumption) (by assumption) (by assumption)
    | exact car_end2 (by assumption) (by assumption) (by assumption) (by assumption) (by assumption)
end Mine
end

section
open PySem PySem.W PySem.Calls PySem.Spec PyProof PyProof.Rows
namespace Mine


section
variable {prog : Program} {w : World} {A : Around} {E : Value → Shared → Prop} {s : Shared} {x y a b c : PySem.Str} {t u : Tok} {h₀ : Heap} {L : Addr} {m : Str → Option Value} {news : List (Addr × Obj)}
theorem notIn_met {Q : Value → Shared → Prop} (hc : (Builtin.Str.occurrences x y 0 x.length 1).isEmpty = false) (h : Q (.bool false) s) : wpAny (model prog w) A (compareOp .NotIn (.str y u) (.str x t)) Q E s :=
  PyProof.Rows.notIn_str (by rw [hc]; exact h)
theorem truthy_met {Q : Bool → Shared → Prop} (hp : 1 ≤ x.length) (hl : x.length ≤ 40) (h : ∀ k, Q true { s with toks := k }) : wpAny (model prog w) A (PySem.truthy (.str x t)) Q E s :=
  KXt.truthy_pos hp hl (by decide) h
theorem truthy_nil {Q : Bool → Shared → Prop} (h : ∀ k, Q false { s with toks := k }) : wpAny (model prog w) A (PySem.truthy (.str ⟨#[]⟩ t)) Q E s :=
  KXt.truthy (x := ⟨#[]⟩) (by rfl) (by decide) h
theorem len_nil {Q : Value → Shared → Prop} (h : ∀ t' k, Q (.int 0 t') { s with toks := k }) : wpAny (model prog w) A (call (.builtin "len") [.str ⟨#[]⟩ t]) Q E s :=
  PySem.P.len_str (x := ⟨#[]⟩) (by decide) (h _ _)
theorem starts_le (h : Txt.startswith x y = true) : y.length ≤ x.length := by
  unfold Txt.startswith at h
  simp only [Bool.and_eq_true, decide_eq_true_eq] at h
  lia
theorem split_two {Q : Value → Shared → Prop} (hs : Txt.split x y = [a, b]) (hF : Fr h₀ L s.heap m) (hN : News h₀ L s.heap news) (hy : (y.length == 0) = false) (hsz : x.length ≤ 40)
    (h : ∀ D ta tb h' k, Fr h₀ L h' m → News h₀ L h' ((D, listOf #[.str a ta, .str b tb] 0) :: news) → (∀ p ∈ news, p.1 < D) → Q (.ref D) { s with heap := h', toks := k }) :
    wpAny (model prog w) A (call (.builtin "str.split") [.str x t, .str y u]) Q E s :=
  KSpl.split1 hF hN hy (fun D l h' k e _ F' N' l1 => by
    rw [hs] at e
    obtain ⟨ta, l2, e1, e2⟩ := KSpl.cons_of e
    obtain ⟨tb, l3, e3, e4⟩ := KSpl.cons_of e2
    have e5 := KSpl.nil_of e4
    subst e5 e3 e1
    exact h D ta tb h' k F' N' l1) (by rw [sizeLine_eq]; lia)
theorem split_three {Q : Value → Shared → Prop} (hs : Txt.split x y = [a, b, c]) (hF : Fr h₀ L s.heap m) (hN : News h₀ L s.heap news) (hy : (y.length == 0) = false) (hsz : x.length ≤ 40)
    (h : ∀ D ta tb tc h' k, Fr h₀ L h' m → News h₀ L h' ((D, listOf #[.str a ta, .str b tb, .str c tc] 0) :: news) → (∀ p ∈ news, p.1 < D) → Q (.ref D) { s with heap := h', toks := k }) :
    wpAny (model prog w) A (call (.builtin "str.split") [.str x t, .str y u]) Q E s :=
  KSpl.split1 hF hN hy (fun D l h' k e _ F' N' l1 => by
    rw [hs] at e
    obtain ⟨ta, l2, e1, e2⟩ := KSpl.cons_of e
    obtain ⟨tb, l3, e3, e4⟩ := KSpl.cons_of e2
    obtain ⟨tc, l4, e6, e7⟩ := KSpl.cons_of e4
    have e5 := KSpl.nil_of e7
    subst e5 e6 e3 e1
    exact h D ta tb tc h' k F' N' l1) (by rw [sizeLine_eq]; lia)
theorem gives_find4 (x y : Str) (i j : Int) (t u v v' : Tok) : Gives (Builtin.«str.find» ⟨[.str x t, .str y u, .int i v, .int j v'], []⟩) (.int (match Builtin.Str.occurrences x y (fromIndex x.length i) (min (fromIndex x.length j) x.length) 1 with | k :: _ => (k : Int) | [] => -1)) := by
  show Gives (match Builtin.Str.occurrences x y (fromIndex x.length i) (min (fromIndex x.length j) x.length) 1 with | k :: _ => retInt k | [] => (do rule "str.find.not-found"; retInt (-1))) _
  cases Builtin.Str.occurrences x y (fromIndex x.length i) (min (fromIndex x.length j) x.length) 1 with
  | nil => exact .rule (.of_eq rfl)
  | cons k _ => exact .of_eq rfl
theorem find4 {i : Int} {v v' : Tok} {Q : Value → Shared → Prop} (h : Q (.int (Txt.find3 x y i) s.toks) { s with toks := s.toks + 1 }) : wpAny (model prog w) A (call (.builtin "str.find") [.str x t, .str y u, .int i v, .int (x.length : Int) v']) Q E s := by
  refine call_gives F.slot_str_find (typeIs_str _ _ _) F.entry_str_find (F.args_str_find_4 _ _ _ _) (gives_find4 x y i _ t u v v') ?_
  have e : min (fromIndex x.length (x.length : Int)) x.length = x.length := by unfold fromIndex; lia
  rw [e]
  exact h
theorem find3_nil {i : Int} (h0 : 0 ≤ i) (h1 : i ≤ x.length) : Txt.find3 x ⟨#[]⟩ i = i := by
  unfold Txt.find3
  have e : fromIndex x.length i = i.toNat := by unfold fromIndex; rw [if_neg (by lia)]; lia
  rw [e]
  have hA : StrLaws.At x ⟨#[]⟩ x.length i.toNat := ⟨by show i.toNat + 0 ≤ _; lia, by rw [StrLaws.subAt_eq]; show (List.take 0 _ == []) = true; simp⟩
  rcases StrLaws.occ_head_from x ⟨#[]⟩ i.toNat 1 (Nat.le_refl _) with ⟨_, hn⟩ | ⟨k, r, e2, hk, _, hn⟩
  · exact absurd hA (hn _ (Nat.le_refl _))
  · rw [e2]
    have : k = i.toNat := by
      by_cases hlt : i.toNat < k
      · exact absurd hA (hn _ (Nat.le_refl _) hlt)
      · lia
    show (k : Int) = i
    lia
theorem find_nil {i : Int} {v v' : Tok} {Q : Value → Shared → Prop} (h0 : 0 ≤ i) (h1 : i ≤ x.length) (h : ∀ t' k, Q (.int i t') { s with toks := k }) : wpAny (model prog w) A (call (.builtin "str.find") [.str x t, .str ⟨#[]⟩ u, .int i v, .int (x.length : Int) v']) Q E s :=
  find4 (by rw [find3_nil h0 h1]; exact h _ _)
theorem find_w {v v' : Tok} {Q : Value → Shared → Prop} (h1 : Txt.contains x y = false → ∀ t' k, Q (.int (-1) t') { s with toks := k })
    (h2 : Txt.contains x y = true → ∀ (r : Int), 0 ≤ r → r + y.length ≤ x.length → ∀ t' k, Q (.int r t') { s with toks := k }) : wpAny (model prog w) A (call (.builtin "str.find") [.str x t, .str y u, .int 0 v, .int (x.length : Int) v']) Q E s := by
  refine find4 ?_
  unfold Txt.find3
  unfold Txt.contains at h1 h2
  have e : fromIndex x.length 0 = 0 := by unfold fromIndex; rw [if_neg (by lia)]; lia
  rw [e]
  rcases StrLaws.occ_head_from x y 0 1 (Nat.le_refl _) with ⟨e2, hn⟩ | ⟨k, r, e2, hk, hA, hn⟩
  · rw [e2] at h1 ⊢
    exact h1 rfl _ _
  · rw [e2] at h2 ⊢
    exact h2 rfl (k : Int) (by lia) (by have := hA.1; lia) _ _
end

set_option maxRecDepth 100000 in
set_option maxHeartbeats 4000000 in
theorem d_match1 {w p loose mean mg mb} (x u g : PySem.Str) (ta tb : Tok) (hx : x.length ≤ 40) (hg : g.length ≤ 12) (hu1 : 1 ≤ u.length) (hu2 : u.length ≤ 40) (hc : (Builtin.Str.occurrences x (PySem.Str.ofString "...") 0 x.length 1).isEmpty = false)
    (hs : Txt.split x (PySem.Str.ofString "...") = [u, ⟨#[]⟩]) : PureC w p loose mean mg mb 4 28 [.str x ta, .str g tb] [] (fun _ => .bool (Txt.startswith g u)) := by
  k_with_none
  w_top off
  k_with "mine end" => ((
      (first | refine' cb_retI (by assumption) ?_ (by k_asm) (by first | k_asm | (refine' cb_drop (by assumption) (by kcj_all))) | refine' cb_retB (by assumption) ?_ (by k_asm) (by first | k_asm | (refine' cb_drop (by assumption) (by kcj_all))))))
  k_with "mine enter0" => ((refine' enter0 (by k_asm) (by k_asm) (by k_asm) (by k_asm) (by exact rfl) (by exact rfl) (by assumption) (by k_is) (by k_is) (by first | exact room_le (by with_reducible assumption) (Nat.le_of_ble_eq_true rfl) | exact Nat.lt_of_le_of_lt (Nat.le_add_right _ _) (by with_reducible assumption) | ktr_room) (by exact BindsTo.of_eq rfl) (by exact locs rfl) ?_ (by exact rfl) (by exact rfl) (by exact rfl) (by decide); k_whole; intro g'Zq L'Zq h'Zq FG'Zq F'Zq N'Zq B'Zq X'Zq T'Zq hG'Zq; (try dsimp only); (try k_lift B'Zq); (try k_fold)))
  k_with "call builtin:str.find cons nil" => (first
      | (refine find_nil (by lia) (by lia) ?_; intro _ _)
      | (refine find_w ?_ ?_; intro _ _ _; rotate_left; intro _ _ _ _ _ _))
  k_with "compareOp NotIn str str" => (refine notIn_met (by assumption) ?_)
  k_with "truthy str" => (first | (refine truthy_nil ?_; intro _) | (refine truthy_met (by lia) (by lia) ?_; intro _))
  k_with "call builtin:len cons nil" => (first | (refine len_nil ?_; intro _ _) | ((with_reducible show wpAny _ _ (call (Value.builtin "len") [Value.str _ _]) _ _ _); refine PySem.P.len_str (by lia) ?_))
  k_with "call builtin:str.split cons nil" => ((k_here; first
      | (refine split_two (by assumption) (by k_asm) (by k_asm) (by decide) (by lia) ?_; intro D'Zq ta'Zq tb'Zq h'Zq k'Zq F'Zq N'Zq l1Zq; (try k_lt l1Zq))
      | (refine split_three (by assumption) (by k_asm) (by k_asm) (by decide) (by lia) ?_; intro D'Zq ta'Zq tb'Zq tc'Zq h'Zq k'Zq F'Zq N'Zq l1Zq; (try k_lt l1Zq))))
  refine PureC.intro ?_
  k_fill
  intro dp un gd cn cs aa ccd cl outer A₀ base h₀ L m news s Q E B F X N T hk hd hu hret
  simp only [List.nil_append] at N hret
  refine wpAny_call ?_
  k_dflt walk_at "mine enter0"
  k_steps
  all_goals refine cb_retB hret ?_ (by assumption) (news_kept N (by assumption))
  · have hle := starts_le (x := g) (y := u) (by assumption)
    exact absurd hle (by lia)
  all_goals (symm; assumption)

set_option maxRecDepth 100000 in
set_option maxHeartbeats 4000000 in
theorem d_match2 {w p loose mean mg mb} (x u g : PySem.Str) (ta tb : Tok) (hx : x.length ≤ 40) (hg : g.length ≤ 30) (hu1 : 1 ≤ u.length) (hu2 : u.length ≤ 40) (hc : (Builtin.Str.occurrences x (PySem.Str.ofString "...") 0 x.length 1).isEmpty = false)
    (hs : Txt.split x (PySem.Str.ofString "...") = [⟨#[]⟩, u, ⟨#[]⟩]) : PureC w p loose mean mg mb 4 28 [.str x ta, .str g tb] [] (fun _ => .bool (Txt.contains g u)) := by
  k_with_none
  w_top off
  k_with "mine end" => ((
      (first | refine' cb_retI (by assumption) ?_ (by k_asm) (by first | k_asm | (refine' cb_drop (by assumption) (by kcj_all))) | refine' cb_retB (by assumption) ?_ (by k_asm) (by first | k_asm | (refine' cb_drop (by assumption) (by kcj_all))))))
  k_with "mine enter0" => ((refine' enter0 (by k_asm) (by k_asm) (by k_asm) (by k_asm) (by exact rfl) (by exact rfl) (by assumption) (by k_is) (by k_is) (by first | exact room_le (by with_reducible assumption) (Nat.le_of_ble_eq_true rfl) | exact Nat.lt_of_le_of_lt (Nat.le_add_right _ _) (by with_reducible assumption) | ktr_room) (by exact BindsTo.of_eq rfl) (by exact locs rfl) ?_ (by exact rfl) (by exact rfl) (by exact rfl) (by decide); k_whole; intro g'Zq L'Zq h'Zq FG'Zq F'Zq N'Zq B'Zq X'Zq T'Zq hG'Zq; (try dsimp only); (try k_lift B'Zq); (try k_fold)))
  k_with "call builtin:str.find cons nil" => (first
      | (refine find_nil (by lia) (by lia) ?_; intro _ _)
      | (refine find_w ?_ ?_; intro _ _ _; rotate_left; intro _ _ _ _ _ _))
  k_with "compareOp NotIn str str" => (refine notIn_met (by assumption) ?_)
  k_with "truthy str" => (first | (refine truthy_nil ?_; intro _) | (refine truthy_met (by lia) (by lia) ?_; intro _))
  k_with "call builtin:len cons nil" => (first | (refine len_nil ?_; intro _ _) | ((with_reducible show wpAny _ _ (call (Value.builtin "len") [Value.str _ _]) _ _ _); refine PySem.P.len_str (by lia) ?_))
  k_with "call builtin:str.split cons nil" => ((k_here; first
      | (refine split_two (by assumption) (by k_asm) (by k_asm) (by decide) (by lia) ?_; intro D'Zq ta'Zq tb'Zq h'Zq k'Zq F'Zq N'Zq l1Zq; (try k_lt l1Zq))
      | (refine split_three (by assumption) (by k_asm) (by k_asm) (by decide) (by lia) ?_; intro D'Zq ta'Zq tb'Zq tc'Zq h'Zq k'Zq F'Zq N'Zq l1Zq; (try k_lt l1Zq))))
  refine PureC.intro ?_
  k_fill
  intro dp un gd cn cs aa ccd cl outer A₀ base h₀ L m news s Q E B F X N T hk hd hu hret
  simp only [List.nil_append] at N hret
  refine wpAny_call ?_
  k_dflt walk_at "mine enter0"
  k_steps
  all_goals refine cb_retB hret ?_ (by assumption) (news_kept N (by assumption))
  all_goals (symm; assumption)
end Mine
end

section
open PySem PySem.W PySem.Calls PySem.Spec PyProof PyProof.Rows
namespace Mine


noncomputable def signOf (k : Int) : PySem.Str := Txt.item (PySem.Str.ofString "*+,") (Int.fmod (Int.fmod k 5) 3)


noncomputable def cellsOf (ns : List Int) : List Int := (ns.take 12).map (fun k => Int.fmod k (10 ^ Int.toNat 6)) ++ List.drop (Int.toNat (((ns.take 12).map (fun k => Int.fmod k (10 ^ Int.toNat 6))).length : Nat)) [1, 0, 1, 1, 0, 1, 0]
noncomputable def textOf (ns : List Int) : PySem.Str := Txt.join (PySem.Str.ofString "") ((cellsOf ns).map signOf)


set_option maxRecDepth 100000 in
set_option maxHeartbeats 4000000 in
theorem d_text {w : World} {p : Program} {loose : List Str} {mean : ExcName → Option Value} {mg mb : Str → Option Value} (l : Addr) (vs : List Value) (ns : List Int) (hi : IntsAre vs ns) (hn : ns.length ≤ 63) (dp un : Nat) (gd : Option (List Code)) (cn : Str) (cs : Scope) (aa : Addr) (ccd : Value) (cl : List (Str × Addr)) (outer : List Env) (A₀ : Around) (base h₀ : Heap) (L : Addr) (m : Str → Option Value) (news : List (Addr × Obj)) (s : Shared) (Q E : Value → Shared → Prop)
    (B : Below A₀ base outer h₀) (F : Fr h₀ L s.heap m) (X : (hd.heap_39 w.params).In h₀) (N : News h₀ L s.heap news) (T : Top p loose mean mg mb h₀) (hk : cs.kind = .function)
    (hl : base.IsList l vs.toArray) (hd : dp + 5 < recursionLimit) (hu : un + 8 * 5 + 500 < cLine)
    (hret : ∀ (t : Tok) (h' : Heap) (tk' : Nat), Fr h₀ L h' m → News h₀ L h' news → Q (.str (textOf ns) t) { s with heap := h', toks := tk' }) :
    wpAny (model PySem.Challenge.rw_ti0011_01.row.prog w) (ktrTop dp un gd cn cs L aa ccd cl outer) (call (.ref 50) [.ref l]) Q E s := by
  k_with_none
  w_top off
  k_with "mine enter0" => ((refine' enter0 (by k_asm) (by k_asm) (by k_asm) (by k_asm) (by exact rfl) (by exact rfl) (by assumption) (by k_is) (by k_is) (by first | exact room_le (by with_reducible assumption) (Nat.le_of_ble_eq_true rfl) | exact Nat.lt_of_le_of_lt (Nat.le_add_right _ _) (by with_reducible assumption) | ktr_room) (by exact BindsTo.of_eq rfl) (by exact locs rfl) ?_ (by exact rfl) (by exact rfl) (by exact rfl) (by decide); k_whole; intro g'Zq L'Zq h'Zq FG'Zq F'Zq N'Zq B'Zq X'Zq T'Zq hG'Zq; (try dsimp only); (try k_lift B'Zq); (try k_fold)))
  k_with "CompSrc" => ((k_here; (with_reducible show LCg.CompSrc _ _ _ _ _ _ _ (PySem.Expr.Subscript (PySem.Expr.Constant _ _ _) _ _) _ _ _ _ _ _); k_dflt (refine LCg.CompSrc.ledger (by rfl) (by k_asm) (by k_asm) (by k_mem) (by kcf_size) ?_; intro g'Zq; (refine' kct_list signOf (by first | assumption | l_ints) (fun k'Zq t'Zq I'Zq oI'Zq C'Zq oC'Zq D'Zq m'Zq ys'Zq h'Zq tk'Zq E'Zq hk'Zq hC'Zq hx'Zq F'Zq N'Zq off'Zq ne'Zq hMark'Zq => ?_) ?_); (all_goals (try (simp only [LCg.Off3, and_true] at off'Zq))); kcf_last)))
  k_with "CompEnd str" => ((k_here; (refine LCg.CompEnd.intro (by assumption) (by assumption) _ (fun _ hpZq => hpZq) (by first | assumption | (simp only [LCg.Off3, and_true]; assumption)) (by lcg_src) ?_)))
  k_with "KCtEl" => (exact kct_el rfl rfl rfl)
  k_with "call builtin:str.join cons nil" => ((k_here; (with_reducible rename CarriedAll _ _ => ktCZq); (refine KT.join_1 (by first | is_list | exact News.isList (by k_asm) (by k_mem)) ktCZq (by intro _ _; rfl) (by simp only [List.length_append, List.length_map, List.length_drop, List.length_take, List.length_cons, List.length_nil]; lia) ?_); intro _ _ _))
  revert X
  k_fill
  intro X
  refine wpAny_call ?_
  k_dflt walk_at "mine enter0"
  k_steps
  all_goals refine cb_retS hret ?_ (by assumption) (news_kept N (by assumption))
  all_goals rfl
end Mine
end

section
open PySem PySem.W PySem.Calls PySem.Spec PyProof PyProof.Rows
namespace Mine
theorem sign_one (k : Int) : (signOf k).length = 1 ∧ ∀ c ∈ (signOf k).cps.toList, c = 42 ∨ c = 43 ∨ c = 44 := by
  have h1 : Int.fmod (Int.fmod k 5) 3 = 0 ∨ Int.fmod (Int.fmod k 5) 3 = 1 ∨ Int.fmod (Int.fmod k 5) 3 = 2 := by
    have := Int.fmod_nonneg_of_pos (Int.fmod k 5) (b := 3) (by decide)
    have := Int.fmod_lt_of_pos (Int.fmod k 5) (b := 3) (by decide)
    lia
  unfold signOf
  rcases h1 with h | h | h <;> rw [h] <;> decide
theorem cells_len (ns : List Int) : 7 ≤ (cellsOf ns).length ∧ (cellsOf ns).length ≤ 12 := by
  unfold cellsOf
  simp only [List.length_append, List.length_map, List.length_drop, List.length_take, List.length_cons, List.length_nil]
  lia
theorem text_len (ns : List Int) : (textOf ns).length = (cellsOf ns).length := by
  unfold textOf
  rw [KT.join_ones _ (fun a ha => by obtain ⟨k, _, rfl⟩ := List.mem_map.mp ha; exact (sign_one k).1), List.length_map]
theorem join_mem (l : List PySem.Str) : Txt.join (PySem.Str.ofString "") l = Str.join (PySem.Str.ofString "") l := StrLaws.glued_eq_join _ _
theorem text_in (ns : List Int) : ∀ c ∈ (textOf ns).cps.toList, c = 42 ∨ c = 43 ∨ c = 44 := by
  intro c hc
  unfold textOf at hc
  rw [join_mem, mem_join] at hc
  rcases hc with ⟨t, ht, h⟩ | ⟨_, h⟩
  · obtain ⟨k, _, rfl⟩ := List.mem_map.mp ht
    exact (sign_one k).2 c h
  · exact absurd h List.not_mem_nil
theorem text_len7 (ns : List Int) : 7 ≤ (textOf ns).length := by rw [text_len]; exact (cells_len ns).1
theorem text_len12 (ns : List Int) : (textOf ns).length ≤ 12 := by rw [text_len]; exact (cells_len ns).2
theorem d_text2 {w : World} {p : Program} {loose : List Str} {mean : ExcName → Option Value} {mg mb : Str → Option Value} (l : Addr) (vs : List Value) (ns : List Int) (hi : IntsAre vs ns) (hn : ns.length ≤ 63) (dp un : Nat) (gd : Option (List Code)) (cn : Str) (cs : Scope) (aa : Addr) (ccd : Value) (cl : List (Str × Addr)) (outer : List Env) (A₀ : Around) (base h₀ : Heap) (L : Addr) (m : Str → Option Value) (news : List (Addr × Obj)) (s : Shared) (Q E : Value → Shared → Prop)
    (B : Below A₀ base outer h₀) (F : Fr h₀ L s.heap m) (X : (hd.heap_39 w.params).In h₀) (N : News h₀ L s.heap news) (T : Top p loose mean mg mb h₀) (hk : cs.kind = .function)
    (hl : base.IsList l vs.toArray) (hd : dp + 5 < recursionLimit) (hu : un + 8 * 5 + 500 < cLine)
    (hret : ∀ (x : PySem.Str) (t : Tok) (h' : Heap) (tk' : Nat), 7 ≤ x.length → x.length ≤ 12 → (∀ c ∈ x.cps.toList, c = 42 ∨ c = 43 ∨ c = 44) → Fr h₀ L h' m → News h₀ L h' news → Q (.str x t) { s with heap := h', toks := tk' }) :
    wpAny (model PySem.Challenge.rw_ti0011_01.row.prog w) (ktrTop dp un gd cn cs L aa ccd cl outer) (call (.ref 50) [.ref l]) Q E s :=
  d_text l vs ns hi hn dp un gd cn cs aa ccd cl outer A₀ base h₀ L m news s Q E B F X N T hk hl hd hu fun t h' tk' F' N' => hret _ t h' tk' (text_len7 ns) (text_len12 ns) (text_in ns) F' N'
end Mine
end

section
open PySem PySem.W PySem.Calls PySem.Spec PyProof PyProof.Rows Mine
namespace Mine



noncomputable def wordAt (x : PySem.Str) (q : Int) (k : Int) : PySem.Str := Txt.slice x (some k) (some (k + q))

structure StopLc : Prop where
  mark :: (one : True)
structure StopEn : Prop where
  mark :: (one : True)
set_option maxRecDepth 100000 in
set_option maxHeartbeats 400000 in
theorem d_starts {w p loose mean mg mb} (x : PySem.Str) (q : Int) (ta tb : Tok) (hx : x.length ≤ 12) (hq : 1 ≤ q) (hq2 : 2 * q ≤ x.length) (hdot : ∀ c ∈ x.cps.toList, c ≠ 46) : Does w p loose mean mg mb 6 83 [.str x ta, .int q tb] [] (listOut (startsI x q)) := by
  k_with_none
  w_top off
  k_with "mine enter0C" => ((refine' enter0C (by k_asm) (by k_asm) (by k_asm) (by k_asm) (by exact rfl) (by exact rfl) (by assumption) (by k_is) (by k_is) (by first | exact room_le (by with_reducible assumption) (Nat.le_of_ble_eq_true rfl) | exact Nat.lt_of_le_of_lt (Nat.le_add_right _ _) (by with_reducible assumption) | ktr_room) (by exact BindsTo.of_eq rfl) (by exact rfl) (by decide +kernel) ?_ (by exact rfl) (by exact rfl) (by exact rfl); k_whole; intro g'Zq L'Zq h'Zq tk'Zq cells'Zq FG'Zq F'Zq N'Zq Y'Zq B'Zq X'Zq T'Zq hG'Zq; k_cells Y'Zq; (try simp only [List.cons_append, List.nil_append] at N'Zq); (try dsimp only); (try k_lift B'Zq); (try k_fold)))
  k_with "eval ListComp Name cons" => ((k_here; (with_reducible show wpAny _ _ (eval (PySem.Expr.ListComp _ [⟨PySem.Expr.Tuple _ _ _, _, [_], _⟩] _ _) _) _ _ _); k_dflt (refine ListComp_En (by k_asm) (by with_unfolding_all rfl) (by decide) (by rfl) (by decide) (by rfl) (by rfl) (by decide +kernel) (by decide +kernel) ?_ (by intro _; rfl))))
  k_with "call ref cons nil" => ((k_here; (with_reducible show wpAny _ _ (call (Value.ref 28) [Value.str (_ ++ _ ++ _) _, Value.str _ _]) _ _ _); k_dflt (refine' PureC.use (d_match1 _ _ _ _ _ (by (simp only [Str.length_append, dots_len]; lia)) (by lia) (by (simp only [Str.length_append]; lia)) (by (simp only [Str.length_append]; lia)) (found_one' (app_free (by assumption) (by assumption))) (split_one (app_free (by assumption) (by assumption)))) (by k_asm) (by k_asm) (by k_asm) (by k_asm) (by k_asm) (by first | exact rfl | assumption) (by exact List.forall_mem_nil _) (by first | exact room_le (by with_reducible assumption) (Nat.le_of_ble_eq_true rfl) | exact Nat.lt_of_le_of_lt (Nat.le_add_right _ _) (by with_reducible assumption) | ktr_room) (by first | exact units_le (by with_reducible assumption) (Nat.le_of_ble_eq_true rfl) | ktr_units) ?_; k_whole); intro t'Zq h'Zq tk'Zq F'Zq N'Zq; (try dsimp only); (try k_fold)))
  k_with "CompSrc" => ((k_here; (with_reducible show LCg.CompSrc _ _ _ _ _ _ _ (PySem.Expr.Subscript (PySem.Expr.Name _ _) (PySem.Expr.Slice _ _ _ _) _) _ _ _ _ _ _); k_dflt (refine LCg.CompSrc.range (by rfl) (by k_asm) (by k_asm) (by assumption) (by first | decide | exact small_one (by lia) (by lia) (by lia) (by lia)) (by first | exact rangeSize_nat _ _ | rfl) (by first | (rw [PySem.sizeLine_eq]; lia) | size_fits) ?_; intro g'Zq; (refine' kct_range _ (fun k'Zq t'Zq I'Zq oI'Zq C'Zq oC'Zq D'Zq m'Zq ys'Zq h'Zq tk'Zq E'Zq hlo'Zq hhi'Zq hC'Zq hx'Zq F'Zq N'Zq off'Zq ne'Zq hMark'Zq => ?_) ?_); (all_goals (try (simp only [LCg.Off3, and_true] at off'Zq; obtain ⟨⟨oA, oBZq, oCZq⟩, oD, oE, oF⟩ := off'Zq))); kcf_last)))
  k_with "eval ListComp Name cons" => ((rename StopLc => hS9Zq; refine stop_here ?_))
  k_with "call type:enumerate cons nil" => ((rename StopEn => hS9Zq; refine stop_here ?_))
  unfold Does
  k_fill
  intro dp un gd cn cs aa ccd cl outer A₀ base h₀ L m news s Q E B F X N T hk hd hu hret
  simp only [List.nil_append] at N hret
  refine wpAny_call ?_
  k_dflt walk_at "mine enter0C"
  have hSlc : StopLc := ⟨trivial⟩
  k_steps
  refine stop_out ?_
  rename StopLc => hSlc
  clear hSlc
  k_dflt (refine ListComp_En (by k_asm) (by with_unfolding_all rfl) (by decide) (by rfl) (by decide) (by rfl) (by rfl) (by decide +kernel) (by decide +kernel) ?_ (by intro _; rfl))
  have hSen : StopEn := ⟨trivial⟩
  k_steps
  refine stop_out ?_
  rename StopEn => hSen
  clear hSen
  rename CarriedAll _ _ => hcar
  have hlen := hcar.length_eq
  rw [List.length_map, rangeKs_length] at hlen
  k_dflt (refine en_make (fun i => Txt.startswith (Txt.slice x (some (i : Int)) none) (Txt.slice x (some (i : Int)) (some ((i : Int) + q)) ++ Txt.slice x (some (i : Int)) (some ((i : Int) + q)))) (by rfl) (by k_asm) (by k_asm) (by k_mem) (by rw [PySem.sizeLine_eq, List.size_toArray]; lia) ?turn ?fin)
  case turn =>
    intro i v t C oC m₂ h tk extra E' hlt hv hoC hma hmb F₅ N₅
    obtain ⟨d, hd1, hd2⟩ := carried_at hcar (by simpa using hv)
    have hd3 : d = PyData.str (Txt.slice x (some (i : Int)) (some ((i : Int) + q))) := by
      have hi' : i < ((x.length : Int) - 2 * q + 1 - 0).toNat := by rw [← hlen]; simpa using hlt
      rw [List.getElem?_map] at hd1
      have hr : (rangeKs 0 ((x.length : Int) - 2 * q + 1 - 0).toNat)[i]? = some (i : Int) := by rw [rangeKs_get 0 hi', Int.zero_add]
      rw [hr] at hd1
      have hd1' := Option.some.inj hd1
      dsimp only at hd1'
      rw [if_pos (Txt.slice_le x _ _)] at hd1'
      exact hd1'.symm
    subst hd3
    obtain ⟨tv, rfl⟩ := carried_str hd2
    simp only [List.cons_append, List.nil_append] at N₅ ⊢
    have hi' : i < ((x.length : Int) - 2 * q + 1 - 0).toNat := by rw [← hlen]; simpa using hlt
    have hWl := word_len x (i : Int) q (by lia) (by lia) (by lia)
    have hWf := word_free x (i : Int) q (by lia) (by lia) hdot
    k_steps
    exact ⟨rfl, _, _, rfl, by assumption, by assumption⟩
  case fin =>
    intro D ys' h' tk' F' N' hlt' hys
    k_steps
    rw [List.size_toArray, hlen] at hys
    have kk : ∀ b o, s.heap.get? b = some o → h'.get? b = some o := by assumption
    refine hret _ [(D, LCg.lst ys')] h' tk' (by assumption) (fun p hp => ?_) ?_ ⟨D, ys', rfl, rfl, hys⟩
    · rcases List.mem_cons.mp hp with rfl | hp
      · rename News h₀ L _ _ => kN
        exact kN _ (.head _)
      · exact news_kept N kk p hp
    · intro p hp
      rw [List.mem_singleton.mp hp]
      exact news_apart N (by assumption) N' (.head _)
end Mine
end

section
open PySem PySem.W PySem.Calls PySem.Spec PyProof PyProof.Rows Mine
namespace Mine


section
variable {prog : Program} {w : World} {A : Around} {E : Value → Shared → Prop} {s : Shared} {env : Env} {h₀ : Heap} {x : Str} {body : List Stmt} {Q : Flow → Shared → Prop}
theorem range_loop {r : Addr} {a₀ b₀ : Int} {t₀ u₀ v₀ : Tok} {n : Nat} {m₀ : Str → Option Value} {news : List (Addr × Obj)} (J : Nat → (Str → Option Value) → List (Addr × Obj) → Prop)
    (hh : A.handled = none) (hr : IsRange s.heap r a₀ b₀ 1 t₀ u₀ v₀) (hsmall : Builtin.Range.small a₀ b₀ 1 = true) (hsz : Builtin.Range.rangeSize a₀ b₀ 1 = (n : Int)) (F : Fr h₀ env.locals s.heap m₀) (N : News h₀ env.locals s.heap news) (hj : J 0 m₀ news)
    (turn : ∀ (i : Nat) t m₁ nx h tk own, i < n → OwnOff own (nx.map (·.1)) → J i m₁ nx → Fr h₀ env.locals h (fun y => if y = x then some (.int (a₀ + (i : Int)) t) else m₁ y) → News h₀ env.locals h (nx ++ own) →
      wpAny (model prog w) A (execs body env) (fun f s' => Stop (InvPostG h₀ env.locals (J (i + 1)) own { s with heap := h, toks := tk } Q f s')) E { s with heap := h, toks := tk })
    (done : ∀ m₁ nx h tk, J n m₁ nx → Fr h₀ env.locals h m₁ → News h₀ env.locals h nx → Q .next { s with heap := h, toks := tk }) :
    wpAny (model prog w) A (pyIter (.ref r)) (fun it s₂ => LoopAtV prog w A h₀ env x body Q E it s₂) E s := by
  refine wpAny_pyIter_range hr hsmall ?_
  have W : Walks prog w A s.heap.objs.size [s.heap.objs.size] [s.heap.objs.size] n (fun i v => i < n ∧ ∃ t, v = .int (a₀ + i * 1) t)
      (fun i h => IsRangeIter h s.heap.objs.size (a₀ + (i : Nat) * 1) ((n : Int) - (i : Nat)) 1) := (Walks.range hh _ a₀ 1 n).bound
  refine kdr_loop J W (fun _ h => h) (fun _ h => h) (fun i h hi b hb => ?_) (fun hm => ?_) (fun b hb => ?_) (fun p hp hI => ?_) (by show IsRangeIter _ _ _ _ _; rw [hsz]; simpa using Heap.get?_push_size _ rfl) (F.push _)
    (fun p hp => ⟨Heap.get?_push_of_some _ (N p hp).1, (N p hp).2⟩) hj (fun i v m₁ nx h tk own hi hv hoff hJ F₁ N₁ => ?_) done
  · rw [List.mem_singleton.mp hb]
    exact ⟨_, hi⟩
  · exact absurd F.ns.lt ((List.mem_singleton.mp hm) ▸ Nat.lt_irrefl _)
  · rw [List.mem_singleton.mp hb]
    exact next_is_new F
  · exact absurd (Heap.lt_size (N p hp).1) ((List.mem_singleton.mp hI) ▸ Nat.lt_irrefl _)
  · obtain ⟨_, t, rfl⟩ := hv
    have e : a₀ + (i : Int) * 1 = a₀ + (i : Int) := by rw [Int.mul_one]
    rw [e] at F₁
    exact turn i t m₁ nx h tk own hi hoff hJ F₁ N₁
theorem list_loop {l : Addr} {vs : List Value} {nn : Nat} {m₀ : Str → Option Value} {news : List (Addr × Obj)} (J : Nat → (Str → Option Value) → List (Addr × Obj) → Prop)
    (hh : A.handled = none) (hl : (l, listOf vs.toArray nn) ∈ news) (F : Fr h₀ env.locals s.heap m₀) (N : News h₀ env.locals s.heap news) (hj : J 0 m₀ news)
    (turn : ∀ i v m₁ news₁ h tk own, vs[i]? = some v → OwnOff own (news₁.map (·.1)) → (l, listOf vs.toArray nn) ∈ news₁ → J i m₁ news₁ → Fr h₀ env.locals h (fun y => if y = x then some v else m₁ y) → News h₀ env.locals h (news₁ ++ own) →
      wpAny (model prog w) A (execs body env) (fun f s' => Stop (InvPostG h₀ env.locals (fun m' nx => (l, listOf vs.toArray nn) ∈ nx ∧ J (i + 1) m' nx) own { s with heap := h, toks := tk } Q f s')) E { s with heap := h, toks := tk })
    (done : ∀ m₁ news₁ h tk, J vs.length m₁ news₁ → Fr h₀ env.locals h m₁ → News h₀ env.locals h news₁ → Q .next { s with heap := h, toks := tk }) :
    wpAny (model prog w) A (pyIter (.ref l)) (fun it s₂ => LoopAtV prog w A h₀ env x body Q E it s₂) E s :=
  kdl_iter J hh hl F N hj turn done
end
theorem named2 {m : Str → Option Value} {a b : Str} {u w : Value} (h1 : m a = some u) (h2 : m b = some w) : m = fun z => if z = a then some u else if z = b then some w else m z := by
  funext z
  by_cases ha : z = a
  · rw [if_pos ha, ha, h1]
  · rw [if_neg ha]
    by_cases hb : z = b
    · rw [if_pos hb, hb, h2]
    · rw [if_neg hb]
theorem named4 {m : Str → Option Value} {a b c d : Str} {u w x y : Value} (h1 : m a = some u) (h2 : m b = some w) (h3 : m c = some x) (h4 : m d = some y) : m = fun z => if z = a then some u else if z = b then some w else if z = c then some x else if z = d then some y else m z := by
  funext z
  by_cases ha : z = a
  · rw [if_pos ha, ha, h1]
  · rw [if_neg ha]
    by_cases hb : z = b
    · rw [if_pos hb, hb, h2]
    · rw [if_neg hb]
      by_cases hc : z = c
      · rw [if_pos hc, hc, h3]
      · rw [if_neg hc]
        by_cases hd : z = d
        · rw [if_pos hd, hd, h4]
        · rw [if_neg hd]
theorem rangeKs_succ (a : Int) (n : Nat) : rangeKs a (n + 1) = rangeKs a n ++ [a + (n : Int)] := by simp [rangeKs, List.range_succ]
theorem rangeSize_one (n : Nat) : Builtin.Range.rangeSize 1 ((n : Int) + 1) 1 = (n : Int) := by
  rw [rangeSize_nat]; lia
def toldOut (x : PySem.Str) (v : Value) (tl : List (Addr × Obj)) : Prop := ∃ R vs k tl', v = .ref R ∧ tl = (R, listOf vs.toArray k) :: tl' ∧ OwnOff tl' [R] ∧ vs.length ≤ 72 ∧ TupsAre tl' vs (told x)
/-- outer loop: after `i` steps -/
def JO (x : PySem.Str) (ta : Tok) (i : Nat) (m : Str → Option Value) (nx : List (Addr × Obj)) : Prop :=
  ∃ R vs k tl, m (PySem.Str.ofString "text") = some (.str x ta) ∧ m (PySem.Str.ofString "runs") = some (.ref R) ∧ nx = (R, listOf vs.toArray k) :: tl ∧ OwnOff tl [R] ∧ vs.length ≤ 12 * i ∧ TupsAre tl vs ((rangeKs 1 i).flatMap (toldStep x))
/-- inner loop: after `j` of the starts -/
def JI (x : PySem.Str) (ta : Tok) (R S : Addr) (ys : List Value) (base : List (Int × Int × Int)) (old fix : List (Addr × Obj)) (c : Nat) (q : Int) (tq : Tok) (j : Nat) (m : Str → Option Value) (nx : List (Addr × Obj)) : Prop :=
  ∃ vs k new, m (PySem.Str.ofString "text") = some (.str x ta) ∧ m (PySem.Str.ofString "runs") = some (.ref R) ∧ m (PySem.Str.ofString "step") = some (.int q tq) ∧ m (PySem.Str.ofString "starts") = some (.ref S) ∧
    nx = (R, listOf vs.toArray k) :: (S, LCg.lst ys) :: (new ++ fix) ∧ OwnOff (new ++ fix) [R, S] ∧ vs.length ≤ c + j ∧ TupsAre (new ++ old) vs (base ++ ((startsI x q).take j).flatMap (toldAt x q (startsI x q))) ∧ OwnOff fix (new.map (·.1))

theorem any_mem {S : List Int} {k : Int} : (S.any (· == k)) = true ↔ k ∈ S := by simp
theorem any_not {S : List Int} {k : Int} : (S.any (· == k)) = false ↔ ¬ k ∈ S := by
  constructor
  · intro h hk
    rw [any_mem.mpr hk] at h
    cases h
  · intro h
    cases q : S.any (· == k) with
    | false => rfl
    | true => exact absurd (any_mem.mp q) h
theorem last_go {x : PySem.Str} {q l p X : Int} (h0 : 1 ≤ q) (h1 : p ≤ l) (h2 : l + 2 * q ≤ x.length) (h3 : lastI (startsI x q) ((x.length : Int) - l).toNat l = X) (h4 : ((startsI x q).any (· == l + 1)) = true) :
    p ≤ l + 1 ∧ l + 1 + 2 * q ≤ x.length ∧ lastI (startsI x q) ((x.length : Int) - (l + 1)).toNat (l + 1) = X := by
  have hm := any_mem.mp h4
  have hb := startsI_bounds hm
  refine ⟨by lia, by lia, ?_⟩
  rw [lastI_step (by lia) hm, h3]
theorem take_one {S : List Int} {j : Nat} {p : Int} (h : S[j]? = some p) : S.take (j + 1) = S.take j ++ [p] := by
  rw [List.take_add_one, h]; rfl
theorem told_grow {x : PySem.Str} {q : Int} {S : List Int} {j : Nat} {p : Int} {base t : List (Int × Int × Int)} (h : S[j]? = some p) (ht : toldAt x q S p = t) : base ++ (S.take (j + 1)).flatMap (toldAt x q S) = (base ++ (S.take j).flatMap (toldAt x q S)) ++ t := by
  rw [take_one h, List.flatMap_append, List.flatMap_cons, List.flatMap_nil, List.append_nil, ht, List.append_assoc]
theorem toldAt_in {x : PySem.Str} {q : Int} {S : List Int} {p : Int} (h : (S.any (· == p - 1)) = true) : toldAt x q S p = [] := by
  unfold toldAt; rw [if_neg]; intro ⟨a, _⟩; exact a (any_mem.mp h)
theorem toldAt_has {x : PySem.Str} {q : Int} {S : List Int} {p : Int} (h : Txt.contains (midOf (wordOf x q p ++ wordOf x q p)) (wordOf x q p) = true) : toldAt x q S p = [] := by
  unfold toldAt; rw [if_neg]; intro ⟨_, a⟩; rw [h] at a; cases a
theorem toldAt_go {x : PySem.Str} {q l : Int} {S : List Int} {p : Int} (h1 : (S.any (· == p - 1)) = false) (h2 : Txt.contains (midOf (wordOf x q p ++ wordOf x q p)) (wordOf x q p) = false)
    (h3 : lastI S ((x.length : Int) - l).toNat l = lastI S ((x.length : Int) - p).toNat p) (h4 : (S.any (· == l + 1)) = false) : toldAt x q S p = [(p, l + 2 * q, q)] := by
  unfold toldAt; rw [if_pos ⟨any_not.mp h1, h2⟩, ← h3, lastI_stop (any_not.mp h4)]
theorem JI_skip {x : PySem.Str} {ta tq : Tok} {R S : Addr} {ys vs : List Value} {base : List (Int × Int × Int)} {old fix new : List (Addr × Obj)} {c k j : Nat} {q p : Int} {m : Str → Option Value}
    (h1 : m (PySem.Str.ofString "text") = some (.str x ta)) (h2 : m (PySem.Str.ofString "runs") = some (.ref R)) (h3 : m (PySem.Str.ofString "step") = some (.int q tq)) (h4 : m (PySem.Str.ofString "starts") = some (.ref S))
    (ho : OwnOff (new ++ fix) [R, S]) (hl : vs.length ≤ c + j) (ht : TupsAre (new ++ old) vs (base ++ ((startsI x q).take j).flatMap (toldAt x q (startsI x q)))) (hp : (startsI x q)[j]? = some p) (he : toldAt x q (startsI x q) p = []) (hf : OwnOff fix (new.map (·.1))) :
    JI x ta R S ys base old fix c q tq (j + 1) m ((R, listOf vs.toArray k) :: (S, LCg.lst ys) :: (new ++ fix)) :=
  ⟨vs, k, new, h1, h2, h3, h4, rfl, ho, by lia, by rw [told_grow hp he, List.append_nil]; exact ht, hf⟩
theorem JI_push {x : PySem.Str} {ta tq t1 t2 t3 : Tok} {R S D : Addr} {ys vs : List Value} {base : List (Int × Int × Int)} {old fix new : List (Addr × Obj)} {c k j : Nat} {q p b : Int} {m : Str → Option Value}
    (h1 : m (PySem.Str.ofString "text") = some (.str x ta)) (h2 : m (PySem.Str.ofString "runs") = some (.ref R)) (h3 : m (PySem.Str.ofString "step") = some (.int q tq)) (h4 : m (PySem.Str.ofString "starts") = some (.ref S))
    (hR : R < D) (hS : S < D)
    (ho : OwnOff (new ++ fix) [R, S]) (hl : vs.length ≤ c + j) (ht : TupsAre (new ++ old) vs (base ++ ((startsI x q).take j).flatMap (toldAt x q (startsI x q)))) (hp : (startsI x q)[j]? = some p) (he : toldAt x q (startsI x q) p = [(p, b, q)]) (hf : OwnOff fix (D :: new.map (·.1))) :
    JI x ta R S ys base old fix c q tq (j + 1) m ((R, listOf (vs.toArray.push (.ref D)) k) :: (S, LCg.lst ys) :: ((D, tup3 p b q t1 t2 t3) :: new ++ fix)) := by
  refine ⟨vs ++ [.ref D], k, (D, tup3 p b q t1 t2 t3) :: new, h1, h2, h3, h4, by rw [List.push_toArray], ?_, by rw [List.length_append, List.length_singleton]; lia, ?_, hf⟩
  · intro z hz
    rcases List.mem_cons.mp hz with rfl | hz
    · intro a ha
      rcases List.mem_cons.mp ha with rfl | ha
      · exact fun e => Nat.lt_irrefl _ (e ▸ hR)
      · rw [List.mem_singleton.mp ha]
        exact fun e => Nat.lt_irrefl _ (e ▸ hS)
    · exact ho z hz
  · rw [told_grow hp he]
    exact TupsAre.snoc (.head _) (ht.mono fun _ h => .tail _ h)
theorem own_lt {own rest : List (Addr × Obj)} {D : Addr} {as : List Addr} (h : OwnOff own as) (hl : AllLt D rest) (hs : ∀ p ∈ own, p ∈ rest) : OwnOff own (D :: as) := by
  intro p hp b hb
  rcases List.mem_cons.mp hb with rfl | hb
  · exact fun e => Nat.lt_irrefl p.1 (by have := kst_ltOf hl p (hs p hp); rw [e]; rw [e] at this; exact this)
  · exact h p hp b hb
theorem tell_push {x : PySem.Str} {ta tq t1 t2 t3 : Tok} {g h : Heap} {L R S D : Addr} {ys vs : List Value} {base : List (Int × Int × Int)} {old fix new own : List (Addr × Obj)} {c k k₂ j : Nat} {q p b : Int} {m : Str → Option Value} {s₁ : Shared} {tk : Nat}
    (F : Fr g L h m) (N : News g L h ((D, tup3 p b q t1 t2 t3) :: (R, listOf (vs.toArray.push (.ref D)) k) :: (S, LCg.lst ys) :: (new ++ fix ++ own)))
    (h1 : m (PySem.Str.ofString "text") = some (.str x ta)) (h2 : m (PySem.Str.ofString "runs") = some (.ref R)) (h3 : m (PySem.Str.ofString "step") = some (.int q tq)) (h4 : m (PySem.Str.ofString "starts") = some (.ref S))
    (hlt : R < D ∧ S < D ∧ AllLt D (new ++ fix ++ own))
    (ho : OwnOff (new ++ fix) [R, S]) (hl : vs.length ≤ c + j) (ht : TupsAre (new ++ old) vs (base ++ ((startsI x q).take j).flatMap (toldAt x q (startsI x q)))) (hp : (startsI x q)[j]? = some p) (he : toldAt x q (startsI x q) p = [(p, b, q)])
    (hoff : OwnOff own (((R, listOf vs.toArray k₂) :: (S, LCg.lst ys) :: (new ++ fix)).map (·.1))) (hf : OwnOff fix (new.map (·.1))) :
    InvEndG g L (fun m' nx => (S, listOf ys.toArray ys.length) ∈ nx ∧ JI x ta R S ys base old fix c q tq (j + 1) m' nx) own s₁ { s₁ with heap := h, toks := tk } := by
  refine InvEndG.intro F N (nx := (R, listOf (vs.toArray.push (.ref D)) k) :: (S, LCg.lst ys) :: ((D, tup3 p b q t1 t2 t3) :: new ++ fix)) ⟨.tail _ (.head _), JI_push h1 h2 h3 h4 hlt.1 hlt.2.1 ho hl ht hp he (own_lt hf hlt.2.2 fun p hp => List.mem_append.mpr (.inl (List.mem_append.mpr (.inr hp))))⟩ ?_ ?_ ?_
  · have hD := own_lt hoff hlt.2.2 fun p hp => List.mem_append.mpr (.inr hp)
    intro z hz a ha
    refine hD z hz a ?_
    simp only [List.map_cons, List.cons_append, List.mem_cons] at ha ⊢
    grind
  · simp only [List.mem_cons, List.mem_append, List.cons_append]; grind
  · simp only [List.mem_cons, List.mem_append]; grind
set_option maxRecDepth 100000 in
set_option maxHeartbeats 1000000 in
theorem d_told {w p loose mean mg mb} (x : PySem.Str) (ta : Tok) (hx : x.length ≤ 12) (hdot : ∀ c ∈ x.cps.toList, c ≠ 46) : Does w p loose mean mg mb 8 90 [.str x ta] [] (toldOut x) := by
  k_with_none
  w_top off
  k_with "mine enter0" => ((refine' enter0 (by k_asm) (by k_asm) (by k_asm) (by k_asm) (by exact rfl) (by exact rfl) (by assumption) (by k_is) (by k_is) (by first | exact room_le (by with_reducible assumption) (Nat.le_of_ble_eq_true rfl) | exact Nat.lt_of_le_of_lt (Nat.le_add_right _ _) (by with_reducible assumption) | ktr_room) (by exact BindsTo.of_eq rfl) (by exact locs rfl) ?_ (by exact rfl) (by exact rfl) (by exact rfl) (by decide); k_whole; intro g'Zq L'Zq h'Zq FG'Zq F'Zq N'Zq B'Zq X'Zq T'Zq hG'Zq; (try dsimp only); (try k_lift B'Zq); (try k_fold)))
  k_with "exec For Name Call cons nil" => ((rename StopFor => hS9Zq; refine stop_here ?_))
  k_with "exec For Name Name cons nil" => ((rename StopFor => hS9Zq; refine stop_here ?_))
  k_with "pyIter ref" => ((rename StopIter => hS9Zq; refine stop_here ?_))
  k_with "call ref cons nil" => ((rename StopCall => hS9Zq; refine stop_here ?_))
  k_with "eval ListComp Name cons" => ((rename StopComp => hS9Zq; refine stop_here ?_))
  k_with "call builtin:list.append cons nil" => ((k_here; k_dflt (refine' append_K (by k_asm) (by k_asm) (by k_upd) ?_ (by (rw [PySem.sizeLine_eq, List.size_toArray]; lia)); k_whole); intro h'Zq F'Zq N'Zq; (try k_sweep)))
  k_with "call ref cons nil" => ((k_here; (with_reducible show wpAny _ _ (call (Value.ref 28) [Value.str (_ ++ _ ++ _) _, Value.str _ _]) _ _ _); k_dflt (refine' PureC.use (d_match2 _ _ _ _ _ (by (simp only [Str.length_append, dots_len]; lia)) (by lia) (by lia) (by lia) (found_two' (by assumption) (by lia)) (split_two' (by assumption) (by lia))) (by k_asm) (by k_asm) (by k_asm) (by k_asm) (by k_asm) (by first | exact rfl | assumption) (by exact List.forall_mem_nil _) (by first | exact room_le (by with_reducible assumption) (Nat.le_of_ble_eq_true rfl) | exact Nat.lt_of_le_of_lt (Nat.le_add_right _ _) (by with_reducible assumption) | ktr_room) (by first | exact units_le (by with_reducible assumption) (Nat.le_of_ble_eq_true rfl) | ktr_units) ?_; k_whole); intro t'Zq h'Zq tk'Zq F'Zq N'Zq; (try dsimp only); (try k_fold)))
  unfold Does
  k_fill
  intro dp un gd cn cs aa ccd cl outer A₀ base h₀ L m news s Q E B F X N T hk hd hu hret
  simp only [List.nil_append] at N hret
  refine wpAny_call ?_
  k_dflt walk_at "mine enter0"
  have hS1 : StopFor := ⟨trivial⟩
  have hS2 : StopIter := ⟨trivial⟩
  k_steps
  refine stop_out ?_
  with_unfolding_all refine' For_invVF (by k_asm) ?k1 ?k2 ?_; (case k1 => exact rfl); (case k2 => exact rfl)
  k_steps
  refine stop_out ?_
  rename IsRange _ _ _ _ _ _ _ _ => hr
  have hdiv : Int.fdiv (x.length : Int) 2 = ((x.length / 2 : Nat) : Int) := by rw [Int.fdiv_eq_ediv_of_nonneg _ (by lia)]; lia
  rw [hdiv] at hr
  refine range_loop (JO x ta) (by rfl) hr (small_one (by lia) (by lia) (by lia) (by lia)) (n := x.length / 2) (rangeSize_one _) (by k_asm) (by k_asm) ⟨_, [], 0, [], by with_unfolding_all rfl, by with_unfolding_all rfl, rfl, fun _ h => (nomatch h), Nat.zero_le _, .nil⟩ ?turn ?done
  case turn =>
    intro i t m₁ nx h tk own hi hoff hJ F₁ N₁
    obtain ⟨R, vs, k, tl, hm1, hm2, rfl, htl, hvl, hts⟩ := hJ
    rw [named2 hm1 hm2] at F₁
    simp only [List.cons_append] at N₁
    have hS3 : StopCall := ⟨trivial⟩
    k_steps
    refine stop_out ?_
    rename StopCall => hS3
    clear hS3
    k_dflt (refine Does.use (d_starts x _ _ _ hx ?q1 ?q2 hdot) (by k_asm) (by k_asm) (by k_asm) (by k_asm) (by k_asm) (by first | exact rfl | assumption) (List.forall_mem_nil _) (by first | exact room_le (by with_reducible assumption) (Nat.le_of_ble_eq_true rfl) | exact Nat.lt_of_le_of_lt (Nat.le_add_right _ _) (by with_reducible assumption) | ktr_room) (by first | exact units_le (by with_reducible assumption) (Nat.le_of_ble_eq_true rfl) | ktr_units) ?_)
    case q1 => lia
    case q2 => lia
    intro v tl' h' tk' F₂ N₂ hap ho
    obtain ⟨S, ys, rfl, rfl, hys⟩ := ho
    simp only [List.cons_append, List.nil_append] at N₂
    have hRS : @Ne Nat R S := hap _ (.head _) _ (.head _)
    (try dsimp only); (try k_fold)
    k_steps
    refine stop_out ?_
    with_unfolding_all refine' For_invVF (by k_asm) ?k1 ?k2 ?_; (case k1 => exact rfl); (case k2 => exact rfl)
    k_steps
    refine stop_out ?_
    rename Fr _ _ _ _ => F₃
    rename News _ _ _ _ => N₃
    have hfix : OwnOff (tl ++ own) [R, S] := by
      intro p hp b hb
      rcases List.mem_cons.mp hb with rfl | hb
      · rcases List.mem_append.mp hp with hp | hp
        · exact htl p hp _ (.head _)
        · exact hoff p hp _ (.head _)
      · rw [List.mem_singleton.mp hb]
        exact hap _ (.head _) p (.tail _ hp)
    refine list_loop (vs := ys) (nn := ys.length) (news := (R, listOf vs.toArray k) :: (S, LCg.lst ys) :: ([] ++ (tl ++ own))) (JI x ta R S ys ((rangeKs 1 i).flatMap (toldStep x)) tl (tl ++ own) (12 * i) (1 + (i : Int)) t) (by rfl) (.tail _ (.head _)) F₃
      (fun p hp => N₃ p (by
        rcases List.mem_cons.mp hp with rfl | hp
        · exact .tail _ (.head _)
        · rcases List.mem_cons.mp hp with rfl | hp
          · exact .head _
          · exact .tail _ (.tail _ hp)))
      ⟨vs, k, [], by with_unfolding_all rfl, by with_unfolding_all rfl, by with_unfolding_all rfl, by with_unfolding_all rfl, rfl, hfix, by lia, by simpa using hts, fun _ _ _ h => (nomatch h)⟩ ?turnI ?doneI
    case turnI =>
      intro j v m₂ nx₂ h₂ tk₂ own₂ hv hoff₂ hmem₂ hJ₂ F₄ N₄
      obtain ⟨vs₂, k₂, new, hn1, hn2, hn3, hn4, rfl, hoffR, hvl₂, hts₂, hfn⟩ := hJ₂
      obtain ⟨p, tp, rfl, hpj⟩ := IntsAre.at hys j v hv
      rw [named4 hn1 hn2 hn3 hn4] at F₄
      simp only [List.cons_append] at N₄
      have hpm : p ∈ startsI x (1 + (i : Int)) := List.mem_of_getElem? hpj
      have hpb := startsI_bounds hpm
      have hj : j < x.length := Nat.lt_of_lt_of_le (List.getElem?_eq_some_iff.mp hpj).1 (startsI_len x _ (by lia))
      have hWl := word_len x p (1 + (i : Int)) (by lia) (by lia) (by lia)
      have hWf := word_free x p (1 + (i : Int)) (by lia) (by lia) hdot
      have hall : OwnOff (new ++ (tl ++ own) ++ own₂) [R, S] := by
        intro q hq b hb
        rcases List.mem_append.mp hq with hq | hq
        · exact hoffR q hq b hb
        · refine hoff₂ q hq b ?_
          rcases List.mem_cons.mp hb with rfl | hb
          · exact .head _
          · rw [List.mem_singleton.mp hb]; exact .tail _ (.head _)
      generalize hrest : new ++ (tl ++ own) ++ own₂ = rest at N₄ hall
      have hMk : KstMark := kstMark
      k_with "exec While Compare cons nil" => k_while (fun _ l => p ≤ l ∧ l + 2 * (1 + (i : Int)) ≤ x.length ∧ lastI (startsI x (1 + (i : Int))) ((x.length : Int) - l).toNat l = lastI (startsI x (1 + (i : Int))) ((x.length : Int) - p).toNat p) (fun _ l => ((x.length : Int) - l).toNat) "last"
      k_with "measure" => first | exact toNat_up (by with_reducible assumption) | exact toNat_down (by with_reducible assumption) | exact toNat_up (by lia)
      k_with "state" => first | exact last_go (by lia) (by assumption) (by assumption) (by assumption) (by assumption) | exact ⟨Int.le_refl _, by lia, rfl⟩
      k_steps
      · refine stop_out ?_
        subst hrest
        refine InvEndG.intro F₄ N₄ (nx := (R, listOf vs₂.toArray k₂) :: (S, LCg.lst ys) :: (new ++ (tl ++ own))) ⟨.tail _ (.head _), ?_⟩ hoff₂ (by simp only [List.mem_cons, List.mem_append]; grind) (by simp only [List.mem_cons, List.mem_append]; grind)
        refine JI_skip (by with_unfolding_all rfl) (by with_unfolding_all rfl) (by with_unfolding_all rfl) (by with_unfolding_all rfl) hoffR hvl₂ hts₂ hpj (toldAt_in (by assumption)) hfn
      · refine stop_out ?_
        subst hrest
        rename Fr _ _ _ _ => F₅
        rename News _ _ _ _ => N₅
        refine InvEndG.intro F₅ N₅ (nx := (R, listOf vs₂.toArray k₂) :: (S, LCg.lst ys) :: (new ++ (tl ++ own))) ⟨.tail _ (.head _), ?_⟩ hoff₂ (by simp only [List.mem_cons, List.mem_append]; grind) (by simp only [List.mem_cons, List.mem_append]; grind)
        refine JI_skip (by with_unfolding_all rfl) (by with_unfolding_all rfl) (by with_unfolding_all rfl) (by with_unfolding_all rfl) hoffR hvl₂ hts₂ hpj (toldAt_has (by assumption)) hfn
      · refine stop_out ?_
        subst hrest
        rename Fr _ _ _ _ => F₅
        rename News _ _ _ _ => N₅
        rename _ ∧ _ ∧ AllLt _ _ => hlt
        have hr' := toldAt_go (by assumption) (by assumption) (by assumption) (by assumption)
        exact tell_push F₅ N₅ (by with_unfolding_all rfl) (by with_unfolding_all rfl) (by with_unfolding_all rfl) (by with_unfolding_all rfl) hlt hoffR hvl₂ hts₂ hpj hr' hoff₂ hfn
    case doneI =>
      intro m₂ nx₂ h₂ tk₂ hJ₂ F₄ N₄
      obtain ⟨vs₂, k₂, new, hn1, hn2, hn3, hn4, rfl, hoffR, hvl₂, hts₂, hfn⟩ := hJ₂
      k_steps
      refine stop_out ?_
      refine InvEndG.intro F₄ N₄ (nx := (R, listOf vs₂.toArray k₂) :: (new ++ tl)) ⟨R, vs₂, k₂, new ++ tl, hn1, hn2, rfl, ?_, ?_, ?_⟩ ?_ ?_ ?_
      · intro p hp b hb
        refine hoffR p ?_ b ?_
        · simp only [List.mem_append] at hp ⊢; grind
        · rw [List.mem_singleton.mp hb]; exact .head _
      · have := IntsAre.length hys
        have := startsI_len x (1 + (i : Int)) (by lia)
        lia
      · rw [IntsAre.length hys, List.take_length] at hts₂
        rw [rangeKs_succ, List.flatMap_append, List.flatMap_singleton]
        exact hts₂
      · intro z hz a ha
        have h1 := hoff z hz a
        have h2 := hfn z (List.mem_append.mpr (.inr hz)) a
        simp only [List.map_cons, List.map_append, List.mem_cons, List.mem_append] at ha h1 h2
        grind
      · simp only [List.mem_cons, List.mem_append]; grind
      · simp only [List.mem_cons, List.mem_append]; grind
  case done =>
    intro m₁ nx h tk hJ F₁ N₁
    obtain ⟨R, vs, k, tl, hm1, hm2, rfl, htl, hvl, hts⟩ := hJ
    have F₂ := fr_named F₁ hm2
    k_steps
    have kk : ∀ b o, s.heap.get? b = some o → h.get? b = some o := by assumption
    refine hret _ ((R, listOf vs.toArray k) :: tl) h tk (by assumption) (fun p hp => ?_) ?_ ⟨R, vs, k, tl, rfl, rfl, htl, by lia, hts⟩
    · rcases List.mem_append.mp hp with hp | hp
      · rename News h₀ L _ _ => kN
        exact kN _ hp
      · exact news_kept N kk p hp
    · intro p hp
      exact news_apart N (by assumption) N₁ hp
end Mine
end

section
open PySem PySem.W PySem.Calls PySem.Spec PyProof PyProof.Rows
namespace Mine
noncomputable def numOf (c : Nat) : Int := if c = 42 then 16 else if c = 43 then 14 else 12
noncomputable def numsOf (x : PySem.Str) : List Int := x.cps.toList.map numOf
noncomputable def runAt (x : PySem.Str) (i e : Nat) : Int × Int × Int := ((beginOf x.cps.toList i (e - i) : Int), (stopOf x.cps.toList i (e - i) : Int), (e : Int) - (i : Int))
noncomputable def counts (i : Nat) (r : Int × Int × Int) : Bool := decide (r.1 < (i : Int)) && decide (2 * r.2.2 ≤ r.2.1 - r.1)
noncomputable def hereAt (x : PySem.Str) (i : Nat) : List (Int × Int × Int) := [runAt x i (endOf x.cps.toList i), runAt x i (endOf (numsOf x) i)].filter (counts i)
noncomputable def foundTo (x : PySem.Str) : Nat → List (Int × Int × Int)
  | 0 => []
  | i + 1 => foundTo x i ++ ((hereAt x (1 + i)).take 1).filter fun r => decide (r ∉ foundTo x i)
theorem foundTo_len (x : PySem.Str) : ∀ i, (foundTo x i).length ≤ i
  | 0 => Nat.le_refl _
  | i + 1 => by
    have h1 := foundTo_len x i
    have h2 := List.length_filter_le (fun r => decide (r ∉ foundTo x i)) ((hereAt x (1 + i)).take 1)
    have h3 := List.length_take_le 1 (hereAt x (1 + i))
    show (foundTo x i ++ _).length ≤ _
    rw [List.length_append]; omega
end Mine
end

section
open PySem PySem.W PySem.Calls PySem.Spec PyProof PyProof.Rows
namespace Mine

/-- tail i comes ahead of tail j: at the first place at which they part it has the smaller number -/
def Lx (F : Nat → Int) (i j : Nat) : Prop := ∃ k, (∀ m, m < k → F (i + m) = F (j + m)) ∧ F (i + k) < F (j + k)

theorem Lx.irrefl {F : Nat → Int} {i : Nat} : ¬ Lx F i i := fun ⟨_, _, h⟩ => Int.lt_irrefl _ h
theorem Lx.trans {F : Nat → Int} {i j k : Nat} (h1 : Lx F i j) (h2 : Lx F j k) : Lx F i k := by
  obtain ⟨a, ha, la⟩ := h1
  obtain ⟨b, hb, lb⟩ := h2
  rcases Nat.lt_trichotomy a b with h | h | h
  · refine ⟨a, fun m hm => (ha m hm).trans (hb m (by (with_reducible exact Nat.lt_trans ‹_› ‹_›))), ?_⟩
    have := hb a h
    (exact lt_of_lt_of_eq la (hb a h))
  · subst h
    exact ⟨a, fun m hm => (ha m hm).trans (hb m hm), Int.lt_trans la lb⟩
  · refine ⟨b, fun m hm => (ha m (by (with_reducible exact Nat.lt_trans ‹_› ‹_›))).trans (hb m hm), ?_⟩
    have := ha b h
    (exact lt_of_eq_of_lt (ha b h) lb)
theorem Lx.shift {F : Nat → Int} {i j c : Nat} (h : ∀ m, m < c → F (i + m) = F (j + m)) (l : Lx F i j) : Lx F (i + c) (j + c) := by
  obtain ⟨k, hk, lk⟩ := l
  have hck : c ≤ k := by
    rcases Nat.lt_or_ge k c with h' | h'
    · have := h k h'
      lia
    · exact h'
  refine ⟨k - c, fun m hm => ?_, ?_⟩
  · have := hk (c + m) (by (exact Nat.add_lt_of_lt_sub' hm))
    rw [Nat.add_assoc, Nat.add_assoc]
    exact this
  · rw [show i + c + (k - c) = i + k by (grind -ring -linarith only), show j + c + (k - c) = j + k by lia]
    exact lk
theorem first_diff {F G : Nat → Int} : ∀ m, F m ≠ G m → ∃ k, (∀ j, j < k → F j = G j) ∧ F k ≠ G k := by
  intro m
  induction m using Nat.strongRecOn with
  | ind m ih =>
    intro h
    by_cases h2 : ∃ j, j < m ∧ F j ≠ G j
    · obtain ⟨j, hj, hn⟩ := h2
      exact ih j hj hn
    · exact ⟨m, fun j hj => Classical.byContradiction fun hn => h2 ⟨j, hj, hn⟩, h⟩
theorem Lx.total {F : Nat → Int} {i j m : Nat} (h : F (i + m) ≠ F (j + m)) : Lx F i j ∨ Lx F j i := by
  obtain ⟨k, h1, h2⟩ := first_diff (F := fun m => F (i + m)) (G := fun m => F (j + m)) m h
  rcases Int.lt_or_lt_of_ne h2 with h3 | h3
  · exact .inl ⟨k, h1, h3⟩
  · exact .inr ⟨k, fun m hm => (h1 m hm).symm, h3⟩

/-- a text of n signs -/
structure Tx (F : Nat → Int) (n : Nat) : Prop where
  pos : ∀ k, k < n → 0 < F k
  zero : ∀ k, n ≤ k → F k = 0
/-- two orders, contrary at unlike signs -/
structure Contrary (F G : Nat → Int) (n : Nat) : Prop where
  f : Tx F n
  g : Tx G n
  same : ∀ k l, F k = F l ↔ G k = G l
  less : ∀ k l, k < n → l < n → (F k < F l ↔ G l < G k)
theorem Contrary.symm {F G : Nat → Int} {n : Nat} (h : Contrary F G n) : Contrary G F n := ⟨h.g, h.f, fun k l => (h.same k l).symm, fun k l hk hl => (h.less l k hl hk).symm⟩

/-- the step from i goes to e -/
structure IsEnd (F : Nat → Int) (n i e : Nat) : Prop where
  gt : i < e
  le : e ≤ n
  bet : ∀ j, i < j → j < e → Lx F i j
  stop : ¬ Lx F i e
theorem IsEnd.uniq {F : Nat → Int} {n i e e' : Nat} (h : IsEnd F n i e) (h' : IsEnd F n i e') : e = e' := by
  rcases Nat.lt_trichotomy e e' with q | q | q
  · exact absurd (h'.bet e h.gt q) h.stop
  · exact q
  · exact absurd (h.bet e' h'.gt q) h'.stop
theorem IsEnd.last_ne {F : Nat → Int} {n i e : Nat} (h : IsEnd F n i e) (h2 : i + 2 ≤ e) : F (e - 1) ≠ F i := by
  intro hq
  have l1 : Lx F i (e - 1) := h.bet _ (by (exact Nat.lt_sub_of_add_lt h2)) (by (exact Nat.sub_one_lt_of_lt h2))
  have l2 : Lx F (i + 1) (e - 1 + 1) := l1.shift fun m hm => by
    obtain rfl : m = 0 := by lia
    exact hq.symm
  rw [show e - 1 + 1 = e by lia] at l2
  exact h.stop ((h.bet (i + 1) (by (with_reducible exact Nat.lt_succ_self _)) (by (with_reducible exact Nat.lt_of_succ_le ‹_›))).trans l2)
theorem ends_one {F G : Nat → Int} {n i e e' : Nat} (C : Contrary F G n) (h : IsEnd F n i e) (h' : IsEnd G n i e') : e = i + 1 ∨ e' = i + 1 := by
  have g1 := h.gt
  have g2 := h'.gt
  have l1 := h.le
  refine Classical.byContradiction fun hn => ?_
  obtain ⟨k, hk, lk⟩ := h.bet (i + 1) (by lia) (by lia)
  obtain ⟨k', hk', lk'⟩ := h'.bet (i + 1) (by lia) (by lia)
  have e1 : k = k' := by
    rcases Nat.lt_trichotomy k k' with q | q | q
    · have := (C.same _ _).mpr (hk' k q)
      lia
    · exact q
    · have := (C.same _ _).mp (hk k' q)
      lia
  subst e1
  by_cases hl : i + 1 + k < n
  · have := (C.less (i + k) (i + 1 + k) (by lia) hl).mp lk
    lia
  · have e1 := C.f.zero (i + 1 + k) (by (with_reducible exact Nat.le_of_not_lt ‹_›))
    by_cases hl2 : i + k < n
    · have := C.f.pos _ hl2
      lia
    · have := C.f.zero (i + k) (by (with_reducible exact Nat.le_of_not_lt ‹_›))
      lia
/-- (A) two ends whose stretches both begin ahead of the place are one -/
theorem ends_same {F G : Nat → Int} {n i e e' : Nat} (C : Contrary F G n) (h : IsEnd F n i e) (h' : IsEnd G n i e') (hi : 0 < i)
    (c1 : F (i - 1) = F (e - 1)) (c2 : F (i - 1) = F (e' - 1)) : e = e' := by
  have g1 := h.gt
  have g2 := h'.gt
  rcases ends_one C h h' with q | q
  · rcases Nat.lt_or_ge e' (i + 2) with q2 | q2
    · lia
    · exfalso
      have := h'.last_ne q2
      refine this ((C.same _ _).mp ?_)
      rw [← c2, c1, q, show i + 1 - 1 = i by (with_reducible exact Nat.add_sub_cancel _ _)]
  · rcases Nat.lt_or_ge e (i + 2) with q2 | q2
    · lia
    · exfalso
      refine h.last_ne q2 ?_
      rw [← c1, c2, q, show i + 1 - 1 = i by lia]

def Per (F : Nat → Int) (b s p : Nat) : Prop := ∀ k, b ≤ k → k + p < s → F k = F (k + p)
def Prim (F : Nat → Int) (b p : Nat) : Prop := ∀ r, 0 < r → r < p → ∃ k, k < p ∧ F (b + k) ≠ F (b + r + k)

/-- (B, one way) a stretch that is found is no power of a shorter word -/
theorem found_prim {F : Nat → Int} {n i e b s p : Nat} (h : IsEnd F n i e) (hp : e = i + p) (hb : b < i) (hes : e ≤ s) (per : Per F b s p) : Prim F b p := by
  intro r hr hrp
  refine Classical.byContradiction fun hn => ?_
  have hall : ∀ k, k < p → F (b + k) = F (b + r + k) := fun k hk => Classical.byContradiction fun hq => hn ⟨k, hk, hq⟩
  have pr : ∀ k, b ≤ k → k + r < s → F k = F (k + r) := by
    intro k
    induction k using Nat.strongRecOn with
    | ind k ih =>
      intro hbk hks
      by_cases hk : k < b + p
      · have := hall (k - b) (by (with_reducible exact Nat.sub_lt_left_of_lt_add ‹_› ‹_›))
        rw [show b + (k - b) = k by (with_reducible exact Nat.add_sub_of_le ‹_›), show b + r + (k - b) = k + r by (grind -ring -linarith only)] at this
        exact this
      · have h1 := per (k - p) (by lia) (by ((subst_vars; lia)))
        have h3 := per (k - p + r) (by lia) (by ((subst_vars; lia)))
        have h4 := ih (k - p) (by ((subst_vars; lia))) (by lia) (by ((subst_vars; lia)))
        rw [show k - p + p = k by lia] at h1
        rw [show k - p + r + p = k + r by lia] at h3
        rw [← h1, h4, h3]
  have l1 : Lx F i (i + r) := h.bet _ (by (with_reducible exact Nat.lt_add_of_pos_right ‹_›)) (by ((subst_vars; lia)))
  have l2 : Lx F (i + (p - r)) (i + r + (p - r)) := l1.shift fun m hm => by
    have := pr (i + m) (by lia) (by lia)
    rw [show i + r + m = i + m + r by lia]
    exact this
  have l3 : Lx F i (i + (p - r)) := h.bet _ (by lia) (by lia)
  refine h.stop ?_
  rw [hp, show i + p = i + r + (p - r) by lia]
  exact l3.trans l2

theorem argmin {R : Nat → Nat → Prop} (irr : ∀ a, ¬ R a a) (tr : ∀ a b c, R a b → R b c → R a c) (n : Nat) : ∃ r, 1 ≤ r ∧ r ≤ n + 1 ∧ ∀ a, 1 ≤ a → a ≤ n + 1 → ¬ R a r := by
  induction n with
  | zero => exact ⟨1, by (with_reducible exact Nat.le_refl _), by (with_reducible exact Nat.le_refl _), fun a h1 h2 => by
    have e : a = 1 := by (with_reducible exact Nat.le_antisymm ‹_› ‹_›)
    rw [e]
    exact irr 1⟩
  | succ n ih =>
    obtain ⟨r, h1, h2, h3⟩ := ih
    by_cases hq : R (n + 2) r
    · refine ⟨n + 2, by (with_reducible exact Nat.le_add_left _ _), by (with_reducible exact Nat.le_refl _), fun a ha hb => ?_⟩
      by_cases e : a = n + 2
      · subst e; exact irr _
      · exact fun hr => h3 a ha (by lia) (tr _ _ _ hr hq)
    · refine ⟨r, h1, by (with_reducible exact Nat.le_succ_of_le ‹_›), fun a ha hb => ?_⟩
      by_cases e : a = n + 2
      · subst e; exact hq
      · exact h3 a ha (by lia)

/-- (B, the other way) a longest row of a word that is no power is found -/
theorem prim_found {F : Nat → Int} {n b s p : Nat} (T : Tx F n) (hp : 1 ≤ p) (h2 : b + 2 * p ≤ s) (hs : s ≤ n) (per : Per F b s p) (hright : s < n → F s < F (s - p)) (prim : Prim F b p) :
    ∃ i, b < i ∧ i ≤ b + p ∧ IsEnd F n i (i + p) := by
  -- the word for ever
  let f : Nat → Int := fun k => F (b + k % p)
  have fper : ∀ k, f (k + p) = f k := fun k => by show F (b + (k + p) % p) = F (b + k % p); rw [Nat.add_mod_right]
  have fF : ∀ k, b + k < s → f k = F (b + k) := by
    intro k
    induction k using Nat.strongRecOn with
    | ind k ih =>
      intro hk
      by_cases hkp : k < p
      · show F (b + k % p) = _
        rw [Nat.mod_eq_of_lt hkp]
      · have h1 := ih (k - p) (by ((subst_vars; omega))) (by (grind -ring -linarith only))
        have h3 := fper (k - p)
        have h4 := per (b + (k - p)) (by (with_reducible exact Nat.le_add_right _ _)) (by (grind -ring -linarith only))
        rw [show k - p + p = k by (grind -ring -linarith only)] at h3
        rw [show b + (k - p) + p = b + k by (grind -ring -linarith only)] at h4
        rw [h3, h1, h4]
  obtain ⟨q, rfl⟩ : ∃ q, p = q + 1 := ⟨p - 1, by (with_reducible exact (Nat.sub_add_cancel ‹_›).symm)⟩
  obtain ⟨r, hr1, hr2, hmin⟩ := argmin (R := Lx f) (fun _ => Lx.irrefl) (fun _ _ _ => Lx.trans) q
  -- any two turns of the word part
  have part : ∀ d, 0 < d → d < q + 1 → ∃ m, f (r + m) ≠ f (r + d + m) := by
    intro d hd hdp
    refine Classical.byContradiction fun hn => ?_
    have hall : ∀ m, f (r + m) = f (r + d + m) := fun m => Classical.byContradiction fun hq => hn ⟨m, hq⟩
    obtain ⟨k, hk, hne⟩ := prim d hd hdp
    apply hne
    have h1 := hall (k + (q + 1 - r))
    rw [show r + (k + (q + 1 - r)) = k + (q + 1) by (grind -ring -linarith only), show r + d + (k + (q + 1 - r)) = d + k + (q + 1) by (grind -ring -linarith only), fper, fper] at h1
    rw [← fF k (by lia), h1, fF (d + k) (by lia), Nat.add_assoc]
  have lxper : ∀ a c, Lx f (a + (q + 1)) c → Lx f a c := by
    rintro a c ⟨k, h1, h3⟩
    refine ⟨k, fun m hm => ?_, ?_⟩
    · rw [← h1 m hm, show a + (q + 1) + m = a + m + (q + 1) by (with_reducible exact Nat.add_right_comm _ _ _), fper]
    · rw [show a + (q + 1) + k = a + k + (q + 1) by lia, fper] at h3
      exact h3
  have notl : ∀ d, 0 < d → d < q + 1 → ¬ Lx f (r + d) r := by
    intro d hd hdp hl
    by_cases hw : r + d ≤ q + 1
    · exact hmin (r + d) (by lia) hw hl
    · refine hmin (r + d - (q + 1)) (by lia) (by lia) (lxper _ _ ?_)
      rw [show r + d - (q + 1) + (q + 1) = r + d by lia]
      exact hl
  refine ⟨b + r, by lia, by lia, by lia, by lia, fun j hj1 hj2 => ?_, ?_⟩
  · obtain ⟨d, rfl⟩ : ∃ d, j = b + r + d := ⟨j - (b + r), by lia⟩
    have hd : 0 < d := by lia
    have hdp : d < q + 1 := by lia
    obtain ⟨m, hm⟩ := part d hd hdp
    rcases Lx.total (F := f) (i := r) (j := r + d) hm with hl | hl
    · obtain ⟨k, h1, h3⟩ := hl
      by_cases hk : k < q + 1 - d
      · refine ⟨k, fun m hm => ?_, ?_⟩
        · have := h1 m hm
          rw [fF (r + m) (by lia), fF (r + d + m) (by lia)] at this
          rw [show b + r + m = b + (r + m) by lia, show b + r + d + m = b + (r + d + m) by lia]
          exact this
        · rw [fF (r + k) (by lia), fF (r + d + k) (by lia)] at h3
          rw [show b + r + k = b + (r + k) by lia, show b + r + d + k = b + (r + d + k) by lia]
          exact h3
      · exfalso
        refine notl (q + 1 - d) (by lia) (by lia) ⟨k - (q + 1 - d), fun m hm => ?_, ?_⟩
        · have := h1 (q + 1 - d + m) (by lia)
          rw [show r + (q + 1 - d) + m = r + (q + 1 - d + m) by lia, this, show r + d + (q + 1 - d + m) = r + m + (q + 1) by lia, fper]
        · rw [show r + (q + 1 - d) + (k - (q + 1 - d)) = r + k by lia]
          rw [show r + d + k = r + (k - (q + 1 - d)) + (q + 1) by lia, fper] at h3
          exact h3
    · exact absurd hl (notl d hd hdp)
  · rintro ⟨k, h1, h3⟩
    have key : ∀ m, b + r + (q + 1) + m < s → F (b + r + m) = F (b + r + (q + 1) + m) := fun m hm => by
      have := per (b + r + m) (by lia) (by lia)
      rw [this]; congr 1; lia
    by_cases hk : b + r + (q + 1) + k < s
    · have := key k hk
      lia
    · have hlast : F (b + r + (q + 1) + (s - (b + r + (q + 1)))) < F (b + r + (s - (b + r + (q + 1)))) := by
        rw [show b + r + (q + 1) + (s - (b + r + (q + 1))) = s by lia, show b + r + (s - (b + r + (q + 1))) = s - (q + 1) by lia]
        by_cases hsn : s < n
        · exact hright hsn
        · rw [T.zero s (by lia)]
          exact T.pos _ (by lia)
      by_cases hk2 : k = s - (b + r + (q + 1))
      · rw [← hk2] at hlast
        lia
      · have := h1 (s - (b + r + (q + 1))) (by lia)
        lia
end Mine
end

section
open PySem PySem.W PySem.Calls PySem.Spec PyProof PyProof.Rows
namespace Mine

theorem list_lt {α : Type} [LT α] [DecidableEq α] [DecidableLT α] (c : α → Int) (hc : ∀ a b : α, a < b ↔ c a < c b) (hi : ∀ a b : α, a = b ↔ c a = c b) :
    ∀ u v : List α, (∀ a ∈ u, 0 < c a) → (∀ a ∈ v, 0 < c a) → (u < v ↔ ∃ k, (∀ m, m < k → (u.map c).getD m 0 = (v.map c).getD m 0) ∧ (u.map c).getD k 0 < (v.map c).getD k 0)
  | [], [], _, _ => by
    constructor
    · intro h
      exact absurd h (by simp)
    · rintro ⟨k, _, h⟩
      simp at h
  | [], b :: v, _, hv => by
    constructor
    · intro _
      exact ⟨0, fun m hm => absurd hm (by (with_reducible exact absurd ‹_› (Nat.not_lt_zero _))), by simpa using hv b (.head _)⟩
    · intro _
      simp
  | a :: u, [], hu, _ => by
    constructor
    · intro h
      exact absurd h (by simp)
    · rintro ⟨k, h1, h2⟩
      exfalso
      cases k with
      | zero =>
        have := hu a (.head _)
        simp at h2
        lia
      | succ k =>
        have := h1 0 (by (with_reducible exact Nat.succ_pos _))
        have h3 := hu a (.head _)
        simp at this
        lia
  | a :: u, b :: v, hu, hv => by
    have ih := list_lt c hc hi u v (fun x hx => hu x (.tail _ hx)) (fun x hx => hv x (.tail _ hx))
    rw [List.cons_lt_cons_iff]
    constructor
    · rintro (h | ⟨rfl, h⟩)
      · exact ⟨0, fun m hm => absurd hm (by lia), by simpa using (hc a b).mp h⟩
      · obtain ⟨k, h1, h2⟩ := ih.mp h
        refine ⟨k + 1, fun m hm => ?_, by simpa using h2⟩
        cases m with
        | zero => simp
        | succ m => simpa using h1 m (by (with_reducible exact Nat.lt_of_succ_lt_succ ‹_›))
    · rintro ⟨k, h1, h2⟩
      cases k with
      | zero => exact .inl ((hc a b).mpr (by simpa using h2))
      | succ k =>
        refine .inr ⟨(hi a b).mpr (by simpa using h1 0 (by lia)), ih.mpr ⟨k, fun m hm => ?_, by simpa using h2⟩⟩
        simpa using h1 (m + 1) (by (with_reducible exact Nat.add_lt_add_right ‹_› _))

theorem ltB_iff {α : Type} [LT α] [DecidableEq α] [DecidableLT α] (c : α → Int) (hc : ∀ a b : α, a < b ↔ c a < c b) (hi : ∀ a b : α, a = b ↔ c a = c b) (l : List α) (hl : ∀ a ∈ l, 0 < c a) (i j : Nat) :
    ltB l i j = true ↔ Lx (fun k => (l.map c).getD k 0) i j := by
  unfold ltB Lx
  rw [decide_eq_true_iff, list_lt c hc hi _ _ (fun a ha => hl a (List.mem_of_mem_drop ha)) (fun a ha => hl a (List.mem_of_mem_drop ha))]
  have e : ∀ i m : Nat, ((l.drop i).map c).getD m 0 = (l.map c).getD (i + m) 0 := by
    intro i m
    simp only [List.getD_eq_getElem?_getD, List.map_drop, List.getElem?_drop]
  simp only [e]

theorem firstFrom_spec (P : Nat → Bool) : ∀ f j, (∀ k, j ≤ k → k < firstFrom P f j → P k = true) ∧ (firstFrom P f j < j + f → P (firstFrom P f j) = false)
  | 0, j => ⟨fun k h1 h2 => absurd h2 (by show ¬ k < j; (with_reducible exact Nat.not_lt_of_le ‹_›)), fun h => absurd h (by show ¬ j < j + 0; (exact Nat.lt_irrefl j))⟩
  | f + 1, j => by
    obtain ⟨h1, h2⟩ := firstFrom_spec P f (j + 1)
    unfold firstFrom
    split
    · rename_i hp
      refine ⟨fun k hk hlt => ?_, fun h => h2 (by lia)⟩
      by_cases e : k = j
      · rw [e]; exact hp
      · exact h1 k (by lia) hlt
    · rename_i hp
      exact ⟨fun k hk hlt => absurd hlt (by (with_reducible exact Nat.not_lt_of_le ‹_›)), fun _ => by simpa using hp⟩
theorem downFrom_spec (P : Nat → Bool) : ∀ b, downFrom P b ≤ b ∧ (∀ k, downFrom P b ≤ k → k < b → P k = true) ∧ (0 < downFrom P b → P (downFrom P b - 1) = false)
  | 0 => ⟨Nat.le_refl _, fun k _ h => absurd h (by lia), fun h => absurd h (by show ¬ 0 < 0; (decide))⟩
  | b + 1 => by
    obtain ⟨h1, h2, h3⟩ := downFrom_spec P b
    unfold downFrom
    split
    · rename_i hp
      refine ⟨by (with_reducible exact Nat.le_succ_of_le ‹_›), fun k hk hlt => ?_, h3⟩
      by_cases e : k = b
      · rw [e]; exact hp
      · exact h2 k hk (by lia)
    · rename_i hp
      exact ⟨by (with_reducible exact Nat.le_refl _), fun k h4 h5 => absurd h5 (by (with_reducible exact Nat.not_lt_of_le ‹_›)), fun _ => by simpa using hp⟩

/-- the codes, the numbers: 0 behind the end -/
noncomputable def Fc (x : PySem.Str) (k : Nat) : Int := (x.cps.toList.map fun c : Nat => (c : Int)).getD k 0
noncomputable def Fn (x : PySem.Str) (k : Nat) : Int := ((numsOf x).map fun c => c).getD k 0
def Letters (x : PySem.Str) : Prop := ∀ c ∈ x.cps.toList, c = 42 ∨ c = 43 ∨ c = 44

theorem get_cps {x : PySem.Str} {k : Nat} (h : k < x.length) : ∃ c, x.cps.toList[k]? = some c ∧ c ∈ x.cps.toList := by
  have hl : x.cps.toList.length = x.length := rfl
  exact ⟨x.cps.toList[k]'(by (exact Nat.lt_of_succ_le h)), by simp, List.getElem_mem _⟩
theorem none_cps {x : PySem.Str} {k : Nat} (h : x.length ≤ k) : x.cps.toList[k]? = none := List.getElem?_eq_none (by have hl : x.cps.toList.length = x.length := rfl; (exact (fun {i₁ i₂} => String.Pos.Raw.mk_le_mk.mp) h))
theorem Fc_some {x : PySem.Str} {k c : Nat} (h : x.cps.toList[k]? = some c) : Fc x k = (c : Int) := by
  unfold Fc
  rw [List.getD_eq_getElem?_getD, List.getElem?_map, h]; rfl
theorem Fn_some {x : PySem.Str} {k c : Nat} (h : x.cps.toList[k]? = some c) : Fn x k = numOf c := by
  unfold Fn numsOf
  rw [List.getD_eq_getElem?_getD, List.getElem?_map, List.getElem?_map, h]; rfl
theorem Fc_none {x : PySem.Str} {k : Nat} (h : x.cps.toList[k]? = none) : Fc x k = 0 := by
  unfold Fc
  rw [List.getD_eq_getElem?_getD, List.getElem?_map, h]; rfl
theorem Fn_none {x : PySem.Str} {k : Nat} (h : x.cps.toList[k]? = none) : Fn x k = 0 := by
  unfold Fn numsOf
  rw [List.getD_eq_getElem?_getD, List.getElem?_map, List.getElem?_map, h]; rfl
theorem numOf_cases {c : Nat} (h : c = 42 ∨ c = 43 ∨ c = 44) : (c = 42 ∧ numOf c = 16) ∨ (c = 43 ∧ numOf c = 14) ∨ (c = 44 ∧ numOf c = 12) := by
  rcases h with rfl | rfl | rfl
  · exact .inl ⟨rfl, rfl⟩
  · exact .inr (.inl ⟨rfl, rfl⟩)
  · exact .inr (.inr ⟨rfl, rfl⟩)

theorem contrary {x : PySem.Str} (h : Letters x) : Contrary (Fc x) (Fn x) x.length := by
  have pc : ∀ k, k < x.length → 0 < Fc x k := fun k hk => by
    obtain ⟨c, e, hm⟩ := get_cps hk
    rw [Fc_some e]
    have := h c hm
    lia
  have pn : ∀ k, k < x.length → 0 < Fn x k := fun k hk => by
    obtain ⟨c, e, hm⟩ := get_cps hk
    rw [Fn_some e]
    have := numOf_cases (h c hm)
    lia
  have zc : ∀ k, x.length ≤ k → Fc x k = 0 := fun k hk => Fc_none (none_cps hk)
  have zn : ∀ k, x.length ≤ k → Fn x k = 0 := fun k hk => Fn_none (none_cps hk)
  refine ⟨⟨pc, zc⟩, ⟨pn, zn⟩, fun k l => ?_, fun k l hk hl => ?_⟩
  · by_cases hk : k < x.length
    · by_cases hl : l < x.length
      · obtain ⟨c, e, hm⟩ := get_cps hk
        obtain ⟨d, e', hm'⟩ := get_cps hl
        rw [Fc_some e, Fc_some e', Fn_some e, Fn_some e']
        have h1 := numOf_cases (h c hm)
        have h2 := numOf_cases (h d hm')
        (grind -ring -linarith only)
      · have h1 := pc k hk
        have h2 := pn k hk
        rw [zc l (by (with_reducible exact Nat.le_of_not_lt ‹_›)), zn l (by lia)]
        lia
    · by_cases hl : l < x.length
      · have h1 := pc l hl
        have h2 := pn l hl
        rw [zc k (by lia), zn k (by lia)]
        lia
      · rw [zc k (by lia), zn k (by lia), zc l (by lia), zn l (by lia)]
  · obtain ⟨c, e, hm⟩ := get_cps hk
    obtain ⟨d, e', hm'⟩ := get_cps hl
    rw [Fc_some e, Fc_some e', Fn_some e, Fn_some e']
    have h1 := numOf_cases (h c hm)
    have h2 := numOf_cases (h d hm')
    lia

theorem eqAt_iff {x : PySem.Str} (h : Letters x) (a b : Nat) : eqAt x.cps.toList a b = true ↔ Fc x a = Fc x b := by
  have C := contrary h
  unfold eqAt
  rw [beq_iff_eq]
  constructor
  · intro e
    cases e1 : x.cps.toList[a]? with
    | none => rw [Fc_none e1, Fc_none (e ▸ e1)]
    | some c => rw [Fc_some e1, Fc_some (e ▸ e1)]
  · intro e
    by_cases hk : a < x.length
    · by_cases hl : b < x.length
      · obtain ⟨c, e1, hm⟩ := get_cps hk
        obtain ⟨d, e2, hm'⟩ := get_cps hl
        rw [Fc_some e1, Fc_some e2] at e
        rw [e1, e2]
        congr 1
        lia
      · have h1 := C.f.pos a hk
        have h2 := C.f.zero b (by lia)
        lia
    · by_cases hl : b < x.length
      · have h1 := C.f.pos b hl
        have h2 := C.f.zero a (by lia)
        lia
      · rw [none_cps (by lia), none_cps (by lia)]

theorem end_codes {x : PySem.Str} (h : Letters x) {i : Nat} (hi : i < x.length) : IsEnd (Fc x) x.length i (endOf x.cps.toList i) := by
  have C := contrary h
  have hl : x.cps.toList.length = x.length := rfl
  have key := ltB_iff (fun c : Nat => (c : Int)) (fun a b => by (exact Iff.symm Int.ofNat_lt)) (fun a b => by (exact Iff.symm Int.ofNat_inj)) x.cps.toList (fun a ha => by have := h a ha; lia) i
  obtain ⟨s1, s2⟩ := firstFrom_spec (ltB x.cps.toList i) (x.cps.toList.length - (i + 1)) (i + 1)
  have g1 := firstFrom_ge (ltB x.cps.toList i) (x.cps.toList.length - (i + 1)) (i + 1)
  have g2 := firstFrom_le (ltB x.cps.toList i) (x.cps.toList.length - (i + 1)) (i + 1)
  unfold endOf
  refine ⟨by (with_reducible exact Nat.lt_of_succ_le ‹_›), by ((subst_vars; omega)), fun j h1 h2 => (key j).mp (s1 j (by (with_reducible exact Nat.succ_le_of_lt ‹_›)) h2), fun hx => ?_⟩
  have hx' := (key _).mpr hx
  by_cases hn : firstFrom (ltB x.cps.toList i) (x.cps.toList.length - (i + 1)) (i + 1) < i + 1 + (x.cps.toList.length - (i + 1))
  · rw [s2 hn] at hx'
    cases hx'
  · obtain ⟨k, _, lk⟩ := hx
    have h0 := C.f.zero (firstFrom (ltB x.cps.toList i) (x.cps.toList.length - (i + 1)) (i + 1) + k) (by ((subst_vars; omega)))
    by_cases hk : i + k < x.length
    · have := C.f.pos _ hk
      lia
    · have := C.f.zero (i + k) (by (with_reducible exact Nat.le_of_not_lt ‹_›))
      lia
theorem end_nums {x : PySem.Str} (h : Letters x) {i : Nat} (hi : i < x.length) : IsEnd (Fn x) x.length i (endOf (numsOf x) i) := by
  have C := contrary h
  have hl : (numsOf x).length = x.length := by rw [numsOf, List.length_map]; rfl
  have key := ltB_iff (fun c : Int => c) (fun a b => Iff.rfl) (fun a b => Iff.rfl) (numsOf x) (fun a ha => by
    obtain ⟨c, hc, rfl⟩ := List.mem_map.mp ha
    have := numOf_cases (h c hc)
    lia) i
  obtain ⟨s1, s2⟩ := firstFrom_spec (ltB (numsOf x) i) ((numsOf x).length - (i + 1)) (i + 1)
  have g1 := firstFrom_ge (ltB (numsOf x) i) ((numsOf x).length - (i + 1)) (i + 1)
  have g2 := firstFrom_le (ltB (numsOf x) i) ((numsOf x).length - (i + 1)) (i + 1)
  unfold endOf
  refine ⟨by (with_reducible exact Nat.lt_of_succ_le ‹_›), by lia, fun j h1 h2 => (key j).mp (s1 j (by lia) h2), fun hx => ?_⟩
  have hx' := (key _).mpr hx
  by_cases hn : firstFrom (ltB (numsOf x) i) ((numsOf x).length - (i + 1)) (i + 1) < i + 1 + ((numsOf x).length - (i + 1))
  · rw [s2 hn] at hx'
    cases hx'
  · obtain ⟨k, _, lk⟩ := hx
    have h0 := C.g.zero (firstFrom (ltB (numsOf x) i) ((numsOf x).length - (i + 1)) (i + 1) + k) (by ((subst_vars; omega)))
    by_cases hk : i + k < x.length
    · have := C.g.pos _ hk
      lia
    · have := C.g.zero (i + k) (by lia)
      lia
end Mine
end

section
open PySem PySem.W PySem.Calls PySem.Spec PyProof PyProof.Rows
namespace Mine
open Builtin Builtin.Str StrLaws

/-- (b, s) is a longest stretch of step p, twice as long at least, its word no power -/
structure RunOf (x : PySem.Str) (b s p : Nat) : Prop where
  one : 1 ≤ p
  two : b + 2 * p ≤ s
  le : s ≤ x.length
  per : Per (Fc x) b s p
  left : 0 < b → Fc x (b - 1) ≠ Fc x (b - 1 + p)
  right : s < x.length → Fc x (s - p) ≠ Fc x s
  prim : Prim (Fc x) b p

theorem begin_spec {x : PySem.Str} (h : Letters x) (i p : Nat) : beginOf x.cps.toList i p ≤ i ∧ (∀ k, beginOf x.cps.toList i p ≤ k → k < i → Fc x k = Fc x (k + p)) ∧
    (0 < beginOf x.cps.toList i p → Fc x (beginOf x.cps.toList i p - 1) ≠ Fc x (beginOf x.cps.toList i p - 1 + p)) := by
  obtain ⟨h1, h2, h3⟩ := downFrom_spec (fun b => eqAt x.cps.toList b (b + p)) i
  unfold beginOf
  refine ⟨h1, fun k hk hi => (eqAt_iff h _ _).mp (h2 k hk hi), fun h0 hq => ?_⟩
  have h4 := h3 h0
  have h5 := (eqAt_iff h _ _).mpr hq
  rw [h5] at h4
  cases h4
theorem stop_spec {x : PySem.Str} (h : Letters x) {i p : Nat} (hp : i + p ≤ x.length) : i + p ≤ stopOf x.cps.toList i p ∧ stopOf x.cps.toList i p ≤ x.length ∧
    (∀ k, i + p ≤ k → k < stopOf x.cps.toList i p → Fc x k = Fc x (k - p)) ∧ (stopOf x.cps.toList i p < x.length → Fc x (stopOf x.cps.toList i p - p) ≠ Fc x (stopOf x.cps.toList i p)) := by
  have hl : x.cps.toList.length = x.length := rfl
  obtain ⟨h2, h3⟩ := firstFrom_spec (fun e => eqAt x.cps.toList e (e - p)) (x.cps.toList.length - (i + p)) (i + p)
  have g1 := firstFrom_ge (fun e => eqAt x.cps.toList e (e - p)) (x.cps.toList.length - (i + p)) (i + p)
  have g2 := firstFrom_le (fun e => eqAt x.cps.toList e (e - p)) (x.cps.toList.length - (i + p)) (i + p)
  unfold stopOf
  refine ⟨g1, by lia, fun k hk hi => (eqAt_iff h _ _).mp (h2 k hk hi), fun h0 hq => ?_⟩
  have h4 := h3 (by (grind -ring -linarith only))
  have h5 := (eqAt_iff h _ _).mpr hq.symm
  rw [h5] at h4
  cases h4

theorem run_per {x : PySem.Str} (h : Letters x) {i p : Nat} (hp : i + p ≤ x.length) : Per (Fc x) (beginOf x.cps.toList i p) (stopOf x.cps.toList i p) p := by
  obtain ⟨_, b2, _⟩ := begin_spec h i p
  obtain ⟨_, _, s3, _⟩ := stop_spec h hp
  intro k hk hks
  by_cases hki : k < i
  · exact b2 k hk hki
  · have := s3 (k + p) (by lia) hks
    rw [this, show k + p - p = k by (with_reducible exact Nat.add_sub_cancel _ _)]

/-- what the place counts -/
theorem counts_iff {x : PySem.Str} {i e : Nat} (hi : i ≤ e) : counts i (runAt x i e) = true ↔ beginOf x.cps.toList i (e - i) < i ∧ beginOf x.cps.toList i (e - i) + 2 * (e - i) ≤ stopOf x.cps.toList i (e - i) := by
  unfold counts runAt
  simp only [Bool.and_eq_true, decide_eq_true_eq]
  lia

theorem here_same {x : PySem.Str} (h : Letters x) {i : Nat} (h1 : 1 ≤ i) (hi : i < x.length) (c1 : counts i (runAt x i (endOf x.cps.toList i)) = true) (c2 : counts i (runAt x i (endOf (numsOf x) i)) = true) :
    endOf x.cps.toList i = endOf (numsOf x) i := by
  have e1 := end_codes h hi
  have e2 := end_nums h hi
  have g1 := e1.gt
  have g2 := e2.gt
  have l1 := e1.le
  have l2 := e2.le
  rw [counts_iff (by (with_reducible exact Nat.le_of_lt ‹_›))] at c1 c2
  obtain ⟨_, b1, _⟩ := begin_spec h i (endOf x.cps.toList i - i)
  obtain ⟨_, b2, _⟩ := begin_spec h i (endOf (numsOf x) i - i)
  have q1 := b1 (i - 1) (by lia) (by (exact Nat.sub_one_lt_of_lt h1))
  have q2 := b2 (i - 1) (by lia) (by lia)
  rw [show i - 1 + (endOf x.cps.toList i - i) = endOf x.cps.toList i - 1 by (grind -ring -linarith only)] at q1
  rw [show i - 1 + (endOf (numsOf x) i - i) = endOf (numsOf x) i - 1 by (grind -ring -linarith only)] at q2
  exact ends_same (contrary h) e1 e2 h1 q1 q2

/-- the run from a place, if it counts -/
theorem run_of {x : PySem.Str} (h : Letters x) {i e : Nat} (hi : i < e) (he : e ≤ x.length) (c : counts i (runAt x i e) = true) (pr : Prim (Fc x) (beginOf x.cps.toList i (e - i)) (e - i)) :
    RunOf x (beginOf x.cps.toList i (e - i)) (stopOf x.cps.toList i (e - i)) (e - i) := by
  rw [counts_iff (by (with_reducible exact Nat.le_of_lt ‹_›))] at c
  obtain ⟨b1, b2, b3⟩ := begin_spec h i (e - i)
  obtain ⟨s1, s2, s3, s4⟩ := stop_spec h (i := i) (p := e - i) (by lia)
  exact ⟨by (exact Nat.le_sub_of_add_le' hi), c.2, s2, run_per h (by (with_reducible exact Nat.le_trans ‹_› ‹_›)), b3, s4, pr⟩
theorem prim_of_nums {x : PySem.Str} (h : Letters x) {b p : Nat} (hp : Prim (Fn x) b p) : Prim (Fc x) b p := fun r h1 h2 => by
  obtain ⟨k, hk, hn⟩ := hp r h1 h2
  exact ⟨k, hk, fun q => hn (((contrary h).same _ _).mp q)⟩
theorem prim_to_nums {x : PySem.Str} (h : Letters x) {b p : Nat} (hp : Prim (Fc x) b p) : Prim (Fn x) b p := fun r h1 h2 => by
  obtain ⟨k, hk, hn⟩ := hp r h1 h2
  exact ⟨k, hk, fun q => hn (((contrary h).same _ _).mpr q)⟩
theorem per_to_nums {x : PySem.Str} (h : Letters x) {b s p : Nat} (hp : Per (Fc x) b s p) : Per (Fn x) b s p := fun k h1 h2 => ((contrary h).same _ _).mp (hp k h1 h2)

theorem here_run {x : PySem.Str} (h : Letters x) {i : Nat} (hi : i < x.length) {r : Int × Int × Int} (hr : r ∈ hereAt x i) : ∃ b s p, r = (((b : Nat) : Int), ((s : Nat) : Int), ((p : Nat) : Int)) ∧ RunOf x b s p := by
  unfold hereAt at hr
  obtain ⟨hm, c⟩ := List.mem_filter.mp hr
  rcases List.mem_cons.mp hm with rfl | hm
  · have e1 := end_codes h hi
    have g1 := e1.gt
    have l1 := e1.le
    have c' := (counts_iff (by lia)).mp c
    obtain ⟨s1, s2, s3, s4⟩ := stop_spec h (i := i) (p := endOf x.cps.toList i - i) (by (grind -ring -linarith only))
    refine ⟨_, _, endOf x.cps.toList i - i, ?_, run_of h g1 l1 c (found_prim e1 (by lia) c'.1 (by lia) (run_per h (by (with_reducible exact Nat.le_trans ‹_› ‹_›))))⟩
    unfold runAt
    congr 2
    lia
  · rw [List.mem_singleton.mp hm] at c ⊢
    have e1 := end_nums h hi
    have g1 := e1.gt
    have l1 := e1.le
    have c' := (counts_iff (by lia)).mp c
    obtain ⟨s1, s2, s3, s4⟩ := stop_spec h (i := i) (p := endOf (numsOf x) i - i) (by (grind -ring -linarith only))
    refine ⟨_, _, endOf (numsOf x) i - i, ?_, run_of h g1 l1 c (prim_of_nums h (found_prim e1 (by (grind -ring -linarith only)) c'.1 (by (grind -ring -linarith only)) (per_to_nums h (run_per h (by (with_reducible exact Nat.le_trans ‹_› ‹_›))))))⟩
    unfold runAt
    congr 2
    (grind -ring -linarith only)

theorem begin_is {x : PySem.Str} (h : Letters x) {b s p i : Nat} (R : RunOf x b s p) (h1 : b ≤ i) (h2 : i + p ≤ s) : beginOf x.cps.toList i p = b := by
  obtain ⟨b1, b2, b3⟩ := begin_spec h i p
  rcases Nat.lt_trichotomy (beginOf x.cps.toList i p) b with q | q | q
  · exact absurd (b2 (b - 1) (by (exact Nat.le_sub_one_of_lt q)) (by lia)) (R.left (by (with_reducible exact Nat.zero_lt_of_lt ‹_›)))
  · exact q
  · exact absurd (R.per (beginOf x.cps.toList i p - 1) (by (exact Nat.le_sub_one_of_lt q)) (by lia)) (b3 (by (with_reducible exact Nat.zero_lt_of_lt ‹_›)))
theorem stop_is {x : PySem.Str} (h : Letters x) {b s p i : Nat} (R : RunOf x b s p) (h1 : b ≤ i) (h2 : i + p ≤ s) : stopOf x.cps.toList i p = s := by
  have hle := R.le
  have hone := R.one
  obtain ⟨s1, s2, s3, s4⟩ := stop_spec h (i := i) (p := p) (by (with_reducible exact Nat.le_trans ‹_› ‹_›))
  rcases Nat.lt_trichotomy (stopOf x.cps.toList i p) s with q | q | q
  · have := R.per (stopOf x.cps.toList i p - p) (by lia) (by lia)
    rw [show stopOf x.cps.toList i p - p + p = stopOf x.cps.toList i p by lia] at this
    exact absurd this (s4 (by (with_reducible exact Nat.lt_of_lt_of_le ‹_› ‹_›)))
  · exact q
  · exact absurd (s3 s (by (with_reducible assumption)) q).symm (R.right (by (with_reducible exact Nat.lt_of_lt_of_le ‹_› ‹_›)))

theorem run_here {x : PySem.Str} (h : Letters x) {b s p : Nat} (R : RunOf x b s p) : ∃ i, 1 ≤ i ∧ i < x.length ∧ (((b : Nat) : Int), ((s : Nat) : Int), ((p : Nat) : Int)) ∈ hereAt x i := by
  have C := contrary h
  have hone := R.one
  have htwo := R.two
  have hle := R.le
  have fin : ∀ i e, b < i → i ≤ b + p → e = i + p → (runAt x i e = (((b : Nat) : Int), ((s : Nat) : Int), ((p : Nat) : Int)) ∧ counts i (runAt x i e) = true) := by
    intro i e h1 h2 he
    have ep : e - i = p := by (exact Eq.symm (Nat.eq_sub_of_add_eq' (_root_.id (Eq.symm he))))
    have q1 := begin_is h R (i := i) (by lia) (by lia)
    have q2 := stop_is h R (i := i) (by lia) (by lia)
    constructor
    · unfold runAt
      rw [ep, q1, q2]
      congr 2
      lia
    · rw [counts_iff (by (exact Nat.le.intro (_root_.id (Eq.symm he)))), ep, q1, q2]
      exact ⟨h1, htwo⟩
  by_cases hord : s < x.length → Fc x s < Fc x (s - p)
  · obtain ⟨i, h1, h2, hE⟩ := prim_found C.f hone htwo hle R.per hord R.prim
    have hi : i < x.length := by lia
    have he := (end_codes h hi).uniq hE
    obtain ⟨f1, f2⟩ := fin i _ h1 h2 he
    refine ⟨i, by (exact Nat.one_le_of_lt h1), hi, ?_⟩
    unfold hereAt
    exact List.mem_filter.mpr ⟨List.mem_cons.mpr (.inl f1.symm), by rw [← f1]; exact f2⟩
  · have hsn : s < x.length := Classical.byContradiction fun q => hord fun q' => absurd q' q
    have hge : Fc x (s - p) < Fc x s := by
      have h1 := R.right hsn
      have h2 : ¬ Fc x s < Fc x (s - p) := fun q => hord fun _ => q
      lia
    have hord' : s < x.length → Fn x s < Fn x (s - p) := fun _ => (C.less _ _ (by (with_reducible exact Nat.sub_lt_of_lt ‹_›)) hsn).mp hge
    obtain ⟨i, h1, h2, hE⟩ := prim_found C.g hone htwo hle (per_to_nums h R.per) hord' (prim_to_nums h R.prim)
    have hi : i < x.length := by lia
    have he := (end_nums h hi).uniq hE
    obtain ⟨f1, f2⟩ := fin i _ h1 h2 he
    refine ⟨i, by lia, hi, ?_⟩
    unfold hereAt
    exact List.mem_filter.mpr ⟨List.mem_cons.mpr (.inr (List.mem_singleton.mpr f1.symm)), by rw [← f1]; exact f2⟩

theorem mem_take_one {x : PySem.Str} (h : Letters x) {i : Nat} (h1 : 1 ≤ i) (hi : i < x.length) {r : Int × Int × Int} (hr : r ∈ hereAt x i) : r ∈ (hereAt x i).take 1 := by
  by_cases c1 : counts i (runAt x i (endOf x.cps.toList i)) = true
  · by_cases c2 : counts i (runAt x i (endOf (numsOf x) i)) = true
    · have e := here_same h h1 hi c1 c2
      unfold hereAt at hr ⊢
      rw [← e] at hr ⊢
      simp only [List.filter_cons, c1, if_true, List.filter_nil] at hr ⊢
      simpa using hr
    · unfold hereAt at hr ⊢
      simp only [List.filter_cons, c1, c2, if_true, List.filter_nil] at hr ⊢
      simpa using hr
  · unfold hereAt at hr ⊢
    simp only [List.filter_cons, c1, List.filter_nil] at hr ⊢
    by_cases c2 : counts i (runAt x i (endOf (numsOf x) i)) = true
    · simp only [c2, if_true] at hr ⊢
      simpa using hr
    · simp only [c2] at hr
      simp at hr

theorem mem_foundTo {x : PySem.Str} {r : Int × Int × Int} : ∀ m, r ∈ foundTo x m ↔ ∃ i, 1 ≤ i ∧ i ≤ m ∧ r ∈ (hereAt x i).take 1
  | 0 => by
    constructor
    · intro h
      exact absurd h (by simp [foundTo])
    · rintro ⟨i, h1, h2, _⟩
      lia
  | m + 1 => by
    have ih := mem_foundTo (x := x) (r := r) m
    show r ∈ foundTo x m ++ _ ↔ _
    rw [List.mem_append, List.mem_filter]
    constructor
    · rintro (h | ⟨h, _⟩)
      · obtain ⟨i, h1, h2, h3⟩ := ih.mp h
        exact ⟨i, h1, by (with_reducible exact Nat.le_succ_of_le ‹_›), h3⟩
      · exact ⟨1 + m, by (with_reducible exact Nat.le_add_right _ _), by (simp +arith only), h⟩
    · rintro ⟨i, h1, h2, h3⟩
      by_cases hm : r ∈ foundTo x m
      · exact .inl hm
      · by_cases hi : i = m + 1
        · refine .inr ⟨?_, decide_eq_true hm⟩
          rw [show 1 + m = i by ((subst_vars; lia))]
          exact h3
        · exact .inl (ih.mpr ⟨i, h1, by lia, h3⟩)
theorem foundTo_nodup {x : PySem.Str} : ∀ m, (foundTo x m).Nodup
  | 0 => List.Pairwise.nil
  | m + 1 => by
    have ih := foundTo_nodup (x := x) m
    show (foundTo x m ++ _).Nodup
    rw [List.nodup_append]
    refine ⟨ih, List.Pairwise.filter _ ?_, fun a ha b hb => ?_⟩
    · have hl := List.length_take_le 1 (hereAt x (1 + m))
      match (hereAt x (1 + m)).take 1, hl with
      | [], _ => exact List.Pairwise.nil
      | [a], _ => exact List.pairwise_singleton _ a
      | a :: b :: r, hl => simp at hl
    · have := (List.mem_filter.mp hb).2
      exact fun e => (of_decide_eq_true this) (e ▸ ha)
theorem mem_found {x : PySem.Str} (h : Letters x) {r : Int × Int × Int} : r ∈ foundTo x (x.length - 1) ↔ ∃ b s p, r = (((b : Nat) : Int), ((s : Nat) : Int), ((p : Nat) : Int)) ∧ RunOf x b s p := by
  rw [mem_foundTo]
  constructor
  · rintro ⟨i, h1, h2, h3⟩
    exact here_run h (by ((subst_vars; omega))) (List.mem_of_mem_take h3)
  · rintro ⟨b, s, p, rfl, R⟩
    obtain ⟨i, h1, h2, h3⟩ := run_here h R
    exact ⟨i, h1, by (exact Nat.le_sub_one_of_lt h2), mem_take_one h h1 h2 h3⟩
end Mine
end

section
open PySem PySem.W PySem.Calls PySem.Spec PyProof PyProof.Rows
namespace Mine
open Builtin Builtin.Str StrLaws

theorem opt_iff {x : PySem.Str} (h : Letters x) (a b : Nat) : x.cps.toList[a]? = x.cps.toList[b]? ↔ Fc x a = Fc x b := by
  rw [← eqAt_iff h]
  unfold eqAt
  rw [beq_iff_eq]
theorem slice_word (x : PySem.Str) (j p : Nat) : (Txt.slice x (some (j : Int)) (some ((j : Int) + (p : Int)))).cps.toList = (x.cps.toList.drop j).take p := by
  rw [← Int.natCast_add, slice_run, Nat.add_sub_cancel_left]
theorem take_same {t : List Nat} {a b p : Nat} : (t.drop a).take p = (t.drop b).take p ↔ ∀ k, k < p → t[a + k]? = t[b + k]? := by
  constructor
  · intro h k hk
    have := congrArg (fun l => l[k]?) h
    simp only [List.getElem?_take, hk, if_true, List.getElem?_drop] at this
    exact this
  · intro h
    apply List.ext_getElem?
    intro k
    simp only [List.getElem?_take, List.getElem?_drop]
    by_cases hk : k < p
    · simp only [hk, if_true]
      exact h k hk
    · simp only [hk, if_false]

theorem mem_starts {x : PySem.Str} (h : Letters x) {p : Nat} {z : Int} (hp2 : 2 * p ≤ x.length) : z ∈ startsI x (p : Int) ↔ ∃ j : Nat, z = (j : Int) ∧ j + 2 * p ≤ x.length ∧ ∀ k, k < p → Fc x (j + k) = Fc x (j + k + p) := by
  have hl : x.cps.toList.length = x.length := rfl
  have key : ∀ j : Nat, j + 2 * p ≤ x.length → (Txt.startswith (Txt.slice x (some (j : Int)) none) (Txt.slice x (some (j : Int)) (some ((j : Int) + (p : Int))) ++ Txt.slice x (some (j : Int)) (some ((j : Int) + (p : Int)))) = true ↔ ∀ k, k < p → Fc x (j + k) = Fc x (j + k + p)) := by
    intro j hj
    have e1 := slice_drop x j
    have e2 := slice_word x j p
    have l1 : (Txt.slice x (some (j : Int)) none).length = x.length - j := by
      have := congrArg List.length e1
      rw [List.length_drop] at this
      exact this
    have e3 : (Txt.slice x (some (j : Int)) (some ((j : Int) + (p : Int))) ++ Txt.slice x (some (j : Int)) (some ((j : Int) + (p : Int)))).cps.toList = (x.cps.toList.drop j).take p ++ (x.cps.toList.drop j).take p := by
      rw [cps_app, e2]
    have l3 : (Txt.slice x (some (j : Int)) (some ((j : Int) + (p : Int))) ++ Txt.slice x (some (j : Int)) (some ((j : Int) + (p : Int)))).length = p + p := by
      have := congrArg List.length e3
      rw [List.length_append, List.length_take, List.length_drop] at this
      have h2 : min p (x.cps.toList.length - j) = p := by lia
      rw [h2] at this
      exact this
    unfold Txt.startswith
    rw [subAt_eq, e1, e3, l1, l3, List.drop_zero, Bool.and_eq_true, decide_eq_true_eq, beq_iff_eq, List.take_add, List.drop_drop]
    have hz : 0 + (p + p) ≤ x.length - j := by lia
    constructor
    · rintro ⟨_, hq⟩ k hk
      have hq' := List.append_cancel_left hq
      have := (take_same).mp hq' k hk
      rw [← opt_iff h, show j + k + p = j + p + k by (with_reducible exact Nat.add_right_comm _ _ _)]
      exact this.symm
    · intro hq
      refine ⟨hz, ?_⟩
      congr 1
      refine (take_same).mpr fun k hk => ?_
      have := (opt_iff h _ _).mpr (hq k hk)
      rw [show j + k + p = j + p + k by lia] at this
      exact this.symm
  unfold startsI startsOf
  rw [List.mem_map]
  constructor
  · rintro ⟨j, hj, rfl⟩
    obtain ⟨h1, h2⟩ := List.mem_filter.mp hj
    have h3 := List.mem_range.mp h1
    have h4 : j + 2 * p ≤ x.length := by lia
    exact ⟨j, rfl, h4, (key j h4).mp h2⟩
  · rintro ⟨j, rfl, h1, h2⟩
    refine ⟨j, List.mem_filter.mpr ⟨List.mem_range.mpr (by lia), (key j h1).mpr h2⟩, rfl⟩

theorem mid_cps (u : PySem.Str) (hu : 1 ≤ u.length) : (midOf u).cps.toList = (u.cps.toList.drop 1).take (u.length - 2) := by
  unfold midOf
  have e : Builtin.Str.strSliceIndices (some 1) (some (-1)) 1 u.length = sliceRange ((1 : Nat) : Int) ((u.length - 1 : Nat) : Int) 1 := by
    unfold Builtin.Str.strSliceIndices
    simp only [show (1 : Int) > 0 by decide, if_true, if_neg (show ¬ ((1 : Int) < 0) by (decide)), if_pos (show ((-1 : Int) < 0) by (decide))]
    congr 1 <;> (grind -ring -linarith)
  rw [slice_cps u _ _ _ _ e (by (with_reducible exact Nat.sub_le _ _))]
  congr 1

theorem contains_abs {x w m : PySem.Str} (h : Letters x) {b p : Nat} (lw : w.length = p) (ew : w.cps.toList = (x.cps.toList.drop b).take p) (lm : m.length = p + p - 2)
    (em : m.cps.toList = (((x.cps.toList.drop b).take (p + p)).drop 1).take (p + p - 2)) (hp : 1 ≤ p) : Txt.contains m w = false ↔ Prim (Fc x) b p := by
  have occ : ∀ i, i + p ≤ p + p - 2 → (((m.cps.toList.drop i).take p = (x.cps.toList.drop b).take p) ↔ ∀ k, k < p → Fc x (b + k) = Fc x (b + (i + 1) + k)) := by
    intro i hi
    have e : (m.cps.toList.drop i).take p = (x.cps.toList.drop (b + (i + 1))).take p := by
      rw [em]
      apply List.ext_getElem?
      intro k
      rw [List.getElem?_take, List.getElem?_take]
      by_cases hk : k < p
      · rw [if_pos hk, if_pos hk, List.getElem?_drop, List.getElem?_drop, List.getElem?_take, if_pos (by lia), List.getElem?_drop, List.getElem?_take, if_pos (by lia), List.getElem?_drop]
        congr 1
        (simp +arith only)
      · rw [if_neg hk, if_neg hk]
    rw [e, take_same]
    constructor
    · intro hq k hk
      exact ((opt_iff h _ _).mp (hq k hk)).symm
    · intro hq k hk
      exact ((opt_iff h _ _).mpr (hq k hk)).symm
  have fi := found_iff m w
  have si : ∀ i, subAt m w i = true ↔ ((m.cps.toList.drop i).take p = (x.cps.toList.drop b).take p) := fun i => by rw [subAt_eq, lw, ew, beq_iff_eq]
  rw [lw, lm] at fi
  unfold Txt.contains
  rw [lm]
  constructor
  · intro hf r hr hrp
    refine Classical.byContradiction fun hn => ?_
    have hall : ∀ k, k < p → Fc x (b + k) = Fc x (b + r + k) := fun k hk => Classical.byContradiction fun hq => hn ⟨k, hk, hq⟩
    have hT := fi.mpr ⟨r - 1, by lia, (si _).mpr ((occ (r - 1) (by lia)).mpr fun k hk => by rw [show b + (r - 1 + 1) + k = b + r + k by lia]; exact hall k hk)⟩
    rw [hf] at hT
    cases hT
  · intro hp'
    cases hb : (!(occurrences m w 0 (p + p - 2) 1).isEmpty) with
    | false => rfl
    | true =>
      obtain ⟨i, h3, h4⟩ := fi.mp hb
      obtain ⟨k, hk, hne⟩ := hp' (i + 1) (by (with_reducible exact Nat.succ_pos _)) (by (grind -ring -linarith))
      exact absurd ((occ i h3).mp ((si i).mp h4) k hk) hne
theorem contains_iff {x : PySem.Str} (h : Letters x) {b p : Nat} (hp : 1 ≤ p) (h2 : b + 2 * p ≤ x.length) (hs : ∀ k, k < p → Fc x (b + k) = Fc x (b + k + p)) :
    Txt.contains (midOf (wordOf x (p : Int) (b : Int) ++ wordOf x (p : Int) (b : Int))) (wordOf x (p : Int) (b : Int)) = false ↔ Prim (Fc x) b p := by
  have hl : x.cps.toList.length = x.length := rfl
  have ew : (wordOf x (p : Int) (b : Int)).cps.toList = (x.cps.toList.drop b).take p := slice_word x b p
  have lw : (wordOf x (p : Int) (b : Int)).length = p := by
    have := congrArg List.length ew
    rw [List.length_take, List.length_drop] at this
    have h3 : min p (x.cps.toList.length - b) = p := by lia
    rw [h3] at this
    exact this
  have eww : (wordOf x (p : Int) (b : Int) ++ wordOf x (p : Int) (b : Int)).cps.toList = (x.cps.toList.drop b).take (p + p) := by
    rw [cps_app, ew, List.take_add, List.drop_drop]
    congr 1
    refine (take_same).mpr fun k hk => ?_
    rw [show b + p + k = b + k + p by (with_reducible exact Nat.add_right_comm _ _ _)]
    exact (opt_iff h _ _).mpr (hs k hk)
  have lww : (wordOf x (p : Int) (b : Int) ++ wordOf x (p : Int) (b : Int)).length = p + p := by rw [Str.length_append, lw]
  have em : (midOf (wordOf x (p : Int) (b : Int) ++ wordOf x (p : Int) (b : Int))).cps.toList = (((x.cps.toList.drop b).take (p + p)).drop 1).take (p + p - 2) := by
    rw [mid_cps _ (by lia), eww, lww]
  have lm : (midOf (wordOf x (p : Int) (b : Int) ++ wordOf x (p : Int) (b : Int))).length = p + p - 2 := by
    have := congrArg List.length em
    rw [List.length_take, List.length_drop, List.length_take, List.length_drop] at this
    have h3 : min (p + p - 2) (min (p + p) (x.cps.toList.length - b) - 1) = p + p - 2 := by lia
    rw [h3] at this
    exact this
  exact contains_abs h lw ew lm em hp

theorem lastI_spec {S : List Int} {N : Int} (hN : ∀ z ∈ S, z ≤ N) : ∀ (f : Nat) (l : Int), l ∈ S → N - l ≤ (f : Int) → l ≤ lastI S f l ∧ (∀ m, l ≤ m → m ≤ lastI S f l → m ∈ S) ∧ lastI S f l + 1 ∉ S
  | 0, l, hl, hf => by
    refine ⟨Int.le_refl _, fun m h1 h2 => ?_, fun h => ?_⟩
    · have h2' : m ≤ l := h2
      have : m = l := by (exact Int.le_antisymm h2 h1)
      rw [this]; exact hl
    · have h' : l + 1 ∈ S := h
      have := hN _ h'
      lia
  | f + 1, l, hl, hf => by
    unfold lastI
    split
    · rename_i hm
      obtain ⟨h1, h2, h3⟩ := lastI_spec hN f (l + 1) hm (by lia)
      refine ⟨by (exact Int.le_of_lt h1), fun m h4 h5 => ?_, h3⟩
      by_cases e : m = l
      · rw [e]; exact hl
      · exact h2 m (by lia) h5
    · rename_i hm
      refine ⟨Int.le_refl _, fun m h1 h2 => ?_, hm⟩
      have : m = l := by lia
      rw [this]; exact hl

theorem run_starts {x : PySem.Str} (h : Letters x) {b s p : Nat} (R : RunOf x b s p) {j : Nat} (h1 : b ≤ j) (h2 : j + 2 * p ≤ s) : (j : Int) ∈ startsI x (p : Int) := by
  have := R.le
  exact (mem_starts h (by lia)).mpr ⟨j, rfl, by lia, fun k hk => R.per (j + k) (by lia) (by lia)⟩
theorem run_before {x : PySem.Str} (h : Letters x) {b s p : Nat} (R : RunOf x b s p) : (b : Int) - 1 ∉ startsI x (p : Int) := by
  have := R.le
  have := R.two
  have := R.one
  intro hm
  obtain ⟨j, e, h1, h2⟩ := (mem_starts h (by lia)).mp hm
  have h3 := h2 0 (by lia)
  have h4 := R.left (by lia)
  rw [show b - 1 = j by lia] at h4
  exact h4 h3
theorem run_behind {x : PySem.Str} (h : Letters x) {b s p : Nat} (R : RunOf x b s p) : (s : Int) - 2 * (p : Int) + 1 ∉ startsI x (p : Int) := by
  have := R.le
  have := R.two
  have := R.one
  intro hm
  obtain ⟨j, e, h1, h2⟩ := (mem_starts h (by lia)).mp hm
  have h3 := h2 (p - 1) (by lia)
  have h4 := R.right (by lia)
  rw [show j + (p - 1) = s - p by lia, show s - p + p = s by lia] at h3
  exact h4 h3

theorem mem_toldAt {x : PySem.Str} (h : Letters x) {p : Nat} (hp : 1 ≤ p) (hp2 : 2 * p ≤ x.length) {z : Int} (hz : z ∈ startsI x (p : Int)) {r : Int × Int × Int} :
    r ∈ toldAt x (p : Int) (startsI x (p : Int)) z ↔ ∃ b s, z = ((b : Nat) : Int) ∧ r = (((b : Nat) : Int), ((s : Nat) : Int), ((p : Nat) : Int)) ∧ RunOf x b s p := by
  obtain ⟨b, rfl, hb1, hb2⟩ := (mem_starts h hp2).mp hz
  have hbd : ∀ z ∈ startsI x (p : Int), z ≤ (x.length : Int) - 2 * (p : Int) := fun z hz => (startsI_bounds hz).2
  obtain ⟨l1, l2, l3⟩ := lastI_spec hbd ((x.length : Int) - (b : Int)).toNat (b : Int) hz (by lia)
  unfold toldAt
  constructor
  · intro hr
    by_cases hc : (b : Int) - 1 ∉ startsI x (p : Int) ∧ Txt.contains (midOf (wordOf x (p : Int) (b : Int) ++ wordOf x (p : Int) (b : Int))) (wordOf x (p : Int) (b : Int)) = false
    · rw [if_pos hc, List.mem_singleton] at hr
      have hprim := (contains_iff h hp hb1 hb2).mp hc.2
      generalize lastI (startsI x (p : Int)) ((x.length : Int) - (b : Int)).toNat (b : Int) = e at hr l1 l2 l3
      obtain ⟨l, rfl⟩ : ∃ l : Nat, e = (l : Int) := ⟨e.toNat, by lia⟩
      have hm : ∀ m : Nat, b ≤ m → m ≤ l → m + 2 * p ≤ x.length ∧ ∀ k, k < p → Fc x (m + k) = Fc x (m + k + p) := fun m h1 h2 => by
        obtain ⟨j, e, h3, h4⟩ := (mem_starts h hp2).mp (l2 (m : Int) (by lia) (by lia))
        have e' : j = m := by lia
        rw [e'] at h3 h4
        exact ⟨h3, h4⟩
      have hll := hm l (by lia) (Nat.le_refl _)
      refine ⟨b, l + 2 * p, rfl, by rw [hr]; congr 2, hp, by lia, hll.1, fun k h1 h2 => ?_, fun h0 hq => ?_, fun hn hq => ?_, hprim⟩
      · by_cases hk : k ≤ l
        · have := (hm k h1 hk).2 0 (by lia)
          exact this
        · have := hll.2 (k - l) (by lia)
          rw [show l + (k - l) = k by lia] at this
          exact this
      · refine hc.1 ((mem_starts h hp2).mpr ⟨b - 1, by lia, by lia, fun k hk => ?_⟩)
        cases k with
        | zero => exact hq
        | succ k =>
          have := hb2 k (by lia)
          rw [show b - 1 + (k + 1) = b + k by lia]
          exact this
      · refine l3 ((mem_starts h hp2).mpr ⟨l + 1, by lia, by lia, fun k hk => ?_⟩)
        by_cases hkp : k = p - 1
        · rw [hkp, show l + 1 + (p - 1) = l + 2 * p - p by lia, show l + 2 * p - p + p = l + 2 * p by lia]
          exact hq
        · have := hll.2 (k + 1) (by lia)
          rw [show l + 1 + k = l + (k + 1) by lia]
          exact this
    · rw [if_neg hc] at hr
      cases hr
  · rintro ⟨b', s, e, rfl, R⟩
    have e' : b' = b := by lia
    rw [e'] at R ⊢
    rw [if_pos ⟨run_before h R, (contains_iff h hp hb1 hb2).mpr R.prim⟩, List.mem_singleton]
    have := R.le
    have := R.two
    have hl : lastI (startsI x (p : Int)) ((x.length : Int) - (b : Int)).toNat (b : Int) = (s : Int) - 2 * (p : Int) := by
      rcases Int.lt_trichotomy (lastI (startsI x (p : Int)) ((x.length : Int) - (b : Int)).toNat (b : Int)) ((s : Int) - 2 * (p : Int)) with q | q | q
      · exfalso
        refine l3 ?_
        obtain ⟨j, hj⟩ : ∃ j : Nat, lastI (startsI x (p : Int)) ((x.length : Int) - (b : Int)).toNat (b : Int) + 1 = (j : Int) := ⟨(lastI (startsI x (p : Int)) ((x.length : Int) - (b : Int)).toNat (b : Int) + 1).toNat, by lia⟩
        rw [hj]
        exact run_starts h R (by lia) (by lia)
      · exact q
      · exact absurd (l2 _ (by lia) (by lia)) (run_behind h R)
    rw [hl]
    congr 2
    lia

theorem mem_told {x : PySem.Str} (h : Letters x) {r : Int × Int × Int} : r ∈ told x ↔ ∃ b s p, r = (((b : Nat) : Int), ((s : Nat) : Int), ((p : Nat) : Int)) ∧ RunOf x b s p := by
  unfold told rangeKs
  rw [List.mem_flatMap]
  constructor
  · rintro ⟨q, hq, hr⟩
    obtain ⟨i, hi, rfl⟩ := List.mem_map.mp hq
    have hi' := List.mem_range.mp hi
    rw [show (1 : Int) + (i : Int) = ((1 + i : Nat) : Int) by (exact (fun {a} {n} => Int.mem_toNat?.mp) rfl)] at hr
    unfold toldStep at hr
    obtain ⟨z, hz, hr⟩ := List.mem_flatMap.mp hr
    obtain ⟨b, s, _, e, R⟩ := (mem_toldAt h (by (with_reducible exact Nat.le_add_right _ _)) (by lia) hz).mp hr
    exact ⟨b, s, 1 + i, e, R⟩
  · rintro ⟨b, s, p, rfl, R⟩
    have h1 := R.one
    have h2 := R.two
    have h3 := R.le
    refine ⟨(p : Int), List.mem_map.mpr ⟨p - 1, List.mem_range.mpr (by lia), by lia⟩, ?_⟩
    unfold toldStep
    have hz := run_starts h R (Nat.le_refl b) (by (with_reducible assumption))
    exact List.mem_flatMap.mpr ⟨(b : Int), hz, (mem_toldAt h h1 (by lia) hz).mpr ⟨b, s, rfl, rfl, R⟩⟩

theorem nodup_map_cast {l : List Nat} (h : l.Nodup) (f : Nat → Int) (hf : ∀ a b, f a = f b → a = b) : (l.map f).Nodup :=
  List.pairwise_map.mpr (List.Pairwise.imp (fun h e => h (hf _ _ e)) h)
theorem told_nodup (x : PySem.Str) : (told x).Nodup := by
  have at3 : ∀ {q z : Int} {S : List Int} {r : Int × Int × Int}, r ∈ toldAt x q S z → r.1 = z ∧ r.2.2 = q := by
    intro q z S r hr
    unfold toldAt at hr
    split at hr
    · rw [List.mem_singleton.mp hr]
      exact ⟨rfl, rfl⟩
    · cases hr
  unfold told
  refine List.pairwise_flatMap.mpr ⟨fun q _ => ?_, ?_⟩
  · unfold toldStep
    refine List.pairwise_flatMap.mpr ⟨fun z _ => ?_, ?_⟩
    · unfold toldAt
      split
      · exact List.pairwise_singleton _ _
      · exact List.Pairwise.nil
    · refine List.Pairwise.imp ?_ (nodup_map_cast (List.Pairwise.filter _ List.nodup_range) (fun (j : Nat) => (j : Int)) (fun a b e => by lia) : (startsI x q).Nodup)
      intro a b hab r hr r' hr' e
      exact hab ((at3 hr).1.symm.trans ((congrArg (·.1) e).trans (at3 hr').1))
  · refine List.Pairwise.imp ?_ (nodup_map_cast List.nodup_range (fun (i : Nat) => 1 + (i : Int)) (fun a b e => by lia) : (rangeKs 1 (x.length / 2)).Nodup)
    intro a b hab r hr r' hr' e
    unfold toldStep at hr hr'
    obtain ⟨z, _, hz⟩ := List.mem_flatMap.mp hr
    obtain ⟨z', _, hz'⟩ := List.mem_flatMap.mp hr'
    exact hab ((at3 hz).2.symm.trans ((congrArg (·.2.2) e).trans (at3 hz').2))

/-- what is found is what is told -/
theorem found_told {x : PySem.Str} (h : Letters x) : (foundTo x (x.length - 1)).Perm (told x) :=
  (List.perm_ext_iff_of_nodup (foundTo_nodup _) (told_nodup x)).mpr fun _ => (mem_found h).trans (mem_told h).symm
end Mine
end

section
open PySem PySem.W PySem.Calls PySem.Spec PyProof PyProof.Rows
namespace Mine

/-- the sort's questions answered by one order, all of them about the n items -/
def kok (lt : Nat → Nat → Bool) (n : Nat) {α : Type} : KasT α → (α → Prop) → Prop
  | .ret a, Q => Q a
  | .ask i j k, Q => i < n ∧ j < n ∧ kok lt n (k (lt i j)) Q
theorem kok_mono {lt : Nat → Nat → Bool} {n : Nat} {α : Type} {Q Q' : α → Prop} (hq : ∀ a, Q a → Q' a) : ∀ (t : KasT α), kok lt n t Q → kok lt n t Q'
  | .ret a, h => hq a h
  | .ask _ _ k, h => ⟨h.1, h.2.1, kok_mono hq (k _) h.2.2⟩
theorem kok_bind {lt : Nat → Nat → Bool} {n : Nat} {α β : Type} {f : α → KasT β} {Q : β → Prop} : ∀ (t : KasT α), kok lt n t (fun a => kok lt n (f a) Q) → kok lt n (t.bind f) Q
  | .ret _, h => h
  | .ask _ _ k, h => ⟨h.1, h.2.1, kok_bind (k _) h.2.2⟩
theorem kok_wp {lt : Nat → Nat → Bool} {n : Nat} {α : Type} {ask : Nat → Nat → (Bool → Shared → Prop) → Shared → Prop} {s : Shared} {Q : α → Shared → Prop}
    (ha : ∀ i j, i < n → j < n → ∀ C : Bool → Shared → Prop, C (lt i j) s → ask i j C s) : ∀ (t : KasT α), kok lt n t (fun a => Q a s) → t.kasWp ask Q s
  | .ret _, h => h
  | .ask i j k, h => ha i j h.1 h.2.1 _ (kok_wp ha (k _) h.2.2)

/-- an order of the n items -/
structure Pm (n : Nat) (p : Array Nat) : Prop where
  perm : p.Perm (List.range n).toArray
theorem Pm.size {n : Nat} {p : Array Nat} (h : Pm n p) : p.size = n := by rw [h.perm.size_eq]; simp
theorem Pm.toList {n : Nat} {p : Array Nat} (h : Pm n p) : p.toList.Perm (List.range n) := Array.perm_iff_toList_perm.mp h.perm
theorem Pm.at {n : Nat} {p : Array Nat} (h : Pm n p) {i : Nat} (hi : i < n) : p[i]? = some (p.getD i 0) := by
  have := h.size
  have hi' : i < p.size := by ((subst_vars; omega))
  simp [Array.getD, hi']
theorem Pm.lt {n : Nat} {p : Array Nat} (h : Pm n p) {i : Nat} (hi : i < n) : p.getD i 0 < n := by
  have e := h.at hi
  rw [← Array.getElem?_toList] at e
  exact List.mem_range.mp (h.toList.mem_iff.mp (List.mem_of_getElem? e))
theorem Pm.ne {n : Nat} {p : Array Nat} (h : Pm n p) {i j : Nat} (hi : i < n) (hj : j < n) (hij : i ≠ j) : p.getD i 0 ≠ p.getD j 0 := by
  have nd : p.toList.Nodup := h.toList.nodup_iff.mpr List.nodup_range
  have e1 := h.at hi
  have e2 := h.at hj
  rw [← Array.getElem?_toList] at e1 e2
  intro e
  have hs := h.size
  have hl : p.toList.length = n := by rw [Array.length_toList]; exact hs
  rw [e, ← e2] at e1
  exact hij ((List.getElem?_inj (by ((subst_vars; omega))) nd).mp e1)

section
variable {K : Nat → Int} {n : Nat}
noncomputable def kof (K : Nat → Int) (p : Array Nat) (i : Nat) : Int := K (p.getD i 0)
def Up (K : Nat → Int) (p : Array Nat) (m : Nat) : Prop := ∀ i j, i < j → j < m → kof K p i < kof K p j
def Down (K : Nat → Int) (p : Array Nat) (m : Nat) : Prop := ∀ i j, i < j → j < m → kof K p j < kof K p i
def Inj (K : Nat → Int) (n : Nat) : Prop := ∀ i j, i < n → j < n → K i = K j → i = j
noncomputable abbrev ltK (K : Nat → Int) (i j : Nat) : Bool := decide (K i < K j)

theorem kof_ne {p : Array Nat} (P : Pm n p) (I : Inj K n) {i j : Nat} (hi : i < n) (hj : j < n) (h : i ≠ j) : kof K p i ≠ kof K p j := fun e => P.ne hi hj h (I _ _ (P.lt hi) (P.lt hj) e)
theorem up_one {p : Array Nat} : Up K p 1 := fun i j h1 h2 => by lia
theorem up_more {p : Array Nat} {m : Nat} (h : Up K p m) (hm : 1 ≤ m) (hl : kof K p (m - 1) < kof K p m) : Up K p (m + 1) := by
  intro i j h1 h2
  by_cases hj : j < m
  · exact h i j h1 hj
  · have e : j = m := by (exact Nat.eq_of_lt_succ_of_not_lt h2 hj)
    rw [e] at h1 ⊢
    by_cases hi : i = m - 1
    · rw [hi]; exact hl
    · exact Int.lt_trans (h i (m - 1) (by lia) (by (exact Nat.sub_one_lt_of_lt hm))) hl
theorem down_more {p : Array Nat} {m : Nat} (h : Down K p m) (hm : 1 ≤ m) (hl : kof K p m < kof K p (m - 1)) : Down K p (m + 1) := by
  intro i j h1 h2
  by_cases hj : j < m
  · exact h i j h1 hj
  · have e : j = m := by lia
    rw [e] at h1 ⊢
    by_cases hi : i = m - 1
    · rw [hi]; exact hl
    · exact Int.lt_trans hl (h i (m - 1) (by lia) (by lia))

theorem kok_asc {p : Array Nat} (P : Pm n p) (I : Inj K n) : ∀ (f m : Nat), 1 ≤ m → m + f = n → Up K p m → kok (ltK K) n (kas_asc p f m) (fun r => m ≤ r ∧ r ≤ n ∧ Up K p r ∧ (r = n ∨ kof K p r < kof K p (r - 1)))
  | 0, m, h1, h2, hU => ⟨Nat.le_refl _, by (exact Nat.le_of_eq h2), hU, .inl (by (omega))⟩
  | f + 1, m, h1, h2, hU => by
    refine ⟨P.lt (by ((subst_vars; lia))), P.lt (by ((subst_vars; omega))), ?_⟩
    by_cases hl : kof K p m < kof K p (m - 1)
    · have e : ltK K (p.getD m 0) (p.getD (m - 1) 0) = true := decide_eq_true hl
      rw [e]; dsimp only; rw [if_pos rfl]
      exact ⟨Nat.le_refl _, by (exact Nat.le.intro h2), hU, .inr hl⟩
    · have e : ltK K (p.getD m 0) (p.getD (m - 1) 0) = false := decide_eq_false hl
      rw [e]; dsimp only; rw [if_neg Bool.false_ne_true]
      have hne := kof_ne P I (i := m) (j := m - 1) (by lia) (by lia) (by lia)
      exact kok_mono (fun r h => ⟨by lia, h.2⟩) _ (kok_asc P I f (m + 1) (by (with_reducible exact Nat.le_add_left _ _)) (by ((subst_vars; lia))) (up_more hU h1 (by lia)))
theorem kok_desc {p : Array Nat} (P : Pm n p) (I : Inj K n) : ∀ (f m : Nat), 1 ≤ m → m + f = n → Down K p m → kok (ltK K) n (kas_desc f p m 0) (fun r => r.1 = p ∧ r.2.2 = 0 ∧ m ≤ r.2.1 ∧ r.2.1 ≤ n ∧ Down K p r.2.1)
  | 0, m, h1, h2, hU => ⟨rfl, rfl, Nat.le_refl _, by show m ≤ n; lia, hU⟩
  | f + 1, m, h1, h2, hU => by
    refine ⟨P.lt (by lia), P.lt (by lia), ?_⟩
    by_cases hl : kof K p m < kof K p (m - 1)
    · have e : ltK K (p.getD m 0) (p.getD (m - 1) 0) = true := decide_eq_true hl
      rw [e]; dsimp only; rw [if_pos rfl, if_neg (by (decide))]
      exact kok_mono (fun r h => ⟨h.1, h.2.1, by lia, h.2.2.2⟩) _ (kok_desc P I f (m + 1) (by lia) (by lia) (down_more hU h1 hl))
    · have e : ltK K (p.getD m 0) (p.getD (m - 1) 0) = false := decide_eq_false hl
      have hne := kof_ne P I (i := m) (j := m - 1) (by lia) (by lia) (by lia)
      have e2 : ltK K (p.getD (m - 1) 0) (p.getD m 0) = true := decide_eq_true (by show kof K p (m - 1) < kof K p m; lia)
      rw [e]; dsimp only; rw [if_neg Bool.false_ne_true]
      refine ⟨P.lt (by lia), P.lt (by lia), ?_⟩
      rw [e2]; dsimp only; rw [if_pos rfl]
      exact ⟨rfl, rfl, Nat.le_refl _, by show m ≤ n; lia, hU⟩

theorem pm_rev {p : Array Nat} (P : Pm n p) (i j : Nat) : Pm n (kas_rev p i j) := ⟨(mirror_perm _ _ _ _).trans P.perm⟩
theorem getD_of {p q : Array Nat} {i j : Nat} (h : p[i]? = q[j]?) : p.getD i 0 = q.getD j 0 := by
  rw [Array.getD_eq_getD_getElem?, Array.getD_eq_getD_getElem?, h]
theorem up_rev {p : Array Nat} {m : Nat} (P : Pm n p) (hm : m ≤ n) (h : Down K p m) : Up K (kas_rev p 0 m) m := by
  have e : ∀ k, k < m → kof K (kas_rev p 0 m) k = kof K p (m - 1 - k) := fun k hk => by
    unfold kof
    congr 1
    apply getD_of
    unfold kas_rev
    rw [getElem?_mirror_all (by rw [P.size]; exact hm), if_pos ⟨by (with_reducible exact Nat.zero_le _), hk⟩]
    congr 1
    (simp +arith only)
  intro i j h1 h2
  rw [e i (by (with_reducible exact Nat.lt_trans ‹_› ‹_›)), e j h2]
  exact h _ _ (by (grind -ring -linarith only)) (by ((subst_vars; omega)))

theorem kok_count (I : Inj K n) {p : Array Nat} (P : Pm n p) (h1 : 1 ≤ n) : kok (ltK K) n (kas_count n p) (fun r => 1 ≤ r.1 ∧ r.1 ≤ n ∧ Pm n r.2 ∧ Up K r.2 r.1) := by
  unfold kas_count
  refine kok_bind _ (kok_mono (fun m hm => ?_) _ (kok_asc P I (n - 1) 1 (Nat.le_refl _) (by (with_reducible exact Nat.add_sub_of_le ‹_›)) up_one))
  obtain ⟨m1, m2, m3, m4⟩ := hm
  by_cases e : m = n
  · rw [if_pos (by rw [e]; exact beq_self_eq_true _)]
    exact ⟨m1, m2, P, m3⟩
  · rw [if_neg (by simpa using e)]
    by_cases e2 : m > 1
    · rw [if_pos e2]
      refine ⟨P.lt (by (with_reducible exact Nat.lt_of_succ_le ‹_›)), P.lt (by (exact Nat.sub_one_lt_of_le m1 m2)), ?_⟩
      have e3 : ltK K (p.getD 0 0) (p.getD (m - 1) 0) = true := decide_eq_true (m3 0 (m - 1) (by (with_reducible exact Nat.sub_pos_of_lt ‹_›)) (by lia))
      rw [e3]; dsimp only; rw [if_pos rfl]
      exact ⟨m1, m2, P, m3⟩
    · rw [if_neg e2]
      have em : m = 1 := by lia
      subst em
      have hd : kof K p 1 < kof K p 0 := by
        rcases m4 with q | q
        · (with_reducible exact absurd ‹_› ‹_›)
        · exact q
      have hD : Down K p 2 := fun i j a b => by
        have ei : i = 0 := by lia
        have ej : j = 1 := by ((subst_vars; lia))
        rw [ei, ej]; exact hd
      unfold kas_descPart
      refine kok_bind _ (kok_mono (fun r hr => ?_) _ (kok_desc P I (n - 2) 2 (by (with_reducible exact Nat.le_add_left _ _)) (by lia) hD))
      obtain ⟨p', m', q'⟩ := r
      obtain ⟨r1, r2, r3, r4, r5⟩ := hr
      dsimp only at r1 r2 r3 r4 r5
      subst r1 r2
      rw [if_neg (by simp)]
      unfold kas_tail3
      refine kok_bind _ (kok_mono (fun r hr => ?_) _ (kok_asc (pm_rev P 0 m') I (n - m') m' (by (with_reducible exact Nat.le_of_succ_le ‹_›)) (by (with_reducible exact Nat.add_sub_of_le ‹_›)) (up_rev P r4 r5)))
      exact ⟨by lia, hr.2.1, pm_rev P 0 m', hr.2.2.1⟩

theorem kok_place {p : Array Nat} (P : Pm n p) (I : Inj K n) {k : Nat} (hk : k < n) (hU : Up K p k) : ∀ (f l r : Nat), l ≤ r → r ≤ k → r - l ≤ f → (∀ i, i < l → kof K p i < kof K p k) → (∀ i, r ≤ i → i < k → kof K p k < kof K p i) →
    kok (ltK K) n (kas_place p k f l r) (fun l' => l' ≤ k ∧ (∀ i, i < l' → kof K p i < kof K p k) ∧ (∀ i, l' ≤ i → i < k → kof K p k < kof K p i))
  | 0, l, r, h1, h2, h3, hlo, hhi => ⟨by (with_reducible exact Nat.le_trans ‹_› ‹_›), hlo, fun i a b => hhi i (by lia) b⟩
  | f + 1, l, r, h1, h2, h3, hlo, hhi => by
    unfold kas_place
    by_cases e : l ≥ r
    · rw [if_pos e]
      exact ⟨by (with_reducible exact Nat.le_trans ‹_› ‹_›), hlo, fun i a b => hhi i (by (with_reducible exact Nat.le_trans ‹_› ‹_›)) b⟩
    · rw [if_neg e]
      refine ⟨P.lt (by ((subst_vars; omega))), P.lt (by lia), ?_⟩
      by_cases hl : kof K p k < kof K p ((l + r) / 2)
      · have e2 : ltK K (p.getD k 0) (p.getD ((l + r) / 2) 0) = true := decide_eq_true hl
        rw [e2]; dsimp only; rw [if_pos rfl]
        refine kok_place P I hk hU f l ((l + r) / 2) (by lia) (by lia) (by (grind -ring -linarith only)) hlo fun i a b => ?_
        by_cases hi : i = (l + r) / 2
        · rw [hi]; exact hl
        · exact Int.lt_trans hl (hU _ _ (by (exact Nat.lt_of_le_of_ne a fun a => hi (id (Eq.symm a)))) b)
      · have e2 : ltK K (p.getD k 0) (p.getD ((l + r) / 2) 0) = false := decide_eq_false hl
        have hne := kof_ne P I (i := k) (j := (l + r) / 2) hk (by lia) (by lia)
        rw [e2]; dsimp only; rw [if_neg Bool.false_ne_true]
        refine kok_place P I hk hU f ((l + r) / 2 + 1) r (by lia) h2 (by (grind -ring -linarith only)) (fun i a => ?_) hhi
        by_cases hi : i = (l + r) / 2
        · rw [hi]; lia
        · have := hU i ((l + r) / 2) (by lia) (by lia)
          lia

theorem kok_bin (I : Inj K n) : ∀ (f : Nat) (p : Array Nat) (k : Nat), Pm n p → 1 ≤ k → k + f = n → Up K p k → kok (ltK K) n (kas_bin f p k) (fun r => Pm n r ∧ Up K r n)
  | 0, p, k, P, h1, h2, hU => ⟨P, by rw [← h2]; exact hU⟩
  | f + 1, p, k, P, h1, h2, hU => by
    unfold kas_bin
    refine kok_bind _ (kok_mono (fun l hl => ?_) _ (kok_place P I (by lia) hU k 0 k (by lia) (Nat.le_refl _) (by lia) (fun i a => by lia) (fun i a b => by lia)))
    obtain ⟨l1, l2, l3⟩ := hl
    have P' : Pm n (bubble p k (k - l)) := ⟨(bubble_perm _ _ _).trans P.perm⟩
    refine kok_bin I f _ (k + 1) P' (by lia) (by lia) ?_
    have e : ∀ i, kof K (bubble p k (k - l)) i = if i = l then kof K p k else if l < i ∧ i ≤ k then kof K p (i - 1) else kof K p i := by
      intro i
      have hb := getElem?_bubble (xs := p) (src := k) (by rw [P.size]; lia) (k - l) (by lia) i
      rw [show k - (k - l) = l by lia] at hb
      unfold kof
      split
      · rename_i h
        rw [if_pos h] at hb
        rw [getD_of hb]
      · rename_i h
        rw [if_neg h] at hb
        split
        · rename_i h'
          rw [if_pos h'] at hb
          rw [getD_of hb]
        · rename_i h'
          rw [if_neg h'] at hb
          rw [getD_of hb]
    intro i j hij hj
    rw [e i, e j]
    repeat' split
    all_goals first
      | (exfalso; lia)
      | exact l2 _ (by lia)
      | exact l3 _ (by lia) (by lia)
      | exact hU _ _ (by lia) (by lia)

theorem kok_sort (I : Inj K n) (h1 : 1 ≤ n) : kok (ltK K) n (kas_sort n) (fun p => Pm n p ∧ Up K p n) := by
  unfold kas_sort
  refine kok_bind _ (kok_mono (fun r hr => ?_) _ (kok_count I ⟨Array.Perm.refl _⟩ h1))
  obtain ⟨r1, r2, r3, r4⟩ := hr
  by_cases e : r.1 < n
  · rw [if_pos e, show max r.1 1 = r.1 by (exact Nat.max_eq_left r1)]
    exact kok_bin I _ _ _ r3 r1 (by (with_reducible exact Nat.add_sub_of_le ‹_›)) r4
  · rw [if_neg e]
    have e2 : r.1 = n := by lia
    rw [e2] at r4
    exact ⟨r3, r4⟩
end
end Mine
end

section
open PySem PySem.W PySem.Calls PySem.Spec PyProof PyProof.Rows
namespace Mine

noncomputable def key (r : Int × Int × Int) : Int := r.1 * 10000 + r.2.1 * 100 + r.2.2
def Small (r : Int × Int × Int) : Prop := 0 ≤ r.1 ∧ r.1 < 100 ∧ 0 ≤ r.2.1 ∧ r.2.1 < 100 ∧ 0 ≤ r.2.2 ∧ r.2.2 < 100
theorem key_inj {a b : Int × Int × Int} (ha : Small a) (hb : Small b) (h : key a = key b) : a = b := by
  obtain ⟨a1, a2, a3⟩ := a
  obtain ⟨b1, b2, b3⟩ := b
  unfold key at h
  unfold Small at ha hb
  dsimp only at h ha hb
  have e1 : a1 = b1 := by lia
  have e2 : a2 = b2 := by ((subst_vars; lia))
  have e3 : a3 = b3 := by ((subst_vars; lia))
  rw [e1, e2, e3]

section
variable {prog : Program} {w : World} {A : Around} {E : Value → Shared → Prop} {s : Shared} {h₀ : Heap} {L : Addr} {m : Str → Option Value} {led news : List (Addr × Obj)} {vs : List Value} {ts : List (Int × Int × Int)}

theorem lt_tups {x y : Addr} {a b c a' b' c' : Int} {t1 t2 t3 u1 u2 u3 : Tok} {Q : Bool → Shared → Prop} (hx : s.heap.get? x = some (tup3 a b c t1 t2 t3)) (hy : s.heap.get? y = some (tup3 a' b' c' u1 u2 u3))
    (sx : Small (a, b, c)) (sy : Small (a', b', c')) (h : Q (decide (key (a, b, c) < key (a', b', c'))) s) : wpAny (model prog w) A (keyLt' (tuples' true) (.ref x) (.ref y)) Q E s := by
  unfold Small at sx sy
  unfold key at h
  dsimp only at sx sy h
  refine kat_lt (b := true) hx rfl hy rfl ?_
  show KatLex prog w A true (decide (3 < 3)) Q [(.int a t1, .int a' u1), (.int b t2, .int b' u2), (.int c t3, .int c' u3)] 0 s
  refine kat_cons (wpAny_eqBool_int ?_)
  refine kat_go (fun e => kat_yes ?_) (fun e => kat_no ?_)
  · have e1 : a = a' := by simpa using e
    refine kat_cons (wpAny_eqBool_int ?_)
    refine kat_go (fun e => kat_yes ?_) (fun e => kat_no ?_)
    · have e2 : b = b' := by simpa using e
      refine kat_cons (wpAny_eqBool_int ?_)
      refine kat_go (fun e => kat_yes ?_) (fun e => kat_no ?_)
      · have e3 : c = c' := by simpa using e
        refine kat_nil ?_
        have e4 : decide (a * 10000 + b * 100 + c < a' * 10000 + b' * 100 + c') = decide (3 < 3) := by
          rw [decide_eq_decide]
          ((subst_vars; lia))
        rw [e4] at h
        exact h
      · have e3 : c ≠ c' := by simpa using e
        show wpAny (model prog w) A (oneLt' false _ _) Q _ s
        refine kat_one _ _ (wpAny_lt_int ?_)
        show Q (decide (c < c')) s
        have e4 : decide (a * 10000 + b * 100 + c < a' * 10000 + b' * 100 + c') = decide (c < c') := by
          rw [decide_eq_decide]
          ((subst_vars; lia))
        rw [e4] at h
        exact h
    · have e2 : b ≠ b' := by simpa using e
      show wpAny (model prog w) A (oneLt' false _ _) Q _ s
      refine kat_one _ _ (wpAny_lt_int ?_)
      show Q (decide (b < b')) s
      have e4 : decide (a * 10000 + b * 100 + c < a' * 10000 + b' * 100 + c') = decide (b < b') := by
        rw [decide_eq_decide]
        ((subst_vars; omega))
      rw [e4] at h
      exact h
  · have e1 : a ≠ a' := by simpa using e
    show wpAny (model prog w) A (oneLt' true _ _) Q _ s
    refine oneLt_int ?_
    have e4 : decide (a * 10000 + b * 100 + c < a' * 10000 + b' * 100 + c') = decide (a < a') := by
      rw [decide_eq_decide]
      lia
    rw [e4] at h
    exact h

theorem TupsAre.at {vs : List Value} {ts : List (Int × Int × Int)} (H : TupsAre led vs ts) : ∀ i, i < vs.length → ∃ r t1 t2 t3, vs.getD i .none = .ref r ∧ (r, tup3 (ts.getD i (0, 0, 0)).1 (ts.getD i (0, 0, 0)).2.1 (ts.getD i (0, 0, 0)).2.2 t1 t2 t3) ∈ led := by
  induction H with
  | nil => intro i hi; exact absurd hi (Nat.not_lt_zero _)
  | cons hm _ ih =>
    intro i hi
    cases i with
    | zero => exact ⟨_, _, _, _, rfl, hm⟩
    | succ i => exact ih i (Nat.lt_of_succ_lt_succ hi)
theorem TupsAre.pick (h : TupsAre led vs ts) : ∀ (is : List Nat), (∀ i ∈ is, i < vs.length) → TupsAre led (is.map fun i => vs.getD i .none) (is.map fun i => ts.getD i (0, 0, 0))
  | [], _ => .nil
  | i :: is, hi => by
    obtain ⟨r, t1, t2, t3, e, hm⟩ := h.at i (hi i (.head _))
    rw [List.map_cons, List.map_cons, e]
    exact .cons hm (h.pick is fun j hj => hi j (.tail _ hj))
theorem tups_firsts {h : Heap} (N : News h₀ L h led) {vs : List Value} {ts : List (Int × Int × Int)} (H : TupsAre led vs ts) : ∃ fs, KatTups h vs fs ∧ fs.length = vs.length ∧ ∀ v ∈ fs, ∃ n t, v = Value.int n t := by
  induction H with
  | nil => exact ⟨[], KatTups.nil, rfl, fun _ hv => nomatch hv⟩
  | cons hm _ ih =>
    obtain ⟨fs, h1, h2, h3⟩ := ih
    refine ⟨.int _ _ :: fs, KatTups.cons (N _ hm).1 rfl rfl rfl h1, congrArg Nat.succ h2, fun v hv => ?_⟩
    rcases List.mem_cons.mp hv with rfl | hv
    · exact ⟨_, _, rfl⟩
    · exact h3 v hv

/-- sorted of a list of one item or none: the same items -/
theorem sorted_few {l : Addr} {Q : Value → Shared → Prop} (F : Fr h₀ L s.heap m) (N : News h₀ L s.heap news) (hl : s.heap.IsList l vs.toArray) (h2 : vs.length < 2)
    (h : ∀ D c h', Fr h₀ L h' m → News h₀ L h' ((D, listOf vs.toArray c) :: news) → (∀ q ∈ news, q.1 < D) → Q (.ref D) { s with heap := h' }) : wpAny (model prog w) A (call (.builtin "sorted") [.ref l]) Q E s := by
  have hlt := F.ns.lt
  have hFn := F.above
  refine Calls.call_function_entry kind_sorted plain_sorted entry_sorted (args_sorted1 _) ?_
  unfold Builtin.«sorted»
  refine wpAny_bind (m := checkCount "sorted" 1 1 _) (wpAny_pure ?_)
  refine wpAny_bind (collect_list hl ?_ (by rw [sizeLine_eq]; lia))
  refine wpAny_bind (wpAny_newList ?_ (by rw [sizeLine_eq]; lia))
  generalize hg : ((s.heap.push (seqObj "list" #[] 0)).update s.heap.objs.size (Obj.mapSeq (· ++ vs.toArray))) = g
  have gsz : g.objs.size = s.heap.objs.size + 1 := by rw [← hg, Heap.size_update, size_push']
  have gkeep : ∀ b o, s.heap.get? b = some o → g.get? b = some o := fun b o q => by
    have hb : b < s.heap.objs.size := Heap.lt_size q
    rw [← hg, Heap.get?_update_ne _ _ _ _ (Nat.ne_of_lt hb), Heap.get?_push_ne _ _ _ (Nat.ne_of_lt hb)]
    exact q
  have ho : (g.push (seqObj "list" vs.toArray 0)).get? g.objs.size = some (seqObj "list" vs.toArray 0) := Heap.get?_push_size _ rfl
  refine wpAny_bind (wpAny_holding (wpAny_call_entry slot_list_sort ⟨_, ho, rfl⟩ entry_list_sort ?body (args_list_sort _)))
  case body =>
    rw [list_sort_plain]
    refine wpAny_bind (listItems_at ho rfl ?_)
    refine wpAny_bind (listUpdate_at ho rfl ?_ (by rw [List.size_toArray, sizeLine_eq]; lia) (Nat.zero_le _))
    obtain ⟨e1, ho1⟩ : ∃ e1, ((g.push (seqObj "list" vs.toArray 0)).update g.objs.size (Obj.mapSeq fun _ => #[])).get? g.objs.size = some (seqObj "list" #[] e1) := ⟨_, get?_update_seq ho (fun _ => #[])⟩
    refine wpAny_bind (seqEpoch_at ho1 rfl ?_)
    refine wpAny_bind (wpAny_newTuple ?_ (by show vs.length ≤ _; rw [sizeLine_eq]; lia))
    refine wpAny_bind (wpAny_newList ?_ (Nat.zero_le _))
    refine wpAny_holding ?_
    have s1 := Heap.SameBut.update (g.push (seqObj "list" vs.toArray 0)) g.objs.size (Obj.mapSeq fun _ => (#[] : Array Value))
    generalize hk : (((g.push (seqObj "list" vs.toArray 0)).update g.objs.size (Obj.mapSeq fun _ => #[])).push (seqObj "tuple" vs.toArray 0)).push (seqObj "list" #[] 0) = k
    have hks : ∀ b o, ((g.push (seqObj "list" vs.toArray 0)).update g.objs.size (Obj.mapSeq fun _ => #[])).get? b = some o → k.get? b = some o := fun b o q => by
      rw [← hk]; exact Heap.get?_push_of_some _ (Heap.get?_push_of_some _ q)
    have ho2 := hks _ _ ho1
    have kkeep : ∀ b o, s.heap.get? b = some o → k.get? b = some o := fun b o q => by
      have hb : b < s.heap.objs.size := Heap.lt_size q
      have hb' : b ≠ g.objs.size := Nat.ne_of_lt (by rw [gsz]; exact Nat.lt_succ_of_lt hb)
      refine hks _ _ ?_
      rw [Heap.get?_update_ne _ _ _ _ hb', Heap.get?_push_ne _ _ _ hb']
      exact gkeep _ _ q
    have hFk : Fr h₀ L k m := F.kept kkeep
    have hNk : News h₀ L k news := N.grown kkeep
    have hD0 : h₀.get? g.objs.size = none := Heap.get?_none_of_le (Nat.le_trans hFn (by rw [gsz]; exact Nat.le_succ_of_le (Nat.le_of_lt hlt)))
    have hDL : g.objs.size ≠ L := Nat.ne_of_gt (by rw [gsz]; exact Nat.lt_succ_of_lt hlt)
    have hlo : ∀ q ∈ news, q.1 < g.objs.size := fun q hq => by rw [gsz]; exact Nat.lt_succ_of_lt (Heap.lt_size (N q hq).1)
    show wpAny (model prog w) _ _ _ E { s with heap := k }
    dsimp only
    have hn2 : vs.toArray.size < 2 := by rw [List.size_toArray]; exact h2
    rw [if_pos hn2, if_pos hn2]
    refine wpAny_bind (wpAny_pure ?_)
    rw [StateT.run_pure]
    refine wpAny_bind (wpAny_pure ?_)
    dsimp only
    have hout : ((vs.toArray.zip vs.toArray).map (·.2)) = vs.toArray := by
      apply Array.toList_inj.mp
      rw [Array.toList_map, Array.toList_zip]
      exact List.map_snd_zip (Nat.le_refl _)
    refine wpAny_bind (seqEpoch_at ho2 rfl ?_)
    show wpAny (model prog w) _ (do Builtin.List.listUpdate (.ref g.objs.size) fun _ => ((vs.toArray.zip vs.toArray).map (·.2)); _) _ E _
    rw [hout]
    refine wpAny_bind (listUpdate_at ho2 rfl ?_ (Nat.zero_le _) (by show vs.toArray.size ≤ _; rw [List.size_toArray, sizeLine_eq]; lia))
    simp only [bne_self_eq_false, Bool.false_eq_true, if_false]
    refine wpAny_pure ⟨_, rfl, wpAny_pure ⟨_, rfl, ?_⟩⟩
    have s2 := Heap.SameBut.update k g.objs.size (Obj.mapSeq fun _ => vs.toArray)
    obtain ⟨c2, hc2⟩ : ∃ c2, (k.update g.objs.size (Obj.mapSeq fun _ => vs.toArray)).get? g.objs.size = some (seqObj "list" vs.toArray c2) := ⟨_, get?_update_seq ho2 fun _ => vs.toArray⟩
    refine h _ c2 _ (kas_fr hFk s2 hDL hD0) (fun p hp => ?_) hlo
    rcases List.mem_cons.mp hp with rfl | hp
    · exact ⟨hc2, hDL, hD0⟩
    · exact kas_news hNk s2 (fun q hq => Nat.ne_of_lt (hlo q hq)) p hp

/-- sorted of a list of small tuples, no two the same -/
theorem sorted_tups {l : Addr} {k : Nat} {Q : Value → Shared → Prop} (F : Fr h₀ L s.heap m) (N : News h₀ L s.heap news) (hl : (l, listOf vs.toArray k) ∈ news) (ht : TupsAre news vs ts) (hsm : ∀ r ∈ ts, Small r) (hnd : ts.Nodup) (h64 : ts.length < 64)
    (h : ∀ D c us ss h', Fr h₀ L h' m → News h₀ L h' ((D, listOf us.toArray c) :: news) → (∀ q ∈ news, q.1 < D) → TupsAre news us ss → ss.Perm ts → ss.Pairwise (fun a b => key a ≤ key b) → Q (.ref D) { s with heap := h' }) :
    wpAny (model prog w) A (call (.builtin "sorted") [.ref l]) Q E s := by
  have hlen := ht.length
  have hL : s.heap.IsList l vs.toArray := ⟨_, (N _ hl).1, rfl, k, rfl⟩
  by_cases h2 : vs.length < 2
  · refine sorted_few F N hL h2 fun D c h' F' N' lo => h D c vs ts h' F' N' lo ht (List.Perm.refl _) ?_
    rw [hlen] at h2
    cases ts with
    | nil => exact List.Pairwise.nil
    | cons a r =>
      cases r with
      | nil => exact List.pairwise_singleton _ _
      | cons b r => exact absurd h2 (Nat.not_lt_of_le (Nat.le_add_left 2 r.length))
  · refine kat_sorted F N hL (by (with_reducible exact Nat.le_of_not_lt ‹_›)) (by (exact lt_of_eq_of_lt hlen h64)) fun D e1 h' F' N' lo => ?_
    have N₂ : News h₀ L h' news := fun p hp => N' p (.tail _ hp)
    obtain ⟨fs, f1, f2, f3⟩ := tups_firsts N₂ ht
    refine kat_kind (T := .type "int") f1 (by lia) (fun v hv => by obtain ⟨n, t, rfl⟩ := f3 v hv; exact Looks.of_pure rfl) (by decide) ?_
    show (kas_sort vs.length).kasWp (kas_ask prog w A.in1.in1 (tuples' true) vs) _ _
    have hget : ∀ i, i < vs.length → ts.getD i (0, 0, 0) ∈ ts := fun i hi => by
      have hi' : i < ts.length := by (exact Nat.lt_of_lt_of_eq hi hlen)
      have e : ts.getD i (0, 0, 0) = ts[i] := by simp [hi']
      rw [e]
      exact List.getElem_mem _
    have inj : Inj (fun i => key (ts.getD i (0, 0, 0))) vs.length := fun i j hi hj e => by
      have e2 := key_inj (hsm _ (hget i hi)) (hsm _ (hget j hj)) e
      have hi' : i < ts.length := by lia
      have hj' : j < ts.length := by lia
      have q1 : ts[i]? = ts[j]? := by
        have a1 : ts.getD i (0, 0, 0) = ts[i] := by simp [hi']
        have a2 : ts.getD j (0, 0, 0) = ts[j] := by simp [hj']
        rw [a1, a2] at e2
        simp [hi', hj', e2]
      exact (List.getElem?_inj hi' hnd).mp q1
    refine kok_wp (lt := ltK fun i => key (ts.getD i (0, 0, 0))) (n := vs.length) (fun i j hi hj C hC => ?_) _ (kok_mono (fun p hp => ?_) _ (kok_sort inj (by lia)))
    · obtain ⟨r, t1, t2, t3, e, hm⟩ := ht.at i hi
      obtain ⟨r', u1, u2, u3, e', hm'⟩ := ht.at j hj
      unfold kas_ask
      rw [e, e']
      exact lt_tups (N₂ _ hm).1 (N₂ _ hm').1 (hsm _ (hget i hi)) (hsm _ (hget j hj)) hC
    · obtain ⟨P, U⟩ := hp
      refine KasFin.intro F' N' (.head fun q hq => Nat.ne_of_lt (lo q hq)) fun h'' c F'' N'' => ?_
      have hps := P.size
      have hpl : p.toList.length = vs.length := by rw [Array.length_toList]; exact hps
      have hin : ∀ i ∈ p.toList, i < vs.length := fun i hi => List.mem_range.mp (P.toList.mem_iff.mp hi)
      refine h D c _ (p.toList.map fun i => ts.getD i (0, 0, 0)) h'' F'' N'' lo (ht.pick _ hin) ?_ ?_
      · have e : (List.range vs.length).map (fun i => ts.getD i (0, 0, 0)) = ts := by
          apply List.ext_getElem?
          intro i
          rw [List.getElem?_map]
          by_cases hi : i < vs.length
          · have hi' : i < ts.length := by lia
            simp [List.getElem?_range hi, hi']
          · rw [List.getElem?_eq_none (by simp; (with_reducible exact Nat.le_of_not_lt ‹_›)), List.getElem?_eq_none (by lia)]
            rfl
        have := P.toList.map (fun i => ts.getD i (0, 0, 0))
        rw [e] at this
        exact this
      · rw [List.pairwise_map, List.pairwise_iff_getElem]
        intro i j hi hj hij
        have hu := U i j hij (by (exact Nat.lt_of_lt_of_eq hj hps))
        have a1 : p.getD i 0 = p.toList[i] := by
          have : i < p.size := by rw [← Array.length_toList]; exact hi
          simp [Array.getD, this]
        have a2 : p.getD j 0 = p.toList[j] := by
          have : j < p.size := by rw [← Array.length_toList]; exact hj
          simp [Array.getD, this]
        unfold kof at hu
        rw [a1, a2] at hu
        exact Int.le_of_lt hu
end

theorem sorted_same {a b : List (Int × Int × Int)} (hp : a.Perm b) (hs : ∀ r ∈ a, Small r) (ha : a.Pairwise fun x y => key x ≤ key y) (hb : b.Pairwise fun x y => key x ≤ key y) : a = b :=
  List.Perm.eq_of_pairwise (fun x y hx hy h1 h2 => key_inj (hs x hx) (hs y (hp.mem_iff.mpr hy)) (by (exact Int.le_antisymm h1 h2))) ha hb hp
end Mine
end

section
open PySem PySem.W PySem.Calls PySem.Spec PyProof PyProof.Rows PyProof.Rows.LCg
namespace Mine
section
variable {prog : Program} {w : World} {A : Around} {E : Value → Shared → Prop} {s : Shared} {h₀ : Heap} {L : Addr} {m : Str → Option Value} {env : Env}

def StrSrc (prog : Program) (w : World) (A : Around) (h₀ : Heap) (L : Addr) (m : Str → Option Value) (env : Env) (elt : Expr) (x : Str) (scope : Scope) (cl : List (Str × Addr)) (Fin : Shared → List Value → List (Addr × Obj) → Prop) (xv : Value) (s₁ : Shared) : Prop :=
  ∃ (z : Str) (t : Tok) (news : List (Addr × Obj)), xv = .str z t ∧ A.handled = none ∧ Fr h₀ L s₁.heap m ∧ News h₀ L s₁.heap news ∧ z.length ≤ sizeLine ∧
    ∀ s₂ : Shared, (∃ h, s₂ = { s₁ with heap := h }) → CompRest prog w A h₀ L m env elt x scope cl s₂ (fun _ => True) (SignAt z) (Fin s₂) z.cps.size 0 [] news

theorem Assign_ListComp_S {elt iter : Expr} {x y : Str} {px py : Pos} {scope : Scope} {cl : List (Str × Addr)} {pos spos : Pos} {Q : Flow → Shared → Prop} (F₀ : Fr h₀ L s.heap m) (hLe : env.locals = L)
    (hsw : swapsWith (.ListComp elt [⟨.Name x px, iter, [], 0⟩] scope pos) (some (.Name y py)) spos.line env = pure true)
    (hclos : closureFor scope env = pure cl) (hcell : ∀ z ∈ scope.names, z.2 ≠ .cell) (hkind : scope.kind = .function)
    (hnames : ∀ z ∈ scope.names, z.2 = .local → scope.names.lookup z.1 = some .local) (hx : scope.names.lookup x = some .local)
    (hy : env.kindOf y = some .local) (hp : (env.scope.kind == .class || (env.scope.kind == .module && env.locals != env.globals)) = false)
    (h : wpAny (model prog w) A (eval iter env) (StrSrc prog w A h₀ L m env elt x scope cl (fun s₂ => FinA h₀ L m s₂ y Q)) E s)
    (hs : ∀ x, foldedSetIterable iter env x = pure x) :
    wpAny (model prog w) A (exec (.Assign [.Name y py] (.ListComp elt [⟨.Name x px, iter, [], 0⟩] scope pos) spos) env) Q E s := by
  subst hLe
  rw [exec_Assign_Name_used _ _ _ _ hsw]
  refine wpAny_bind (wpAny_standAt (wpAny_bind ?_))
  show wpAny _ A (do let _ ← comprehension (.ListComp elt [⟨.Name x px, iter, [], 0⟩] scope pos) scope env _ (newList []) false (eval iter env) (some (assign (.Name y py) env))) _ _ s
  refine wpAny_bind (wpAny_mono (wpAny_comprehension_free (use := some (assign (.Name y py) env)) (Q := fun _ s' => Q .next s') rfl hs hclos hkind hnames
    (wpAny_mono h (fun xv s₁ h₁ => ?_) fun _ _ e => e)) (fun _ s' hq => wpAny_pure (wpAny_pure hq)) fun _ _ e => e)
  obtain ⟨z, t, news, rfl, hh, F, N, hsz, R⟩ := h₁
  have fin : ∀ (D C : Addr) h' tk m' ys news', Fr h₀ env.locals h' m → News h₀ env.locals h' ((D, lst ys) :: news') → Off1 D news' → h'.Ns C m' → h₀.get? C = none → h₀.get? D = none → C ≠ env.locals → D ≠ env.locals → C ≠ D → (∀ p ∈ news', p.1 ≠ C) → ∀ s₂ : Shared, FinA h₀ env.locals m s₂ y Q ys news' →
      wpAny (model prog w) A (assign (.Name y py) env (.ref D)) (fun _ s' => ∃ m'', s'.heap.Ns C m'' ∧ ∀ h'', Heap.SameBut C s'.heap h'' → Q .next { s' with heap := h'' }) E { s₂ with heap := h', toks := tk } := by
    intro D C h' tk m' ys news' F' N' o1 hn hC₀ hD₀ hCL hDL hCD offC s₂ fin
    refine wpAny_assign_Name (wpAny_storeName_local hy F'.ns (fun h₂ hn₂ hs₂ => ?_) hp)
    have hL₀ : h₀.get? env.locals = none := Heap.get?_none_of_le F'.above
    have F₂ : Fr h₀ env.locals h₂ (fun z => if z = y then some (.ref D) else m z) := ⟨hn₂, fun b o e => hs₂.extBut b o (fun q => by rw [q, hL₀] at e; cases e) (F'.keep b o e), F'.above⟩
    refine ⟨m', hn.sameBut hs₂ hCL, fun h'' hs'' => fin D h'' _ (F₂.change hs'' hCL hC₀) (fun p hp => ?_) o1⟩
    have z : h₂.get? p.1 = some p.2 := hs₂.extBut _ _ (N' p hp).2.1 (N' p hp).1
    refine ⟨hs''.extBut _ _ ?_ z, (N' p hp).2⟩
    rcases List.mem_cons.mp hp with rfl | hp
    · exact Ne.symm hCD
    · exact offC p hp
  have st : ∀ (cls : String), ∀ i (h h' : Heap) (o : Obj) (nw : List (Addr × Obj)), h.IsStrIter s₁.heap.objs.size cls z t i → h.get? s₁.heap.objs.size = some o → h'.get? s₁.heap.objs.size = some o → (∀ b o, h₀.get? b = some o → h'.get? b = some o) → News h₀ env.locals h' nw → True → h'.IsStrIter s₁.heap.objs.size cls z t i :=
    fun cls i h h' o nw st e e' _ _ _ => by
      obtain ⟨o', q, r⟩ := st
      rw [e] at q; cases q
      exact ⟨o, e', r⟩
  cases ha : z.cps.all (· < 128)
  · refine wpAny_pyIter_wide ha ?_
    refine block_U (Walks.strWide hh _ z t) hsz (fun i h st => by obtain ⟨o, e, _⟩ := st; exact ⟨o, e⟩) (st _) hcell hkind hx ⟨_, Heap.get?_push_size _ rfl, rfl, rfl⟩ (fun b hb => ?_)
      (F.keeps fun _ _ e => Heap.get?_push_of_some _ e) (N.grown fun _ _ e => Heap.get?_push_of_some _ e) (Nat.ne_of_lt F.ns.lt) (next_is_new F) (fun p hp => Nat.ne_of_lt (Heap.lt_size (N p hp).1)) trivial (R _ ⟨_, rfl⟩) ?_
    · rw [List.mem_singleton.mp hb]
      show s₁.heap.objs.size < (s₁.heap.push _).objs.size
      rw [Heap.size_push]; exact Nat.lt_succ_self _
    · intro D C h' tk m' ys news' F' N' o1 hn hC₀ hD₀ hCL hDL hCD offC hf
      exact fin D C h' tk m' ys news' F' N' o1 hn hC₀ hD₀ hCL hDL hCD offC _ hf
  · refine wpAny_pyIter_ascii ha ?_
    refine block_U (Walks.strAscii hh _ z t) hsz (fun i h st => by obtain ⟨o, e, _⟩ := st; exact ⟨o, e⟩) (st _) hcell hkind hx ⟨_, Heap.get?_push_size _ rfl, rfl, rfl⟩ (fun b hb => ?_)
      (F.keeps fun _ _ e => Heap.get?_push_of_some _ e) (N.grown fun _ _ e => Heap.get?_push_of_some _ e) (Nat.ne_of_lt F.ns.lt) (next_is_new F) (fun p hp => Nat.ne_of_lt (Heap.lt_size (N p hp).1)) trivial (R _ ⟨_, rfl⟩) ?_
    · rw [List.mem_singleton.mp hb]
      show s₁.heap.objs.size < (s₁.heap.push _).objs.size
      rw [Heap.size_push]; exact Nat.lt_succ_self _
    · intro D C h' tk m' ys news' F' N' o1 hn hC₀ hD₀ hCL hDL hCD offC hf
      exact fin D C h' tk m' ys news' F' N' o1 hn hC₀ hD₀ hCL hDL hCD offC _ hf

/-- the numbers of a text, sign for sign -/
theorem str_ints {elt : Expr} {x : Str} {scope : Scope} {cl : List (Str × Addr)} {S : List (Addr × Obj) → Prop} {Fin : List Value → List (Addr × Obj) → Prop} {news : List (Addr × Obj)} {z : Str} (g : Nat → Int)
    (turn : ∀ (c : Nat) (u : Tok) I oI C oC D m₂ ys h tk (E' : Value → Shared → Prop), c ∈ z.cps.toList → NsObj oC m₂ → m₂ x = some (.str ⟨#[c]⟩ u) → Fr h₀ L h m → News h₀ L h ((I, oI) :: (C, oC) :: (D, lst ys) :: news) → Off3 I C D news → ((@Ne Nat I C) ∧ (@Ne Nat I D) ∧ (@Ne Nat C D)) →
      wpAny (model prog w) A (eval elt (compEnvC scope cl C env)) (CompEnd h₀ L m { s with heap := h, toks := tk } I oI C oC D (lst ys) S (fun y news' => news' = news ∧ ∃ t, y = .int (g c) t)) E' { s with heap := h, toks := tk })
    (fin : ∀ ys, IntsAre ys (z.cps.toList.map g) → Fin ys news) : CompRest prog w A h₀ L m env elt x scope cl s S (SignAt z) Fin z.cps.size 0 [] news := by
  have key : ∀ (j i : Nat) (ys : List Value), i + j = z.cps.size → IntsAre ys ((z.cps.toList.take i).map g) → CompRest prog w A h₀ L m env elt x scope cl s S (SignAt z) Fin j i ys news := by
    intro j
    induction j with
    | zero =>
      intro i ys hi hy
      rw [List.take_of_length_le (by rw [Array.length_toList]; lia)] at hy
      exact CompRest.zero (fin ys hy)
    | succ j ih =>
      intro i ys hi hy
      refine CompRest.succ ?_
      intro v I oI C oC D m₂ h tk E' hv hC hx F N off ne
      obtain ⟨c, u, hc, rfl⟩ := hv
      have hc' : z.cps.toList[i]? = some c := by rw [Array.getElem?_toList]; exact hc
      refine wpAny_mono (turn c u I oI C oC D m₂ ys h tk E' (List.mem_of_getElem? hc') hC hx F N off ne) (fun y s₂ hq => ?_) fun _ _ e => e
      obtain ⟨h', tk', nw, e, F', N', off', hS, hn, t', hy'⟩ := hq
      rw [hn] at N' off' hS
      refine ⟨h', tk', news, e, F', N', off', hS, ?_⟩
      rw [hy']
      refine ih (i + 1) _ (by lia) ?_
      rw [List.take_add_one, hc', List.map_append]
      exact hy.append (.cons _ t' .nil)
  exact key _ 0 [] (by lia) (by simp only [List.take_zero, List.map_nil]; exact .nil)
end
end Mine
end

section
open PySem PySem.W PySem.Calls PySem.Spec PyProof PyProof.Rows
namespace Mine
section
variable {prog : Program} {w : World} {A : Around} {E : Value → Shared → Prop} {s : Shared} {env : Env} {h₀ : Heap} {target : Expr} {body : List Stmt} {Q : Flow → Shared → Prop}
/-- A loop over a range with any target. -/
theorem turns_range {r : Addr} {a₀ b₀ : Int} {t₀ u₀ v₀ : Tok} {n : Nat} {m₀ : Str → Option Value} {news : List (Addr × Obj)} (J : Nat → (Str → Option Value) → List (Addr × Obj) → Prop)
    (hgo : ∀ (I : Addr) (o : Obj) v (s : Shared) (Q : Unit → Shared → Prop) (E : Value → Shared → Prop), s.heap.get? I = some o → o.cls = .type "range_iterator" → Q () s → wpAny (model prog w) A (letOwnedTupleGo target (.ref I) v) Q E s)
    (hh : A.handled = none) (hr : IsRange s.heap r a₀ b₀ 1 t₀ u₀ v₀) (hsmall : Builtin.Range.small a₀ b₀ 1 = true) (hsz : Builtin.Range.rangeSize a₀ b₀ 1 = (n : Int)) (F : Fr h₀ env.locals s.heap m₀) (N : News h₀ env.locals s.heap news) (hj : J 0 m₀ news)
    (turn : ∀ (i : Nat) t m₁ nx h tk own, i < n → OwnOff own (nx.map (·.1)) → J i m₁ nx → Fr h₀ env.locals h m₁ → News h₀ env.locals h (nx ++ own) →
      wpAny (model prog w) A (assign target env (.int (a₀ + (i : Int)) t)) (fun _ s₃ => wpAny (model prog w) A (execs body env) (fun f s' => Stop (InvPostG h₀ env.locals (J (i + 1)) own { s with heap := h, toks := tk } Q f s')) E s₃) E { s with heap := h, toks := tk })
    (done : ∀ m₁ nx h tk, J n m₁ nx → Fr h₀ env.locals h m₁ → News h₀ env.locals h nx → Q .next { s with heap := h, toks := tk }) :
    wpAny (model prog w) A (pyIter (.ref r)) (fun it s₂ => TurnsAt prog w A h₀ env target body Q E it s₂) E s := by
  refine wpAny_pyIter_range hr hsmall ?_
  have W : Walks prog w A s.heap.objs.size [s.heap.objs.size] [s.heap.objs.size] n (fun i v => i < n ∧ ∃ t, v = .int (a₀ + i * 1) t)
      (fun i h => IsRangeIter h s.heap.objs.size (a₀ + (i : Nat) * 1) ((n : Int) - (i : Nat)) 1) := (Walks.range hh _ a₀ 1 n).bound
  have hnew : h₀.get? s.heap.objs.size = none := next_is_new F
  refine ⟨s.heap.objs.size, _, _, n, _, _, _, m₀, news, J, rfl, KTurns.ofWalks W (fun i v s' Q E st q => hgo _ _ _ _ _ _ st rfl q), ?_, ?_, ?_, ?_, F.push _, (fun p hp => ⟨Heap.get?_push_of_some _ (N p hp).1, (N p hp).2⟩), hj, ?_, ?_⟩
  · exact fun hm => absurd F.ns.lt ((List.mem_singleton.mp hm) ▸ Nat.lt_irrefl _)
  · intro b hb
    rw [List.mem_singleton.mp hb]
    exact hnew
  · exact fun p hp hI => absurd (Heap.lt_size (N p hp).1) ((List.mem_singleton.mp hI) ▸ Nat.lt_irrefl _)
  · show IsRangeIter _ _ _ _ _
    rw [hsz]; simpa using Heap.get?_push_size _ rfl
  · intro i v m₁ news₁ h₁ tk₁ own hin hP hJ hoff hown _ hmem hst F₁ N₁
    obtain ⟨_, t, rfl⟩ := hP
    have e1 : a₀ + (i : Int) * 1 = a₀ + (i : Int) := by rw [Int.mul_one]
    rw [e1]
    have hsep : OwnOff own (news₁.map (·.1)) := by
      intro p hp b hb e
      obtain ⟨q, hq, rfl⟩ := List.mem_map.mp hb
      exact hoff q hq (e ▸ hown p hp)
    have N₂ : News h₀ env.locals h₁ (news₁ ++ own) := fun p hp => N₁ p ((List.mem_append.mp hp).elim (fun h => List.mem_append.mpr (.inr h)) fun h => List.mem_append.mpr (.inl h))
    refine wpAny_mono (turn i t m₁ news₁ h₁ tk₁ own hin hsep hJ F₁ N₂) (fun _ s₃ p₃ => wpAny_mono p₃ (fun f s₂ p => ?_) fun _ _ e => e) fun _ _ e => e
    have fin : InvEndG h₀ env.locals (J (i + 1)) own { s with heap := h₁, toks := tk₁ } s₂ → LoopStepU h₀ env.locals [s.heap.objs.size] own (J (i + 1)) { s with heap := h₁, toks := tk₁ } .next s₂ := by
      rintro ⟨h', tk, m', news', nx, e, F', N', hn, ho, ha, hm⟩
      refine ⟨rfl, h', tk, m', nx, e, F', fun p hp => N' p ((List.mem_append.mp hp).elim (ho p) (hn p)), fun p hp hq => ?_, hm⟩
      have hI := hmem _ (List.mem_singleton.mpr rfl) hnew _ hst
      exact ha _ hI p.1 (List.mem_map.mpr ⟨p, hp, rfl⟩) (List.mem_singleton.mp hq).symm
    cases f with
    | ret v => exact .ret p
    | brk => exact .brk p
    | next => exact .next (fin p)
    | cont => exact .cont (fin p)
  · rintro h' tk m' news' F' N' _ hJ
    exact done m' news' h' tk hJ F' N'
end
end Mine
end

section
open PySem PySem.W PySem.Calls PySem.Spec PyProof PyProof.Rows
namespace Mine
section
variable {prog : Program} {w : World} {A : Around} {E : Value → Shared → Prop} {s : Shared} {h₀ h : Heap} {L D b : Addr} {m : Str → Option Value} {news : List (Addr × Obj)} {its its2 : Array Value} {n n2 : Nat} {g : Obj → List (Addr × Obj)}
theorem inplace_seq {a b : Value} {T id : String} {Q : Value → Shared → Prop} (ha : s.TypeIs a T) (hb : s.TypeIs b T)
    (hI : typeLookup (.type T) (dunderI "add") = pure (some (.builtin id))) (hs : isSeqSlot (some (.builtin id)) = true) (hfill : fillsNumberSlot (.type T) "add" = pure false)
    (hc : wpAny (model prog w) A (call (.builtin id) [a, b]) Q E s) : wpAny (model prog w) A (inplaceOp .Add a b) Q E s := by
  unfold inplaceOp
  refine wpAny_holding ?_
  have hfi : fillsInplaceSlot (.type T) "add" (Operator.Add == .Add) = pure false := by
    unfold fillsInplaceSlot
    show (typeLookup (.type T) (dunderI "add") >>= fun fi => pure (fi.isSome && !isSeqSlot fi)) = pure false
    rw [hI]
    simp only [pure_bind, Option.isSome_some, hs, Bool.not_true, Bool.and_false]
  have hsi : seqSlot? (.type T) (dunderI "add") = pure (some (.builtin id)) := PySem.seqSlot_of hI hs
  refine wpAny_bind (wpAny_typeOf ha (wpAny_bind (wpAny_of_eq hfi ?_)))
  show wpAny _ A (if false = true then _ else _) Q E s
  rw [if_neg Bool.false_ne_true]
  refine wpAny_bind (wpAny_binaryOp1_none (nm := "add") ha hb hfill ?_)
  refine wpAny_bind (wpAny_of_eq hsi ?_)
  exact wpAny_bind (wpAny_rule hc)

theorem inplace_list {Q : Value → Shared → Prop} (F : Fr h₀ L s.heap m) (N : News h₀ L s.heap news) (U : UpdF D (listOf its n) news g) (hb : (b, listOf its2 n2) ∈ news) (hz : its.size + its2.size ≤ sizeLine)
    (hd : ¬(!its.isEmpty && Builtin.List.listTooLong (its.size + its2.size)) = true)
    (h : ∀ h' k', Fr h₀ L h' m → News h₀ L h' (g (listOf (its ++ its2) k')) → Q (.ref D) { s with heap := h' }) : wpAny (model prog w) A (inplaceOp .Add (.ref D) (.ref b)) Q E s := by
  obtain ⟨own, rest, rfl, hg, h1, h2⟩ := U.split
  have z := N (D, listOf its n) (List.mem_append.mpr (.inr (.head _)))
  refine inplace_seq ⟨_, z.1, rfl⟩ ⟨_, (N _ hb).1, rfl⟩ PySem.F.slot_list_iadd.lookup (by decide +kernel) noFill_list_add ?_
  refine call_meets PySem.F.slot_list_iadd ⟨_, z.1, rfl⟩ PySem.F.entry_list_iadd (PySem.F.args_list_iadd_2 _ _) (PySem.AutoSeq1.list___iadd___list_list_0 D its n b its2 n2 hd (by omega) (by omega)) ⟨z.1, (N _ hb).1, ?_⟩
  have q := PySem.IsL.update (N (D, listOf its n) (List.mem_append.mpr (.inr (.head _)))).1 (fun x => x ++ its2)
  have hN := news_set N h1 h2 (Heap.SameBut.update ..) q
  rw [← hg] at hN
  exact h _ _ (F.change (Heap.SameBut.update ..) z.2.1 z.2.2) hN
end
end Mine
end

section
open PySem PySem.W PySem.Calls PySem.Spec PyProof PyProof.Rows PySem.SeqAt
namespace Mine
/-- a run as plain data -/
noncomputable def tupD (r : Int × Int × Int) : PyData := .tuple [.int r.1, .int r.2.1, .int r.2.2]
theorem reads_tup {h : Heap} {r : Addr} {a b c : Int} {ta tb tc : Tok} (e : h.get? r = some (tup3 a b c ta tb tc)) : Reads h (.ref r) (tupD (a, b, c)) [] :=
  .tuple e rfl rfl (.cons (as := []) (.int a ta) (.cons (as := []) (.int b tb) (.cons (as := []) (.int c tc) .nil)))
theorem reads_tups {h₀ h : Heap} {L : Addr} {led : List (Addr × Obj)} (N : News h₀ L h led) : ∀ {vs ts}, TupsAre led vs ts → ReadsAll h vs (ts.map tupD) []
  | _, _, .nil => .nil
  | _, _, .cons hm r => .cons (as := []) (reads_tup (N _ hm).1) (reads_tups N r)
theorem reads_list {h₀ h : Heap} {L l : Addr} {led : List (Addr × Obj)} {vs : List Value} {k : Nat} {ts : List (Int × Int × Int)} (N : News h₀ L h led) (hl : (l, listOf vs.toArray k) ∈ led) (ht : TupsAre led vs ts) : Reads h (.ref l) (.list (ts.map tupD)) [l] :=
  .list (N _ hl).1 rfl rfl (reads_tups N ht)
theorem same_tup (a b : Int × Int × Int) : PySem.Spec.same (tupD a) (tupD b) = decide (a = b) := by
  obtain ⟨a1, a2, a3⟩ := a
  obtain ⟨b1, b2, b3⟩ := b
  simp only [tupD, PySem.Spec.same, PySem.Spec.sameAll, Bool.and_true, Prod.mk.injEq]
  by_cases h1 : a1 = b1 <;> by_cases h2 : a2 = b2 <;> by_cases h3 : a3 = b3 <;> simp [h1, h2, h3]
theorem shaped_tup (a : Int × Int × Int) : shaped (tupD a) = true := by
  simp [shaped, tupD, PyData.canLay0, PyData.canLayAll0, PyData.depth, PyData.depthAll]
theorem canLay_tups : ∀ l : List (Int × Int × Int), PyData.canLayAll0 (l.map tupD) = true
  | [] => by simp [PyData.canLayAll0]
  | a :: r => by simp [PyData.canLayAll0, PyData.canLay0, tupD, canLay_tups r]
theorem depth_tups : ∀ l : List (Int × Int × Int), PyData.depthAll (l.map tupD) ≤ 3
  | [] => by simp [PyData.depthAll]
  | a :: r => by
    have := depth_tups r
    simp only [List.map_cons, PyData.depthAll, tupD, PyData.depth]
    lia
theorem shaped_tups (l : List (Int × Int × Int)) : shaped (.list (l.map tupD)) = true := by
  have h1 := depth_tups l
  have h2 : PyData.depth (.list (l.map tupD)) ≤ 64 := by simp only [PyData.depth]; lia
  show (PyData.canLay0 (.list (l.map tupD)) && decide (PyData.depth (.list (l.map tupD)) ≤ 64)) = true
  rw [Bool.and_eq_true]
  exact ⟨by simp only [PyData.canLay0]; exact canLay_tups l, decide_eq_true h2⟩
theorem noMix_tup (a b : Int × Int × Int) : noMix (tupD a) (tupD b) = true := by
  simp [noMix, noMixAll, tupD]
theorem noMix_tups : ∀ l r : List (Int × Int × Int), noMixAll (l.map tupD) (r.map tupD) = true
  | [], [] => by simp [noMixAll]
  | [], _ :: _ => by simp [noMixAll]
  | _ :: _, [] => by simp [noMixAll]
  | a :: l, b :: r => by simp [noMixAll, noMix_tup, noMix_tups l r]
theorem same_tups : ∀ l r : List (Int × Int × Int), PySem.Spec.sameAll (l.map tupD) (r.map tupD) = decide (l = r)
  | [], [] => by simp [PySem.Spec.sameAll]
  | [], _ :: _ => by simp [PySem.Spec.sameAll]
  | _ :: _, [] => by simp [PySem.Spec.sameAll]
  | a :: l, b :: r => by
    simp only [List.map_cons, PySem.Spec.sameAll, same_tup, same_tups l r]
    by_cases h : a = b <;> simp [h]
theorem countIn_tup (a : Int × Int × Int) : ∀ l : List (Int × Int × Int), decide (PySem.Spec.countIn (tupD a) (l.map tupD) ≠ 0) = decide (a ∈ l)
  | [] => by simp [PySem.Spec.countIn]
  | b :: l => by
    have ih := countIn_tup a l
    have h0 := countIn_ge0 (tupD a) (l.map tupD)
    rw [List.map_cons, PySem.Spec.countIn, same_tup]
    by_cases h : b = a
    · subst h
      have : (1 : Int) + PySem.Spec.countIn (tupD b) (l.map tupD) ≠ 0 := by lia
      simp [this]
    · have h' : ¬ a = b := fun e => h e.symm
      simp only [h, decide_false, Bool.false_eq_true, if_false, Int.zero_add, List.mem_cons, h', false_or]
      exact ih
section
variable {prog : Program} {w : World} {A : Around} {E : Value → Shared → Prop} {s : Shared} {h₀ : Heap} {L : Addr} {led : List (Addr × Obj)} {Q : Value → Shared → Prop}
theorem eq_tups {l r : Addr} {vs us : List Value} {k k' : Nat} {ts rs : List (Int × Int × Int)} (N : News h₀ L s.heap led) (hl : (l, listOf vs.toArray k) ∈ led) (hr : (r, listOf us.toArray k') ∈ led) (ht : TupsAre led vs ts) (hs : TupsAre led us rs) (hu : A.units + 64 < cLine)
    (h : Q (.bool (decide (ts = rs))) s) : wpAny (model prog w) A (compareOp .Eq (.ref l) (.ref r)) Q E s :=
  eq_dataH_same (reads_list N hl ht) (reads_list N hr hs) (shaped_tups ts) (shaped_tups rs) hu (by simp only [noMix]; exact noMix_tups ts rs) (by simp only [PySem.Spec.same]; rw [same_tups]; exact h)
theorem notin_tups {l r : Addr} {vs : List Value} {k : Nat} {ts : List (Int × Int × Int)} {a b c : Int} {ta tb tc : Tok} (N : News h₀ L s.heap led) (hl : (l, listOf vs.toArray k) ∈ led) (ht : TupsAre led vs ts) (hr : (r, tup3 a b c ta tb tc) ∈ led) (hu : A.units + 65 < cLine)
    (h : Q (.bool (!decide ((a, b, c) ∈ ts))) s) : wpAny (model prog w) A (compareOp .NotIn (.ref r) (.ref l)) Q E s :=
  notIn_list_dataH (reads_list N hl ht) (reads_tup (N _ hr).1) (shaped_tups ts) (shaped_tup _) hu (fun y hy => by obtain ⟨b', _, rfl⟩ := List.mem_map.mp hy; exact noMix_tup _ _) (by rw [countIn_tup]; exact h)
end
end Mine
end

section
open PySem PySem.W PySem.Calls PySem.Spec PyProof PyProof.Rows Mine
namespace Mine
theorem small_run {x : PySem.Str} (h12 : x.length ≤ 12) {r : Int × Int × Int} (h : ∃ b s p, r = (((b : Nat) : Int), ((s : Nat) : Int), ((p : Nat) : Int)) ∧ RunOf x b s p) : Small r := by
  obtain ⟨b, s, p, rfl, R⟩ := h
  have h1 := R.two
  have h2 := R.le
  unfold Small
  dsimp only
  lia
theorem small_found {x : PySem.Str} (h : Letters x) (h12 : x.length ≤ 12) : ∀ r ∈ foundTo x (x.length - 1), Small r := fun _ hr => small_run h12 ((mem_found h).mp hr)
theorem small_told {x : PySem.Str} (h : Letters x) (h12 : x.length ≤ 12) : ∀ r ∈ told x, Small r := fun _ hr => small_run h12 ((mem_told h).mp hr)
theorem found_few {x : PySem.Str} (h12 : x.length ≤ 12) : (foundTo x (x.length - 1)).length < 64 := by
  have := foundTo_len x (x.length - 1)
  lia
theorem told_few {x : PySem.Str} (h : Letters x) (h12 : x.length ≤ 12) : (told x).length < 64 := by
  rw [← (found_told h).length_eq]
  exact found_few h12
theorem no_dot {x : PySem.Str} (h : Letters x) : ∀ c ∈ x.cps.toList, c ≠ 46 := fun c hc => by
  have := h c hc
  lia
theorem ends_meet {x : PySem.Str} (h : Letters x) (h12 : x.length ≤ 12) {a b : List (Int × Int × Int)} (ha : a.Perm (foundTo x (x.length - 1))) (hb : b.Perm (told x)) (sa : a.Pairwise fun u v => key u ≤ key v) (sb : b.Pairwise fun u v => key u ≤ key v) : a = b :=
  sorted_same (ha.trans ((found_told h).trans hb.symm)) (fun r hr => small_found h h12 r (ha.mem_iff.mp hr)) sa sb
theorem rangeSize_len {n : Nat} (h : 7 ≤ n) : Builtin.Range.rangeSize 1 (n : Int) 1 = ((n - 1 : Nat) : Int) := by rw [rangeSize_nat]; lia
theorem endOf_bounds {α : Type} [DecidableEq α] [LT α] [DecidableLT α] {l : List α} {i : Nat} (h : i < l.length) : i + 1 ≤ endOf l i ∧ endOf l i ≤ l.length := by
  unfold endOf
  have h1 := firstFrom_ge (ltB l i) (l.length - (i + 1)) (i + 1)
  have h2 := firstFrom_le (ltB l i) (l.length - (i + 1)) (i + 1)
  lia
theorem own_map {a1 a2 a3 a4 a5 b : Addr} {o1 o2 o3 o4 o5 : Obj} {tl : List (Addr × Obj)} (h : b ∈ [a1, a2, a3, a4, a5]) : b ∈ ((a1, o1) :: (a2, o2) :: (a3, o3) :: (a4, o4) :: (a5, o5) :: tl).map (·.1) := by
  simp only [List.mem_cons, List.not_mem_nil, or_false, List.map_cons] at h ⊢
  grind
theorem off_all {a1 a2 a3 a4 a5 : Addr} {o1 o2 o3 o4 o5 : Obj} {tl own : List (Addr × Obj)} (htl : OwnOff tl [a1, a2, a3, a4, a5]) (hoff : OwnOff own (((a1, o1) :: (a2, o2) :: (a3, o3) :: (a4, o4) :: (a5, o5) :: tl).map (·.1))) : OwnOff (tl ++ own) [a1, a2, a3, a4, a5] := by
  intro q hq b hb
  rcases List.mem_append.mp hq with hq | hq
  · exact htl q hq b hb
  · exact hoff q hq b (own_map hb)
def Apart (b Lf Nn : Nat) : Prop := (@Ne Nat Lf Nn) ∧ (@Ne Nat Lf (b + 1 + 1 + 1)) ∧ (@Ne Nat Lf (b + 1 + 1)) ∧ (@Ne Nat Lf (b + 1)) ∧ (@Ne Nat Nn (b + 1 + 1 + 1)) ∧ (@Ne Nat Nn (b + 1 + 1)) ∧ (@Ne Nat Nn (b + 1))
def LJ (x : PySem.Str) (b : Nat) (i : Nat) (m : Str → Option Value) (nx : List (Addr × Obj)) : Prop :=
  ∃ (Lf Nn : Addr) (ysN vsF : List Value) (k : Nat) (o1 o2 o3 : Obj) (d3 : Option Value) (t : Tok) (tl : List (Addr × Obj)), m (PySem.Str.ofString "numbers") = some (.ref Nn) ∧
    nx = (Lf, listOf vsF.toArray k) :: (Nn, LCg.lst ysN) :: (b + 1 + 1 + 1, o3) :: (b + 1 + 1, o2) :: (b + 1, o1) :: tl ∧ o1.data = .cell (some (.str x t)) ∧ o2.data = .cell (some (.ref Lf)) ∧ o3.data = .cell d3 ∧ IntsAre ysN (numsOf x) ∧
    Apart b Lf Nn ∧ OwnOff tl [Lf, Nn, b + 1 + 1 + 1, b + 1 + 1, b + 1] ∧ TupsAre tl vsF (foundTo x i)


/-- what the list `here` holds -/
def HereIs (hv : List Value) (tups : List (Addr × Obj)) (hs : List (Int × Int × Int)) : Prop :=
  (hv = [] ∧ hs.take 1 = []) ∨ ∃ r a b c ta tb tc, (hv = [.ref r] ∨ ∃ r', hv = [.ref r, .ref r']) ∧ hs.take 1 = [(a, b, c)] ∧ (r, tup3 a b c ta tb tc) ∈ tups
/-- ahead of the turn's last statement -/
def AddAt (x : PySem.Str) (b i : Nat) (h₀ : Heap) (L : Addr) (s₁ : Shared) (Lf Nn : Addr) (ysN vsF : List Value) (k : Nat) (o1 o2 : Obj) (rest : List (Addr × Obj)) (s' : Shared) : Prop :=
  ∃ (h' : Heap) (tk : Nat) (m' : Str → Option Value) (D r1 r2 : Addr) (hv : List Value) (o3 : Obj) (d3 : Option Value) (p1 p2 : Obj), s' = { s₁ with heap := h', toks := tk } ∧ Fr h₀ L h' m' ∧ m' (PySem.Str.ofString "here") = some (.ref D) ∧ m' (PySem.Str.ofString "numbers") = some (.ref Nn) ∧
    News h₀ L h' ((D, LCg.lst hv) :: (r2, p2) :: (r1, p1) :: (Lf, listOf vsF.toArray k) :: (Nn, LCg.lst ysN) :: (b + 1 + 1 + 1, o3) :: (b + 1 + 1, o2) :: (b + 1, o1) :: rest) ∧ o3.data = .cell d3 ∧
    HereIs hv [(r2, p2), (r1, p1)] (hereAt x (1 + i)) ∧ OwnOff [(D, LCg.lst hv), (r2, p2), (r1, p1)] [Lf, Nn, b + 1 + 1 + 1, b + 1 + 1, b + 1] ∧ OwnOff rest [r1, r2]

/-- a test that reads alone: what it says -/
def TestEnd (s : Shared) (P : Prop) (ok : Bool) (s' : Shared) : Prop := (∃ tk, s' = { s with toks := tk }) ∧ (ok = true ↔ P)
theorem test_join {M : Model} {A : Around} {T : Sem Bool} {Q : Bool → Shared → Prop} {E : Value → Shared → Prop} {s : Shared} (P : Prop)
    (h1 : wpAny M A T (TestEnd s P) E s) (h2 : ∀ tk, P → Q true { s with toks := tk }) (h3 : ∀ tk, ¬ P → Q false { s with toks := tk }) : wpAny M A T Q E s :=
  wpAny_mono h1 (fun ok s' h => by
    obtain ⟨⟨tk, e⟩, hp⟩ := h
    rw [e]
    cases ok with
    | true => exact h2 tk (hp.mp rfl)
    | false => exact h3 tk fun q => Bool.false_ne_true (hp.mpr q)) fun _ _ e => e
theorem test_yes {s : Shared} {P : Prop} {tk : Nat} (h : P) : TestEnd s P true { s with toks := tk } := ⟨⟨_, rfl⟩, fun _ => h, fun _ => rfl⟩
theorem test_no {s : Shared} {P : Prop} {tk : Nat} (h : ¬ P) : TestEnd s P false { s with toks := tk } := ⟨⟨_, rfl⟩, fun q => absurd q Bool.false_ne_true, fun q => absurd q h⟩

/-- the turn's last statement apart -/
theorem cut5 {M : Model} {A : Around} {env : Env} {a c d e f : Stmt} {T : Sem Unit} {Q : Flow → Shared → Prop} {E : Value → Shared → Prop} {s : Shared} {x : PySem.Str} {b i k : Nat} {h₀ h : Heap} {L Lf Nn : Addr} {ysN vsF : List Value} {o1 o2 o3 : Obj} {rest : List (Addr × Obj)}
    (hN9 : News h₀ L h ((Lf, listOf vsF.toArray k) :: (Nn, LCg.lst ysN) :: (b + 1 + 1 + 1, o3) :: (b + 1 + 1, o2) :: (b + 1, o1) :: rest))
    (last : ∀ s', AddAt x b i h₀ L s Lf Nn ysN vsF k o1 o2 rest s' → wpAny M A (exec f env) (fun g s' => match g with | .next => wpAny M A (execs [] env) Q E s' | g => Q g s') E s')
    (init : (∀ s', AddAt x b i h₀ L s Lf Nn ysN vsF k o1 o2 rest s' → wpAny M A (exec f env) (fun g s' => match g with | .next => wpAny M A (execs [] env) Q E s' | g => Q g s') E s') → wpAny M A T (fun _ s₃ => wpAny M A (execs [a, c, d, e, f] env) Q E s₃) E s) :
    wpAny M A T (fun _ s₃ => wpAny M A (execs [a, c, d, e, f] env) Q E s₃) E s := init last

theorem add_end {x : PySem.Str} {b i k' : Nat} {h₀ h' : Heap} {L : Addr} {s₁ : Shared} {tk : Nat} {m' : Str → Option Value} {Lf Nn r1 r2 : Addr} {ysN vs' : List Value} {o1 o2 o3 p1 p2 : Obj} {d3 : Option Value} {t : Tok} {tl own : List (Addr × Obj)}
    (F : Fr h₀ L h' m') (N : News h₀ L h' ((Lf, listOf vs'.toArray k') :: (r2, p2) :: (r1, p1) :: (Nn, LCg.lst ysN) :: (b + 1 + 1 + 1, o3) :: (b + 1 + 1, o2) :: (b + 1, o1) :: (tl ++ own)))
    (hm : m' (PySem.Str.ofString "numbers") = some (.ref Nn)) (hd1 : o1.data = .cell (some (.str x t))) (hd2 : o2.data = .cell (some (.ref Lf))) (hd3 : o3.data = .cell d3) (hys : IntsAre ysN (numsOf x))
    (hap : Apart b Lf Nn) (htl : OwnOff tl [Lf, Nn, b + 1 + 1 + 1, b + 1 + 1, b + 1]) (hr : OwnOff [(r2, p2), (r1, p1)] [Lf, Nn, b + 1 + 1 + 1, b + 1 + 1, b + 1]) (hor : OwnOff (tl ++ own) [r1, r2])
    (hoff : OwnOff own [Lf, Nn, b + 1 + 1 + 1, b + 1 + 1, b + 1]) (hot : OwnOff own (tl.map (·.1)))
    (hts : TupsAre ((r2, p2) :: (r1, p1) :: tl) vs' (foundTo x (i + 1))) : InvEndG h₀ L (LJ x b (i + 1)) own s₁ { s₁ with heap := h', toks := tk } := by
  refine InvEndG.intro F N (nx := (Lf, listOf vs'.toArray k') :: (Nn, LCg.lst ysN) :: (b + 1 + 1 + 1, o3) :: (b + 1 + 1, o2) :: (b + 1, o1) :: ((r2, p2) :: (r1, p1) :: tl))
    ⟨Lf, Nn, ysN, vs', k', o1, o2, o3, d3, t, _, hm, rfl, hd1, hd2, hd3, hys, hap, ?_, hts⟩ ?_ ?_ ?_
  · intro q hq
    rcases List.mem_cons.mp hq with rfl | hq
    · exact hr _ (.head _)
    · rcases List.mem_cons.mp hq with rfl | hq
      · exact hr _ (.tail _ (.head _))
      · exact htl q hq
  · intro q hq a ha
    have h1 := hoff q hq a
    have h2 := hor q (List.mem_append.mpr (.inr hq)) a
    have h3 := hot q hq a
    simp only [List.map_cons, List.mem_cons, List.not_mem_nil, or_false] at ha h1 h2 h3
    grind
  · simp only [List.mem_cons, List.mem_append]
    grind
  · simp only [List.mem_cons, List.mem_append]
    grind

theorem add_walk {prog : Program} {w : World} {A : Around} {E : Value → Shared → Prop} {env : Env} {Q : Flow → Shared → Prop} {x : PySem.Str} {b i k tk : Nat} {h₀ h' : Heap} {L : Addr} {s₁ : Shared} {m' : Str → Option Value} {Lf Nn D D₀ r1 r2 : Addr} {ysN vsF us : List Value} {o1 o2 o3 p1 p2 : Obj} {d3 : Option Value} {t : Tok} {tl own : List (Addr × Obj)}
    (F : Fr h₀ L h' m') (N : News h₀ L h' ((Lf, listOf vsF.toArray k) :: (D, LCg.lst us) :: (r2, p2) :: (r1, p1) :: (Nn, LCg.lst ysN) :: (b + 1 + 1 + 1, o3) :: (b + 1 + 1, o2) :: (b + 1, o1) :: (tl ++ own)))
    (hm : m' (PySem.Str.ofString "numbers") = some (.ref Nn)) (hd1 : o1.data = .cell (some (.str x t))) (hd2 : o2.data = .cell (some (.ref Lf))) (hd3 : o3.data = .cell d3) (hys : IntsAre ysN (numsOf x))
    (hap : Apart b Lf Nn) (htl : OwnOff tl [Lf, Nn, b + 1 + 1 + 1, b + 1 + 1, b + 1]) {hv : List Value} (hr : OwnOff [(D₀, LCg.lst hv), (r2, p2), (r1, p1)] [Lf, Nn, b + 1 + 1 + 1, b + 1 + 1, b + 1]) (hor : OwnOff (tl ++ own) [r1, r2])
    (hall : OwnOff (tl ++ own) [Lf, Nn, b + 1 + 1 + 1, b + 1 + 1, b + 1]) (hot : OwnOff own (tl.map (·.1))) (hDL : @Ne Nat Lf D)
    (hlen : vsF.length ≤ 12) (hus : us.length ≤ 1) (hts : TupsAre ((r2, p2) :: (r1, p1) :: tl) (vsF ++ us) (foundTo x (i + 1)))
    (hk : env.scope.kind = .function) (hl : env.kindOf (PySem.Str.ofString "found") = some .cell) (hc : env.cells.lookup (PySem.Str.ofString "found") = some (b + 1 + 1)) :
    wpAny (model prog w) A (inplaceOp .Add (.ref Lf) (.ref D)) (fun r s₃ => wpAny (model prog w) A (storeName env (PySem.Str.ofString "found") r) (fun _ s' => wpAny (model prog w) A (execs [] env) (fun f s' => Stop (InvPostG h₀ L (LJ x b (i + 1)) own s₁ Q f s')) E s') E s₃) E { s₁ with heap := h', toks := tk } := by
  obtain ⟨ha1, ha2, ha3, ha4, ha5, ha6, ha7⟩ := id hap
  have q2 := hr (r2, p2) (.tail _ (.head _))
  have q1 := hr (r1, p1) (.tail _ (.tail _ (.head _)))
  have hLf : ∀ p ∈ (D, LCg.lst us) :: (r2, p2) :: (r1, p1) :: (Nn, LCg.lst ysN) :: (b + 1 + 1 + 1, o3) :: (b + 1 + 1, o2) :: (b + 1, o1) :: (tl ++ own), p.1 ≠ Lf := by
    intro p hp
    rcases List.mem_cons.mp hp with rfl | hp
    · exact fun e => hDL e.symm
    rcases List.mem_cons.mp hp with rfl | hp
    · exact q2 _ (.head _)
    rcases List.mem_cons.mp hp with rfl | hp
    · exact q1 _ (.head _)
    rcases List.mem_cons.mp hp with rfl | hp
    · exact fun e => ha1 e.symm
    rcases List.mem_cons.mp hp with rfl | hp
    · exact fun e => ha2 e.symm
    rcases List.mem_cons.mp hp with rfl | hp
    · exact fun e => ha3 e.symm
    rcases List.mem_cons.mp hp with rfl | hp
    · exact fun e => ha4 e.symm
    · exact hall p hp _ (.head _)
  refine inplace_list (s := { s₁ with heap := h', toks := tk }) F N (.head hLf) (.tail _ (.head _)) (by rw [List.size_toArray, List.size_toArray, sizeLine_eq]; lia) ?_ fun h1 k1 F1 N1 => ?_
  · intro hq
    simp only [Bool.and_eq_true] at hq
    have := hq.2
    have h5 := sizeLine_eq
    unfold Builtin.List.listTooLong at this
    simp only [List.size_toArray, decide_eq_true_eq] at this
    lia
  have eapp : vsF.toArray ++ us.toArray = (vsF ++ us).toArray := by simp
  rw [eapp] at N1
  have hcell := N1 (b + 1 + 1, o2) (.tail _ (.tail _ (.tail _ (.tail _ (.tail _ (.tail _ (.head _)))))))
  refine wpAny_storeName_cell hk hl hc ⟨o2, hcell.1, hd2⟩ fun h2 hc2 hs2 => ?_
  obtain ⟨o2', e2, hd2'⟩ := hc2
  refine wpAny_execs_nil (stop_out ?_)
  have F2 : Fr h₀ L h2 m' := kas_fr F1 hs2 hcell.2.1 hcell.2.2
  have keep : ∀ p ∈ (Lf, listOf (vsF ++ us).toArray k1) :: (D, LCg.lst us) :: (r2, p2) :: (r1, p1) :: (Nn, LCg.lst ysN) :: (b + 1 + 1 + 1, o3) :: (b + 1 + 1, o2) :: (b + 1, o1) :: (tl ++ own), @Ne Nat p.1 (b + 1 + 1) → h2.get? p.1 = some p.2 ∧ p.1 ≠ L ∧ h₀.get? p.1 = none :=
    fun p hp hne => ⟨(hs2.2 _ hne).trans (N1 p hp).1, (N1 p hp).2⟩
  refine add_end (t := t) (k' := k1) (s₁ := s₁) (tk := tk) F2 (fun p hp => ?_) hm hd1 hd2' hd3 hys hap htl (fun p hp => hr p (.tail _ hp)) hor (fun p hp => hall p (List.mem_append.mpr (.inr hp))) hot hts
  rcases List.mem_cons.mp hp with rfl | hp
  · exact keep _ (.head _) ha3
  rcases List.mem_cons.mp hp with rfl | hp
  · exact keep _ (.tail _ (.tail _ (.head _))) (q2 _ (.tail _ (.tail _ (.tail _ (.head _)))))
  rcases List.mem_cons.mp hp with rfl | hp
  · exact keep _ (.tail _ (.tail _ (.tail _ (.head _)))) (q1 _ (.tail _ (.tail _ (.tail _ (.head _)))))
  rcases List.mem_cons.mp hp with rfl | hp
  · exact keep _ (.tail _ (.tail _ (.tail _ (.tail _ (.head _))))) ha6
  rcases List.mem_cons.mp hp with rfl | hp
  · exact keep _ (.tail _ (.tail _ (.tail _ (.tail _ (.tail _ (.head _)))))) (by show @Ne Nat (b + 1 + 1 + 1) (b + 1 + 1); lia)
  rcases List.mem_cons.mp hp with rfl | hp
  · exact ⟨e2, hcell.2⟩
  rcases List.mem_cons.mp hp with rfl | hp
  · exact keep _ (.tail _ (.tail _ (.tail _ (.tail _ (.tail _ (.tail _ (.tail _ (.head _)))))))) (by show @Ne Nat (b + 1) (b + 1 + 1); lia)
  · exact keep _ (.tail _ (.tail _ (.tail _ (.tail _ (.tail _ (.tail _ (.tail _ (.tail _ hp)))))))) (hall p hp _ (.tail _ (.tail _ (.tail _ (.head _)))))

theorem led_sub2 {q d r2 r1 l n c3 c2 c1 d3 e : Addr × Obj} {rest : List (Addr × Obj)} (h : q ∈ d :: r2 :: r1 :: l :: n :: c3 :: c2 :: c1 :: rest) : q ∈ d :: d3 :: r2 :: r1 :: e :: l :: n :: c3 :: c2 :: c1 :: rest := by
  simp only [List.mem_cons] at h ⊢
  grind
theorem add_at {x : PySem.Str} {b i k tk : Nat} {h₀ h' : Heap} {L : Addr} {s₁ : Shared} {m' : Str → Option Value} {Lf Nn D r1 r2 : Addr} {ysN vsF hv : List Value} {o1 o2 o3 p1 p2 : Obj} {d3' : Option Value} {d3 e : Addr × Obj} {rest : List (Addr × Obj)}
    {j1 j2 j3 j4 j5 k1 k2 k3 k4 : Addr × Obj} {q1 q2 q3 q4 q5 q1' q2' q3' q4' q5' : Obj} {R : Prop}
    (F : Fr h₀ L h' m') (N : News h₀ L h' ((D, LCg.lst hv) :: d3 :: (r2, p2) :: (r1, p1) :: e :: (Lf, listOf vsF.toArray k) :: (Nn, LCg.lst ysN) :: (b + 1 + 1 + 1, o3) :: (b + 1 + 1, o2) :: (b + 1, o1) :: rest))
    (hm1 : m' (PySem.Str.ofString "here") = some (.ref D)) (hm2 : m' (PySem.Str.ofString "numbers") = some (.ref Nn)) (hd3 : o3.data = .cell d3') (hH : HereIs hv [(r2, p2), (r1, p1)] (hereAt x (1 + i)))
    (h2 : ∀ q ∈ [(r2, p2)], ∀ p ∈ j1 :: j2 :: j3 :: j4 :: j5 :: (Lf, q1) :: (Nn, q2) :: (b + 1 + 1 + 1, q3) :: (b + 1 + 1, q4) :: (b + 1, q5) :: rest, p.1 ≠ q.1)
    (h1 : ∀ q ∈ [(r1, p1)], ∀ p ∈ k1 :: k2 :: k3 :: k4 :: (Lf, q1') :: (Nn, q2') :: (b + 1 + 1 + 1, q3') :: (b + 1 + 1, q4') :: (b + 1, q5') :: rest, p.1 ≠ q.1)
    (ho : (@Ne Nat d3.1 D) ∧ (@Ne Nat r2 D) ∧ (@Ne Nat r1 D) ∧ (@Ne Nat e.1 D) ∧ (@Ne Nat Lf D) ∧ (@Ne Nat Nn D) ∧ (@Ne Nat (b + 1 + 1 + 1) D) ∧ (@Ne Nat (b + 1 + 1) D) ∧ (@Ne Nat (b + 1) D) ∧ R) :
    AddAt x b i h₀ L s₁ Lf Nn ysN vsF k o1 o2 rest { s₁ with heap := h', toks := tk } := by
  obtain ⟨_, _, _, _, e5, e6, e7, e8, e9, _⟩ := ho
  have a2 := h2 _ (.head _)
  have a1 := h1 _ (.head _)
  refine ⟨h', tk, m', D, r1, r2, hv, o3, d3', p1, p2, rfl, F, hm1, hm2, fun q hq => N q (led_sub2 hq), hd3, hH, ?_, ?_⟩
  · intro q hq a ha
    have c1 := a2 _ (.tail _ (.tail _ (.tail _ (.tail _ (.tail _ (.head _))))))
    have c2 := a2 _ (.tail _ (.tail _ (.tail _ (.tail _ (.tail _ (.tail _ (.head _)))))))
    have c3 := a2 _ (.tail _ (.tail _ (.tail _ (.tail _ (.tail _ (.tail _ (.tail _ (.head _))))))))
    have c4 := a2 _ (.tail _ (.tail _ (.tail _ (.tail _ (.tail _ (.tail _ (.tail _ (.tail _ (.head _)))))))))
    have c5 := a2 _ (.tail _ (.tail _ (.tail _ (.tail _ (.tail _ (.tail _ (.tail _ (.tail _ (.tail _ (.head _))))))))))
    have g1 := a1 _ (.tail _ (.tail _ (.tail _ (.tail _ (.head _)))))
    have g2 := a1 _ (.tail _ (.tail _ (.tail _ (.tail _ (.tail _ (.head _))))))
    have g3 := a1 _ (.tail _ (.tail _ (.tail _ (.tail _ (.tail _ (.tail _ (.head _)))))))
    have g4 := a1 _ (.tail _ (.tail _ (.tail _ (.tail _ (.tail _ (.tail _ (.tail _ (.head _))))))))
    have g5 := a1 _ (.tail _ (.tail _ (.tail _ (.tail _ (.tail _ (.tail _ (.tail _ (.tail _ (.head _)))))))))
    simp only [List.mem_cons, List.not_mem_nil, or_false] at hq ha
    rcases hq with rfl | rfl | rfl <;> rcases ha with rfl | rfl | rfl | rfl | rfl
    · exact fun z => e5 z.symm
    · exact fun z => e6 z.symm
    · exact fun z => e7 z.symm
    · exact fun z => e8 z.symm
    · exact fun z => e9 z.symm
    · exact fun z => c1 z.symm
    · exact fun z => c2 z.symm
    · exact fun z => c3 z.symm
    · exact fun z => c4 z.symm
    · exact fun z => c5 z.symm
    · exact fun z => g1 z.symm
    · exact fun z => g2 z.symm
    · exact fun z => g3 z.symm
    · exact fun z => g4 z.symm
    · exact fun z => g5 z.symm
  · intro q hq a ha
    simp only [List.mem_cons, List.not_mem_nil, or_false] at ha
    rcases ha with rfl | rfl
    · exact a1 q (.tail _ (.tail _ (.tail _ (.tail _ (.tail _ (.tail _ (.tail _ (.tail _ (.tail _ hq)))))))))
    · exact a2 q (.tail _ (.tail _ (.tail _ (.tail _ (.tail _ (.tail _ (.tail _ (.tail _ (.tail _ (.tail _ hq))))))))))

theorem led_sub {q l d d2 d3 r2 r1 n c3 c2 c1 : Addr × Obj} {rest : List (Addr × Obj)} (h : q ∈ l :: d :: r2 :: r1 :: n :: c3 :: c2 :: c1 :: rest) : q ∈ d :: d2 :: d3 :: r2 :: r1 :: l :: n :: c3 :: c2 :: c1 :: rest := by
  simp only [List.mem_cons] at h ⊢
  grind
theorem pair_mem {q r2 r1 : Addr × Obj} {tl : List (Addr × Obj)} (h : q ∈ [r2, r1]) : q ∈ r2 :: r1 :: tl := by
  simp only [List.mem_cons, List.not_mem_nil, or_false] at h ⊢
  grind
theorem own_tl {a1 a2 a3 a4 a5 : Addr} {o1 o2 o3 o4 o5 : Obj} {tl own : List (Addr × Obj)} (h : OwnOff own (((a1, o1) :: (a2, o2) :: (a3, o3) :: (a4, o4) :: (a5, o5) :: tl).map (·.1))) : OwnOff own (tl.map (·.1)) :=
  fun q hq a ha => h q hq a (.tail _ (.tail _ (.tail _ (.tail _ (.tail _ ha)))))
theorem found_tups {x : PySem.Str} {i : Nat} {tl : List (Addr × Obj)} {vs : List Value} (h : TupsAre tl vs (foundTo x i)) (hi : i < x.length - 1) (hx : x.length ≤ 12) : vs.length ≤ 12 := by
  have h1 := h.length
  have h2 := foundTo_len x i
  lia

theorem found_new {x : PySem.Str} {i : Nat} {r : Int × Int × Int} (h : (hereAt x (1 + i)).take 1 = [r]) (hn : r ∉ foundTo x i) : foundTo x (i + 1) = foundTo x i ++ [r] := by
  show foundTo x i ++ _ = _
  rw [h, List.filter_cons, if_pos (decide_eq_true hn)]
  rfl
theorem found_old {x : PySem.Str} {i : Nat} {r : Int × Int × Int} (h : (hereAt x (1 + i)).take 1 = [r]) (hn : r ∈ foundTo x i) : foundTo x (i + 1) = foundTo x i := by
  show foundTo x i ++ _ = _
  rw [h, List.filter_cons, if_neg (by simpa using hn)]
  exact List.append_nil _
theorem found_none {x : PySem.Str} {i : Nat} (h : (hereAt x (1 + i)).take 1 = []) : foundTo x (i + 1) = foundTo x i := by
  show foundTo x i ++ _ = _
  rw [h]
  exact List.append_nil _

/-- the forms that the walk leaves -/
noncomputable abbrev bI (x : PySem.Str) (i e : Nat) : Int := (beginOf x.cps.toList (1 + (i : Int)).toNat ((e : Int) - (1 + (i : Int))).toNat : Int)
noncomputable abbrev sI (x : PySem.Str) (i e : Nat) : Int := (stopOf x.cps.toList (1 + (i : Int)).toNat ((e : Int) - (1 + (i : Int))).toNat : Int)
noncomputable abbrev eC (x : PySem.Str) (i : Nat) : Nat := endOf x.cps.toList (1 + (i : Int)).toNat
noncomputable abbrev eN (x : PySem.Str) (i : Nat) : Nat := endOf (numsOf x) (1 + (i : Int)).toNat
def CountI (x : PySem.Str) (i e : Nat) : Prop := bI x i e < 1 + (i : Int) ∧ 2 * ((e : Int) - (1 + (i : Int))) ≤ sI x i e - bI x i e
theorem run_form (x : PySem.Str) (i e : Nat) : runAt x (1 + i) e = (bI x i e, sI x i e, (e : Int) - (1 + (i : Int))) := by
  unfold runAt bI sI
  rw [show (1 + (i : Int)).toNat = 1 + i by lia, show ((e : Int) - (1 + (i : Int))).toNat = e - (1 + i) by lia, show ((1 + i : Nat) : Int) = 1 + (i : Int) by lia]
theorem count_form (x : PySem.Str) (i e : Nat) : counts (1 + i) (runAt x (1 + i) e) = true ↔ CountI x i e := by
  rw [run_form]
  unfold counts CountI
  simp only [Bool.and_eq_true, decide_eq_true_eq]
  lia
theorem end_form {α : Type} [DecidableEq α] [LT α] [DecidableLT α] (l : List α) (i : Nat) : endOf l (1 + i) = endOf l (1 + (i : Int)).toNat := by
  rw [show (1 + (i : Int)).toNat = 1 + i by lia]
section
variable {x : PySem.Str} {i : Nat} {r1 r2 : Addr} {p1 p2 : Obj} {t1 t2 t3 u1 u2 u3 : Tok}
theorem here_form (x : PySem.Str) (i : Nat) : hereAt x (1 + i) = [runAt x (1 + i) (eC x i), runAt x (1 + i) (eN x i)].filter (counts (1 + i)) := by
  unfold hereAt eC eN
  rw [end_form, end_form]
theorem here_no (h1 : ¬ CountI x i (eC x i)) (h2 : ¬ CountI x i (eN x i)) {tups : List (Addr × Obj)} : HereIs [] tups (hereAt x (1 + i)) := by
  refine .inl ⟨rfl, ?_⟩
  rw [← count_form] at h1 h2
  rw [here_form]
  simp [h1, h2]
theorem here_codes (h1 : CountI x i (eC x i)) {hv : List Value} (hh : hv = [.ref r1] ∨ ∃ r', hv = [.ref r1, .ref r']) {tups : List (Addr × Obj)} (hm : (r1, tup3 (bI x i (eC x i)) (sI x i (eC x i)) ((eC x i : Int) - (1 + (i : Int))) t1 t2 t3) ∈ tups) : HereIs hv tups (hereAt x (1 + i)) := by
  refine .inr ⟨_, _, _, _, _, _, _, hh, ?_, hm⟩
  rw [← count_form] at h1
  rw [here_form, List.filter_cons, if_pos h1, run_form]
  rfl
theorem here_nums (h1 : ¬ CountI x i (eC x i)) (h2 : CountI x i (eN x i)) {tups : List (Addr × Obj)} (hm : (r2, tup3 (bI x i (eN x i)) (sI x i (eN x i)) ((eN x i : Int) - (1 + (i : Int))) t1 t2 t3) ∈ tups) : HereIs [.ref r2] tups (hereAt x (1 + i)) := by
  refine .inr ⟨_, _, _, _, _, _, _, .inl rfl, ?_, hm⟩
  rw [← count_form] at h1 h2
  rw [here_form, List.filter_cons, if_neg h1, List.filter_cons, if_pos h2, run_form]
  rfl
/-- no place has two unlike runs -/
theorem here_one (hx : Letters x) (hi : i < x.length - 1) (h1 : CountI x i (eC x i)) (h2 : CountI x i (eN x i)) : eC x i = eN x i := by
  rw [← count_form] at h1 h2
  have e := here_same hx (i := 1 + i) (by lia) (by lia) (by rw [end_form]; exact h1) (by rw [end_form]; exact h2)
  rw [end_form, end_form] at e
  exact e
theorem ret_absurd (hx : Letters x) (hi : i < x.length - 1) (h1 : CountI x i (eC x i)) (h2 : CountI x i (eN x i))
    (h : (bI x i (eC x i) == bI x i (eN x i) && (sI x i (eC x i) == sI x i (eN x i) && ((eC x i : Int) - (1 + (i : Int))) == ((eN x i : Int) - (1 + (i : Int))))) = false) : False := by
  rw [here_one hx hi h1 h2] at h
  simp at h
theorem not_count1 {x : PySem.Str} {i e : Nat} (h : ¬ bI x i e < 1 + (i : Int)) : ¬ CountI x i e := fun c => h c.1
theorem not_count2 {x : PySem.Str} {i e : Nat} (h : ¬ 2 * ((e : Int) - (1 + (i : Int))) ≤ sI x i e - bI x i e) : ¬ CountI x i e := fun c => h c.2
end
end Mine
end

section
open PySem PySem.W PySem.Calls PySem.Spec PyProof PyProof.Rows Mine
namespace Mine












structure StopAug : Prop where
  mark :: (one : True)
theorem comp_end_same {h₀ : Heap} {L I C D : Addr} {m : Str → Option Value} {s₁ : Shared} {oI oC oD : Obj} {S : List (Addr × Obj) → Prop} {rest : Value → List (Addr × Obj) → Prop} {h' : Heap} {tk : Nat} {y : Value} {news : List (Addr × Obj)}
    (F : Fr h₀ L h' m) (N : News h₀ L h' ((I, oI) :: (C, oC) :: (D, oD) :: news)) (off : LCg.Off3 I C D news)
    (hS : S news) (R : rest y news) : LCg.CompEnd h₀ L m s₁ I oI C oC D oD S rest y { s₁ with heap := h', toks := tk } :=
  LCg.CompEnd.intro F N news (fun _ hp => hp) off hS R
theorem comp_end_new {h₀ : Heap} {L I C D r : Addr} {m : Str → Option Value} {s₁ : Shared} {oI oC oD o : Obj} {S : List (Addr × Obj) → Prop} {rest : Value → List (Addr × Obj) → Prop} {h' : Heap} {tk : Nat} {news : List (Addr × Obj)}
    (F : Fr h₀ L h' m) (N : News h₀ L h' ((r, o) :: (I, oI) :: (C, oC) :: (D, oD) :: news)) (off : LCg.Off3 I C D news) (hap : ∀ q ∈ [(r, o)], ∀ p ∈ (I, oI) :: (C, oC) :: (D, oD) :: news, p.1 ≠ q.1)
    (hS : S ((r, o) :: news)) (R : rest (.ref r) ((r, o) :: news)) : LCg.CompEnd h₀ L m s₁ I oI C oC D oD S rest (.ref r) { s₁ with heap := h', toks := tk } := by
  have ha := hap _ (.head _)
  refine LCg.CompEnd.intro F N ((r, o) :: news) (fun p hp => ?_) ⟨⟨?_, ?_, ?_⟩, off⟩ hS R
  · simp only [List.mem_cons] at hp ⊢
    grind
  · exact Ne.symm (ha _ (.head _))
  · exact Ne.symm (ha _ (.tail _ (.head _)))
  · exact Ne.symm (ha _ (.tail _ (.tail _ (.head _))))


structure StopEq : Prop where
  mark :: (one : True)
structure StopSort : Prop where
  mark :: (one : True)
structure StopT1 : Prop where
  mark :: (one : True)
structure StopT2 : Prop where
  mark :: (one : True)
structure StopAdd : Prop where
  mark :: (one : True)
structure StopNot : Prop where
  mark :: (one : True)

set_option maxRecDepth 100000 in
set_option maxHeartbeats 4000000 in
theorem law_holds : PySem.Challenge.rw_ti0011_01.Holds := hd (by
  k_with_none
  w_top off
  k_with "exec For Name Call cons nil" => ((rename StopFor => hS9Zq; refine stop_here ?_))
  k_with "call ref cons nil" => ((rename StopCall => hS9Zq; refine stop_here ?_))
  k_with "call ref cons nil" => ((k_here; (with_reducible show wpAny _ _ (call (Value.ref 50) _) _ _ _); k_dflt (refine' d_text2 _ _ _ (by assumption) (by lia) _ _ _ _ _ _ _ _ _ _ _ _ _ _ _ _ _ _ (by k_asm) (by k_asm) (by k_asm) (by k_asm) (by k_asm) (by first | exact rfl | assumption) (by k_asm) (by first | exact room_le (by with_reducible assumption) (Nat.le_of_ble_eq_true rfl) | exact Nat.lt_of_le_of_lt (Nat.le_add_right _ _) (by with_reducible assumption) | ktr_room) (by first | exact units_le (by with_reducible assumption) (Nat.le_of_ble_eq_true rfl) | ktr_units) ?_; k_whole); intro x'Zq t'Zq h'Zq tk'Zq hx7Zq hx12Zq hxinZq F'Zq N'Zq; (try dsimp only); (try k_fold)))
  k_with "call ref cons nil" => ((k_here; (with_reducible show wpAny _ _ (call (Value.ref 21) [Value.str _ _, Value.str _ _]) _ _ _); k_dflt (refine' PureC.use (d_strcoll _ _ _ _) (by k_asm) (by k_asm) (by k_asm) (by k_asm) (by k_asm) (by first | exact rfl | assumption) (by exact List.forall_mem_nil _) (by first | exact room_le (by with_reducible assumption) (Nat.le_of_ble_eq_true rfl) | exact Nat.lt_of_le_of_lt (Nat.le_add_right _ _) (by with_reducible assumption) | ktr_room) (by first | exact units_le (by with_reducible assumption) (Nat.le_of_ble_eq_true rfl) | ktr_units) ?_; k_whole); intro t'Zq h'Zq tk'Zq F'Zq N'Zq; (try dsimp only); (try k_fold)))
  k_with "exec Assign cons ListComp" => ((k_here; (with_reducible show wpAny _ _ (exec (PySem.Stmt.Assign _ (PySem.Expr.ListComp (PySem.Expr.Subscript _ _ _) _ _ _) _) _) _ _ _); k_dflt (refine Assign_ListComp_S (F₀ := by k_asm) (by rfl) (by with_unfolding_all rfl) (by with_unfolding_all rfl) (by decide) (by rfl) (by decide) (by rfl) (by rfl) (by rfl) ?_ (by intro _; rfl))))
  k_with "StrSrc" => ((k_here; k_dflt (refine ⟨_, _, _, rfl, (by rfl), (by k_asm), (by k_asm), (by size_fits), ?_⟩); intro s2Zq hs2Zq; obtain ⟨h2Zq, e2Zq⟩ := hs2Zq; subst e2Zq; refine str_ints numOf (fun cZq uZq IZq oIZq CZq oCZq DZq m₂Zq ysZq hZq tkZq E'Zq hcZq hCZq hxZq FZq NZq offZq neZq => ?_) ?_; (rename (∀ cZq ∈ (PySem.Str.cps _).toList, cZq = 42 ∨ cZq = 43 ∨ cZq = 44) => hin9; rcases hin9 cZq hcZq with e9Zq | e9Zq | e9Zq <;> subst e9Zq)))
  k_with "CompEnd int" => ((k_here; exact ⟨_, _, _, rfl, by assumption, by assumption, by assumption, trivial, rfl, _, rfl⟩))
  k_with "call ref cons nil" => ((k_here; (with_reducible show wpAny _ _ (call (Value.ref 57) [Value.str _ _, Value.int _ _]) _ _ _); k_dflt (refine' PureC.use (d_by_codes _ _ _ _ (by lia) (by lia) (by lia)) (by k_asm) (by k_asm) (by k_asm) (by k_asm) (by k_asm) (by first | exact rfl | assumption) (by exact List.forall_mem_nil _) (by first | exact room_le (by with_reducible assumption) (Nat.le_of_ble_eq_true rfl) | exact Nat.lt_of_le_of_lt (Nat.le_add_right _ _) (by with_reducible assumption) | ktr_room) (by first | exact units_le (by with_reducible assumption) (Nat.le_of_ble_eq_true rfl) | ktr_units) ?_; k_whole); intro t'Zq h'Zq tk'Zq F'Zq N'Zq; (try dsimp only); (try k_fold)))
  k_with "call ref cons nil" => ((k_here; (with_reducible show wpAny _ _ (call (Value.ref 71) [Value.ref _, Value.int _ _]) _ _ _); k_dflt (refine' PureC.use (d_by_numbers _ _ _ _ (by assumption) (by lia) _ _ (by lia) (by lia)) (by k_asm) (by k_asm) (by k_asm) (by k_asm) (by k_asm) (by first | exact rfl | assumption) (by (intro qZq hqZq; rw [List.mem_singleton.mp hqZq]; k_mem)) (by first | exact room_le (by with_reducible assumption) (Nat.le_of_ble_eq_true rfl) | exact Nat.lt_of_le_of_lt (Nat.le_add_right _ _) (by with_reducible assumption) | ktr_room) (by first | exact units_le (by with_reducible assumption) (Nat.le_of_ble_eq_true rfl) | ktr_units) ?_; k_whole); intro t'Zq h'Zq tk'Zq F'Zq N'Zq; (try dsimp only); (try k_fold)))
  k_with "call ref cons nil" => ((k_here; (with_reducible show wpAny _ _ (call (Value.ref 78) [Value.str _ _, Value.int _ _, Value.int _ _]) _ _ _); k_dflt (refine' Does.use (d_carried _ _ _ _ _ _ (by lia) (by lia) (by lia) (by lia)) (by k_asm) (by k_asm) (by k_asm) (by k_asm) (by k_asm) (by first | exact rfl | assumption) (by exact List.forall_mem_nil _) (by first | exact room_le (by with_reducible assumption) (Nat.le_of_ble_eq_true rfl) | exact Nat.lt_of_le_of_lt (Nat.le_add_right _ _) (by with_reducible assumption) | ktr_room) (by first | exact units_le (by with_reducible assumption) (Nat.le_of_ble_eq_true rfl) | ktr_units) ?_; k_whole); intro v'Zq tl'Zq h'Zq tk'Zq F'Zq N'Zq hap'Zq ho'Zq; k_dflt (obtain ⟨r'Zq, ta'Zq, tb'Zq, tc'Zq, hv'Zq, htl'Zq⟩ := ho'Zq); subst hv'Zq; subst htl'Zq; simp only [List.cons_append, List.nil_append] at N'Zq; (try dsimp only); (try k_fold)))
  k_with "exec Assign cons ListComp" => ((k_here; (with_reducible show wpAny _ _ (exec (PySem.Stmt.Assign _ (PySem.Expr.ListComp (PySem.Expr.Call _ _ _ _) _ _ _) _) _) _ _ _); k_dflt (refine LCg.Assign_ListComp_U (F₀ := by k_asm) (by rfl) (by with_unfolding_all rfl) (by with_unfolding_all rfl) (by decide) (by rfl) (by decide) (by rfl) (by rfl) (by rfl) ?_)))
  k_with "CompSrc" => ((k_here; k_dflt (refine LCg.CompSrc.ledger (by rfl) (by k_asm) (by k_asm) (by k_mem) (by first | size_fits | exact Nat.le_of_ble_eq_true rfl) ?_); intro g'Zq; lcg_lit))
  k_with "CompRest" => ((with_unfolding_all first | (refine LCg.CompRest.succ ?_; intro v'Zq I'Zq oI'Zq C'Zq oC'Zq D'Zq m'Zq h'Zq tk'Zq E'Zq hv'Zq hC'Zq hx'Zq F'Zq N'Zq off'Zq ne'Zq; lcg_open hv'Zq) | refine LCg.CompRest.zero ?_))
  k_with "CompEnd ref" => ((k_here; first | (refine comp_end_new (by assumption) (by assumption) (by assumption) (by assumption) (by exact Or.inr ⟨_, by k_mem, rfl, _, rfl⟩) ?_) | (refine comp_end_same (by assumption) (by assumption) (by assumption) (by exact Or.inr ⟨_, by k_mem, rfl, _, rfl⟩) ?_)))
  k_with "CompEnd none" => ((k_here; (refine comp_end_same (by assumption) (by assumption) (by assumption) (by exact Or.inr ⟨_, by k_mem, rfl, _, rfl⟩) ?_)))
  k_with "CompRestT" => ((with_unfolding_all first | (refine LCt.CompRestT.succ ?_; intro v'Zq I'Zq oI'Zq C'Zq oC'Zq D'Zq m'Zq h'Zq tk'Zq E'Zq hv'Zq hC'Zq hx'Zq F'Zq N'Zq off'Zq ne'Zq; lcg_open hv'Zq) | refine LCt.CompRestT.zero ?_))
  k_with "exec AugAssign" => ((rename StopAug => hS9Zq; refine stop_here ?_))
  k_with "exec Assign cons ListComp" => ((rename StopComp => hS9Zq; refine stop_here ?_))
  k_with "compareOp Eq ref ref" => ((rename StopEq => hS9Zq; refine stop_here ?_))
  k_with "call builtin:sorted" => ((rename StopSort => hS9Zq; refine stop_here ?_))
  k_with "eval ListComp" => ((k_here; k_dflt (refine LCt.ListComp_T (F₀ := by k_asm) (by with_unfolding_all rfl) (by decide) (by rfl) (by decide) (by rfl) ?_)))
  k_with "compareOp NotIn ref ref" => ((rename StopNot => hS9Zq; refine stop_here ?_))
  k_with "inplaceOp Add ref ref" => ((rename StopAdd => hS9Zq; refine stop_here ?_))
  k_go0
  all_goals try k_fold
  all_goals have hSc : StopCall := ⟨trivial⟩
  all_goals have hSf : StopFor := ⟨trivial⟩
  k_steps
  refine stop_out ?_
  with_unfolding_all refine' For_turns (by k_asm) ?_ ?zz1 ?zz2
  case zz1 => exact fun _ => rfl
  k_steps
  rename IsRange _ _ _ _ _ _ _ _ => hr
  rename PySem.Str => x
  refine turns_range (LJ x ?bs9) (fun I o v s Q E _ _ q => by unfold letOwnedTupleGo; exact wpAny_pure q) (by rfl) hr ?hsmall (n := x.length - 1) ?hsz (by k_asm) (by k_asm) ?hj ?turn ?done
  case hsmall => exact small_one (by lia) (by lia) (by lia) (by lia)
  case hsz => exact rangeSize_len (by lia)
  case hj =>
    refine' ⟨_, _, _, [], 0, _, _, _, _, _, [], ?j1, rfl, ?j2, ?j3, ?j4, ?j5, ?j6, ?j7, ?j8⟩
    case j1 => with_unfolding_all rfl
    case j2 => assumption
    case j3 => assumption
    case j4 => first | assumption | with_unfolding_all assumption
    case j5 => assumption
    case j6 => (unfold Apart; refine ⟨?_, ?_, ?_, ?_, ?_, ?_, ?_⟩ <;> lia)
    case j7 => exact fun _ h => nomatch h
    case j8 => exact .nil
  case turn =>
    intro i t m₁ nx h tk own hi hoff hJ F₁ N₁
    have hLx : Letters x := by assumption
    obtain ⟨Lf, Nn, ysN, vsF, k, o1, o2, o3, d3, t1, tl, hm, rfl, hd1, hd2, hd3, hys, hap, htl, hts⟩ := hJ
    have F₂ := fr_named F₁ hm
    clear F₁
    simp only [List.cons_append] at N₁
    have hall := off_all htl hoff
    refine cut5 (x := x) (i := i) N₁ ?last ?init
    case init =>
      intro hlast
      clear hoff htl
      obtain ⟨ha1, ha2, ha3, ha4, ha5, ha6, ha7⟩ := hap
      generalize hrest : tl ++ own = rest at N₁ hall hlast
      have hnl : (numsOf x).length = x.length := by rw [numsOf, List.length_map]; rfl
      have htl' : x.cps.toList.length = x.length := rfl
      have he1 := endOf_bounds (l := x.cps.toList) (i := (1 + (i : Int)).toNat) (by show _ < x.length; lia)
      have he2 := endOf_bounds (l := numsOf x) (i := (1 + (i : Int)).toNat) (by rw [numsOf, List.length_map]; show _ < x.length; lia)
      have hS3 : StopAug := ⟨trivial⟩
      have hT1 : StopT1 := ⟨trivial⟩
      have hT2 : StopT2 := ⟨trivial⟩
      k_with "isTrue BoolOp" => ((rename StopT2 => hT9); (clear hT9); (refine test_join (CountI x i (eN x i)) ?_ (fun tk9 hc9 => ?_) (fun tk9 hc9 => ?_)); (all_goals (try dsimp only)))
      k_with "isTrue BoolOp" => ((rename StopT1 => hT9); (clear hT9); (refine test_join (CountI x i (eC x i)) ?_ (fun tk9 hc9 => ?_) (fun tk9 hc9 => ?_)); (all_goals (try dsimp only)); (rename StopT2 => hT9); (clear hT9))
      k_steps
      all_goals first
        | exact test_yes ⟨by with_reducible assumption, by with_reducible assumption⟩
        | exact test_no (not_count1 (by with_reducible assumption))
        | exact test_no (not_count2 (by with_reducible assumption))
        | (refine stop_out (hlast _ ?_)
           rename Fr _ _ _ _ => F9
           rename News _ _ _ _ => N9
           rename _ ≠ _ ∧ _ ≠ _ ∧ _ ≠ _ ∧ _ => o9
           rename ∀ q : Addr × Obj, q ∈ (_ : List (Addr × Obj)) → ∀ p : Addr × Obj, p ∈ (_ : List (Addr × Obj)) → p.1 ≠ q.1 => hapN
           revert hapN
           rename ∀ q : Addr × Obj, q ∈ (_ : List (Addr × Obj)) → ∀ p : Addr × Obj, p ∈ (_ : List (Addr × Obj)) → p.1 ≠ q.1 => hapC
           intro hapN
           rename PySem.Obj.data _ = _ => hd9
           refine' add_at F9 N9 ?_ ?_ hd9 ?_ hapN hapC o9
           · with_unfolding_all rfl
           · with_unfolding_all rfl
           clear F9 N9 o9 hapN hapC hd9 hlast
           first
           | exact here_codes (by with_reducible assumption) (.inr ⟨_, rfl⟩) (.tail _ (.head _))
           | exact here_codes (by with_reducible assumption) (.inl rfl) (.tail _ (.head _))
           | exact here_nums (by with_reducible assumption) (by with_reducible assumption) (.head _)
           | exact here_no (by with_reducible assumption) (by with_reducible assumption))
        | exact absurd (ret_absurd hLx hi (by with_reducible assumption) (by with_reducible assumption) (by with_reducible assumption)) id
    case last =>
      intro s' hP
      clear F₂ N₁ hm hd3
      obtain ⟨h', tk', m', D, r1, r2, hv, o3', d3', p1, p2, rfl, F, hm1, hm2, N, hd3, hH, hof, hor⟩ := hP
      have hF := fr_named F hm2
      have hF2 := fr_named hF (a := PySem.Str.ofString "here") (v := .ref D) (by rw [if_neg (by decide)]; exact hm1)
      clear F hF
      with_unfolding_all refine wpAny_AugAssign_Name ?_
      with_unfolding_all refine wpAny_loadName_cell (c := _ + 1 + 1) (v := .ref Lf) (by rfl) (by rfl) (by rfl) ⟨o2, (N _ (.tail _ (.tail _ (.tail _ (.tail _ (.tail _ (.tail _ (.head _)))))))).1, hd2⟩ ?_
      have hSa : StopAdd := ⟨trivial⟩
      have hSn : StopNot := ⟨trivial⟩
      have hvl := found_tups hts hi (by assumption)
      have hot := own_tl hoff
      rcases hH with ⟨rfl, hh⟩ | ⟨r, ra, rb, rc, ta, tb, tc, hv', hh, hm⟩
      · k_steps
        refine stop_out ?_
        rename Fr _ _ _ _ => F3
        rename News _ _ _ _ => N3
        rename _ ≠ _ ∧ _ => ho3
        refine add_walk (us := []) F3 (fun q hq => N3 q (led_sub hq)) (by with_unfolding_all rfl) hd1 hd2 hd3 hys hap htl hof hor hall hot ho3.2.2.2.2.1 hvl (Nat.zero_le _) ?_ (by with_unfolding_all rfl) (by with_unfolding_all rfl) (by with_unfolding_all rfl)
        rw [found_none hh, List.append_nil]
        exact hts.mono fun q hq => .tail _ (.tail _ hq)
      · rcases hv' with rfl | ⟨r', rfl⟩
        all_goals
          k_steps
          refine stop_out ?_
          refine notin_tups (a := ra) (b := rb) (c := rc) (ta := ta) (tb := tb) (tc := tc) (k := k) (by k_asm) ?n1 (TupsAre.mono ?n2 hts) ?n3 ?n4 ?_
          case n1 => k_mem
          case n2 =>
            intro q hq
            simp only [List.mem_cons, List.mem_append, hq, true_or, or_true]
          case n3 =>
            simp only [List.mem_cons, List.not_mem_nil, or_false] at hm
            rcases hm with e9 | e9
            · exact e9 ▸ (.tail _ (.tail _ (.tail _ (.tail _ (.tail _ (.head _))))))
            · exact e9 ▸ (.tail _ (.tail _ (.tail _ (.tail _ (.tail _ (.tail _ (.head _)))))))
          case n4 => units_room
          k_steps
          · refine stop_out ?_
            rename Fr _ _ _ _ => F3
            rename News _ _ _ _ => N3
            rename _ ≠ _ ∧ _ => ho3
            refine add_walk (us := []) F3 (fun q hq => N3 q (led_sub hq)) (by with_unfolding_all rfl) hd1 hd2 hd3 hys hap htl hof hor hall hot ho3.2.2.2.2.1 hvl (Nat.zero_le _) ?_ (by with_unfolding_all rfl) (by with_unfolding_all rfl) (by with_unfolding_all rfl)
            rw [found_old hh (by assumption), List.append_nil]
            exact hts.mono fun q hq => .tail _ (.tail _ hq)
          · refine stop_out ?_
            rename Fr _ _ _ _ => F3
            rename News _ _ _ _ => N3
            rename _ ≠ _ ∧ _ => ho3
            refine add_walk (us := [.ref r]) F3 (fun q hq => N3 q (led_sub hq)) (by with_unfolding_all rfl) hd1 hd2 hd3 hys hap htl hof hor hall hot ho3.2.2.2.2.1 hvl (Nat.le_refl _) ?_ (by with_unfolding_all rfl) (by with_unfolding_all rfl) (by with_unfolding_all rfl)
            rw [found_new hh (by assumption)]
            exact (hts.mono fun q hq => .tail _ (.tail _ hq)).snoc (pair_mem hm)
  case done =>
    intro m₁ nx h tk hJ F₁ N₁
    have hLx : Letters x := by assumption
    obtain ⟨Lf, Nn, ysN, vsF, k, o1, o2, o3, d3, t1, tl, hm, rfl, hd1, hd2, hd3, hys, hap, htl, hts⟩ := hJ
    have hSs : StopSort := ⟨trivial⟩
    k_steps
    refine stop_out ?_
    have h12 : x.length ≤ 12 := by assumption
    refine sorted_tups (vs := vsF) (ts := foundTo x (x.length - 1)) (k := k) (by k_asm) (by k_asm) (by k_mem) (hts.mono fun q hq => .tail _ (.tail _ (.tail _ (.tail _ (.tail _ hq))))) (small_found hLx h12) (foundTo_nodup _) (found_few h12) ?_
    intro D1 c1 us1 ss1 h1 Fs1 Ns1 lo1 hus1 hperm1 hsort1
    k_steps
    refine stop_out ?_
    k_dflt (refine Does.use (d_told x _ h12 (no_dot hLx)) (by k_asm) (by k_asm) (by k_asm) (by k_asm) (by k_asm) (by first | exact rfl | assumption) (List.forall_mem_nil _) (by first | exact room_le (by with_reducible assumption) (Nat.le_of_ble_eq_true rfl) | exact Nat.lt_of_le_of_lt (Nat.le_add_right _ _) (by with_reducible assumption) | ktr_room) (by first | exact units_le (by with_reducible assumption) (Nat.le_of_ble_eq_true rfl) | ktr_units) ?_)
    intro v tl' h2 tk2 Fs2 Ns2 hap2 ho
    obtain ⟨R, vsT, kT, tlT, rfl, rfl, hTR, hTl, hTt⟩ := ho
    simp only [List.cons_append] at Ns2
    (try dsimp only)
    (try k_fold)
    k_steps
    refine stop_out ?_
    refine sorted_tups (vs := vsT) (ts := told x) (k := kT) (by k_asm) (by k_asm) (by k_mem) (hTt.mono fun q hq => .tail _ (List.mem_append.mpr (.inl hq))) (small_told hLx h12) (told_nodup x) (told_few hLx h12) ?_
    intro D2 c2 us2 ss2 h3 Fs3 Ns3 lo3 hus2 hperm2 hsort2
    have hSe : StopEq := ⟨trivial⟩
    k_steps
    refine stop_out ?_
    refine eq_tups (k := c1) (k' := c2) (ts := ss1) (rs := ss2) Ns3 (.tail _ (.tail _ (List.mem_append.mpr (.inr (.head _))))) (.head _) (hus1.mono fun q hq => .tail _ (.tail _ (List.mem_append.mpr (.inr (.tail _ hq))))) (hus2.mono fun q hq => .tail _ hq) (by units_room) ?_
    rw [decide_eq_true (ends_meet hLx h12 hperm1 hperm2 hsort1 hsort2)]
    k_steps)
end Mine
end
end

theorem PySem.Challenge.cw_ti0011_01_holds : PySem.Challenge.rw_ti0011_01.Holds := by
  exact Mine.law_holds
