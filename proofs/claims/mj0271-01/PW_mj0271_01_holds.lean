import PyProof.Rows.All
import Wide.All
import OpenK.AllK
import Wide.FinOn
import PySem.Challenge.RW_mj0271_01
set_option Elab.async false
namespace Mine
section
open PySem PySem.W PyProof.Rows
set_option maxRecDepth 100000
set_option maxHeartbeats 8000000
open_top hd for PySem.Challenge.rw_mj0271_01
end

section
open PySem PySem.W PyProof.Rows PySem.Calls
set_option maxRecDepth 100000
set_option maxHeartbeats 8000000
theorem hide {α : Type} (a : α) : ∃ b : α, b = a := ⟨a, rfl⟩
theorem sub_nil {l : List (Addr × Obj)} : ∀ p ∈ ([] : List (Addr × Obj)), p ∈ l := fun _ h => nomatch h
theorem sub_refl {l : List (Addr × Obj)} : ∀ p ∈ l, p ∈ l := fun _ h => h
theorem sub_tl {x : Addr × Obj} {a l : List (Addr × Obj)} (h : ∀ p ∈ a, p ∈ l) : ∀ p ∈ a, p ∈ x :: l := fun p hp => .tail _ (h p hp)
theorem sub_r {a l r : List (Addr × Obj)} (h : ∀ p ∈ a, p ∈ r) : ∀ p ∈ a, p ∈ l ++ r := fun p hp => List.mem_append_right _ (h p hp)
theorem sub_l {a l r : List (Addr × Obj)} (h : ∀ p ∈ a, p ∈ l) : ∀ p ∈ a, p ∈ l ++ r := fun p hp => List.mem_append_left _ (h p hp)
theorem sub_app {a b l : List (Addr × Obj)} (h : ∀ p ∈ a, p ∈ l) (k : ∀ p ∈ b, p ∈ l) : ∀ p ∈ a ++ b, p ∈ l := fun p hp => (List.mem_append.mp hp).elim (h p) (k p)
theorem sub_cons {x : Addr × Obj} {a l : List (Addr × Obj)} (hx : x ∈ l) (h : ∀ p ∈ a, p ∈ l) : ∀ p ∈ x :: a, p ∈ l := fun p hp => by
  rcases List.mem_cons.mp hp with rfl | hp
  · exact hx
  · exact h p hp
theorem ap_nil {a : Addr} : ∀ p ∈ ([] : List (Addr × Obj)), p.1 ≠ a := fun _ h => nomatch h
theorem ap_cons {x a : Addr} {o : Obj} {l : List (Addr × Obj)} (hx : @Ne Nat x a) (h : ∀ p ∈ l, p.1 ≠ a) : ∀ p ∈ (x, o) :: l, p.1 ≠ a := fun p hp => by
  rcases List.mem_cons.mp hp with rfl | hp
  · exact hx
  · exact h p hp
theorem ap_and {a : Addr} {P : Addr × Obj → Prop} {l : List (Addr × Obj)} (h : ∀ p ∈ l, p.1 ≠ a) (k : ∀ p ∈ l, P p) : ∀ p ∈ l, p.1 ≠ a ∧ P p := fun p hp => ⟨h p hp, k p hp⟩
theorem ap_app {a : Addr} {l r : List (Addr × Obj)} (h : ∀ p ∈ l, p.1 ≠ a) (k : ∀ p ∈ r, p.1 ≠ a) : ∀ p ∈ l ++ r, p.1 ≠ a := fun p hp => (List.mem_append.mp hp).elim (h p) (k p)
theorem ap_lt {a b : Addr} {l : List (Addr × Obj)} (h : ∀ p ∈ l, @LT.lt Nat _ p.1 b) (hb : @LE.le Nat _ b a) : ∀ p ∈ l, p.1 ≠ a := fun p hp => Nat.ne_of_lt (Nat.lt_of_lt_of_le (h p hp) hb)
theorem ap_gt {a b : Addr} {l : List (Addr × Obj)} (h : ∀ p ∈ l, @LT.lt Nat _ b p.1) (hb : @LE.le Nat _ a b) : ∀ p ∈ l, p.1 ≠ a := fun p hp => Nat.ne_of_gt (Nat.lt_of_le_of_lt hb (h p hp))

/-- values and data, place by place -/
def Rel2 {D : Type} (R : Value → D → Prop) (vs : List Value) (ds : List D) : Prop :=
  vs.length = ds.length ∧ ∀ (k : Nat) (v : Value) (d : D), vs[k]? = some v → ds[k]? = some d → R v d

theorem Rel2.set {D : Type} {R : Value → D → Prop} {vs : List Value} {ds : List D} (h : Rel2 R vs ds) {v : Value} {d : D} (hr : R v d) (k : Nat) : Rel2 R (vs.set k v) (ds.set k d) := by
  refine ⟨by rw [List.length_set, List.length_set]; exact h.1, fun j v' d' h1 h2 => ?_⟩
  rw [List.getElem?_set] at h1 h2
  by_cases e : k = j
  · rw [if_pos e] at h1 h2
    split at h1 <;> split at h2 <;> simp_all
  · rw [if_neg e] at h1 h2
    exact h.2 j v' d' h1 h2
theorem Rel2.get {D : Type} [Inhabited D] {R : Value → D → Prop} {vs : List Value} {ds : List D} (h : Rel2 R vs ds) {k : Nat} (hk : k < ds.length) : ∃ v, vs[k]? = some v ∧ R v (ds.getD k default) := by
  have h1 : k < vs.length := by rw [h.1]; exact hk
  refine ⟨vs[k], List.getElem?_eq_getElem h1, h.2 k _ _ (List.getElem?_eq_getElem h1) ?_⟩
  simp [List.getD, List.getElem?_eq_getElem hk]
theorem Rel2.snoc {D : Type} {R : Value → D → Prop} {vs : List Value} {ds : List D} (h : Rel2 R vs ds) {v : Value} {d : D} (hr : R v d) : Rel2 R (vs ++ [v]) (ds ++ [d]) := by
  refine ⟨by simp [h.1], fun j v' d' h1 h2 => ?_⟩
  by_cases e : j < vs.length
  · rw [List.getElem?_append_left e] at h1
    rw [List.getElem?_append_left (by rw [← h.1]; exact e)] at h2
    exact h.2 j v' d' h1 h2
  · rw [List.getElem?_append_right (by omega)] at h1
    rw [List.getElem?_append_right (by rw [← h.1]; omega)] at h2
    have : j - vs.length = 0 := by
      rcases Nat.eq_zero_or_pos (j - vs.length) with q | q
      · exact q
      · rw [List.getElem?_eq_none (by simp; omega)] at h1; cases h1
    have h3 : j - ds.length = 0 := by rw [← h.1]; exact this
    rw [this] at h1; rw [h3] at h2
    simp at h1 h2
    subst h1; subst h2; exact hr
theorem Rel2.nil {D : Type} {R : Value → D → Prop} : Rel2 R [] ([] : List D) := ⟨rfl, fun _ _ _ h => by simp at h⟩

/-! the pure sifts -/
section
variable {D : Type} [Inhabited D] (lt : D → D → Bool)
noncomputable def sdGo (x : D) (start : Nat) : Nat → List D → Nat → List D
  | 0, ds, pos => ds.set pos x
  | f + 1, ds, pos => if start < pos then (if lt x (ds.getD ((pos - 1) / 2) default) then sdGo x start f (ds.set pos (ds.getD ((pos - 1) / 2) default)) ((pos - 1) / 2) else ds.set pos x) else ds.set pos x
noncomputable def sd (ds : List D) (start pos : Nat) : List D := sdGo lt (ds.getD pos default) start pos ds pos
theorem sdGo_length (x : D) (start : Nat) : ∀ (f : Nat) (ds : List D) (pos : Nat), (sdGo lt x start f ds pos).length = ds.length
  | 0, ds, pos => by simp [sdGo]
  | f + 1, ds, pos => by
    unfold sdGo
    split
    · split
      · rw [sdGo_length x start f]; simp
      · simp
    · simp
theorem sd_length (ds : List D) (start pos : Nat) : (sd lt ds start pos).length = ds.length := sdGo_length lt _ _ _ _ _
theorem sdGo_fuel (x : D) (start : Nat) : ∀ (f : Nat) (ds : List D) (pos : Nat), pos ≤ f → sdGo lt x start f ds pos = sdGo lt x start pos ds pos := by
  have key : ∀ (f g : Nat) (ds : List D) (pos : Nat), pos ≤ f → pos ≤ g → sdGo lt x start f ds pos = sdGo lt x start g ds pos := by
    intro f
    induction f with
    | zero =>
      intro g ds pos h1 h2
      have : pos = 0 := by omega
      subst this
      cases g with
      | zero => rfl
      | succ g => simp [sdGo]
    | succ f ih =>
      intro g ds pos h1 h2
      cases g with
      | zero =>
        have : pos = 0 := by omega
        subst this
        simp [sdGo]
      | succ g =>
        unfold sdGo
        by_cases hs : start < pos
        · rw [if_pos hs, if_pos hs]
          split
          · exact ih g _ _ (by omega) (by omega)
          · rfl
        · rw [if_neg hs, if_neg hs]
  exact fun f ds pos h => key f pos ds pos h (Nat.le_refl _)
/-- one turn of the loop -/
theorem sdGo_step (x : D) (start : Nat) (ds : List D) (pos : Nat) : sdGo lt x start pos ds pos =
    if start < pos then (if lt x (ds.getD ((pos - 1) / 2) default) then sdGo lt x start ((pos - 1) / 2) (ds.set pos (ds.getD ((pos - 1) / 2) default)) ((pos - 1) / 2) else ds.set pos x) else ds.set pos x := by
  cases pos with
  | zero => simp [sdGo]
  | succ p =>
    show (if start < p + 1 then (if lt x (ds.getD ((p + 1 - 1) / 2) default) then sdGo lt x start p (ds.set (p + 1) (ds.getD ((p + 1 - 1) / 2) default)) ((p + 1 - 1) / 2) else ds.set (p + 1) x) else ds.set (p + 1) x) = _
    rw [sdGo_fuel lt x start p _ _ (by omega)]
end

/-! the frame at hand -/
noncomputable abbrev Mo (w : World) : Model := model Challenge.rw_mj0271_01.row.prog w
/-- the state: all but heap and tokens is s's -/
noncomputable def st (s : Shared) (h : Heap) (tk : Nat) : Shared := { s with heap := h, toks := tk }
theorem st_self (s : Shared) : st s s.heap s.toks = s := rfl
noncomputable def put (m : Str → Option Value) (x : Str) (v : Value) : Str → Option Value := fun y => if y = x then some v else m y
theorem put_eq {m : Str → Option Value} {x : Str} {v : Value} : put m x v x = some v := if_pos rfl
theorem put_ne {m : Str → Option Value} {x y : Str} {v v' : Value} (hn : y ≠ x) (h : m y = some v') : put m x v y = some v' := by unfold put; rw [if_neg hn]; exact h

structure At (w : World) (A : Around) (h₀ : Heap) (L : Addr) : Prop where
  ex : ∃ (A₀ : Around) (base : Heap) (outer : List Env) (env : Env) (p : Program) (loose : List Str) (mean : ExcName → Option Value) (mg mb : Str → Option Value),
    Below A₀ base outer h₀ ∧ (hd.heap_39 w.params).In h₀ ∧ Top p loose mean mg mb h₀ ∧ A.frames = some (env :: outer) ∧ env.frame = some L ∧ env.scope.kind = .function

/-- what a body's end says to its caller -/
def Lv (h₀ : Heap) (L : Addr) (m : Str → Option Value) (g : Heap) (Q E : Value → Shared → Prop) : Flow → Shared → Prop :=
  fun fl s' => LeaveK h₀ L m g (fun r s' => match r with | .ok (.ret v) => Q v s' | .ok _ => False | .error e => E e s') (match fl with | .ret v => v | _ => .none) s'

section
variable {w : World} {A : Around} {E : Value → Shared → Prop} {s : Shared} {h : Heap} {tk : Nat} {L : Addr} {h₀ : Heap} {m : Str → Option Value} {news : List (Addr × Obj)}

theorem enter {Q : Value → Shared → Prop}
    {name qual : Str} {params : Arguments} {body : List Stmt} {scope : Scope} {dV kV doc pm cdv ct oc : Value} {an od : Option Addr} {osl : Array (Option Value)} {f : Addr} {args : List Value} (binds : List (Str × Value))
    (C : At w A h₀ L) (F : Fr h₀ L h m) (N : News h₀ L h news)
    (ho : (hd.heap_39 w.params).lookup f = some ⟨oc, od, .func (fnOf name qual params body scope dV kV doc pm an cdv ct), osl⟩) (hcd : codeIn (hd.heap_39 w.params) cdv qual = true) (hroom : A.depth < recursionLimit)
    (hbind : bindArgs (fnOf name qual params body scope dV kV doc pm an cdv ct) ⟨args, []⟩ = pure binds) (hloc : (binds.all fun x => decide (scope.names.lookup x.1 = some .local)) = true)
    (hco : scope.isCoroutine = false) (hgen : scope.isGenerator = false) (hk : scope.kind = .function)
    (hcell : ∀ x ∈ scope.names, x.2 ≠ .cell)
    (k : ∀ g L' h₁ tk₁, Fr g L' h₁ (fun y => binds.reverse.lookup y) → News g L' h₁ news → At w (A.deeper (envOf qual scope L' f cdv)) g L' → ∀ Qx, Qx = Lv h₀ L m g Q E →
      wpAny (Mo w) (A.deeper (envOf qual scope L' f cdv)) (execs body (envOf qual scope L' f cdv))
        Qx (fun _ _ => False)
        (st s h₁ tk₁)) :
    wpAny (Mo w) A (call (.ref f) args) Q E (st s h tk) := by
  obtain ⟨A₀, base, outer, env, p, loose, mean, mg, mb, B, X, T, hA, hf, hke⟩ := C.ex
  refine wpAny_call (code_def (s := st s h tk) B F X N T hA hf hke ho hcd hroom (BindsTo.of_eq hbind) (locs hloc) (fun g L' h₁ _ F' N' B' X' T' => ?_) hco hgen hk hcell)
  refine wpAny_mono (k g L' h₁ _ F' N' ⟨_, _, _, envOf qual scope L' f cdv, _, _, _, _, _, B', X', T', ?_, rfl, hk⟩ _ rfl) (fun _ _ x => x) fun _ _ x => x.elim
  show (A.frames.map _) = _
  rw [hA]; rfl

theorem leave {g : Heap} {L' : Addr} {m' : Str → Option Value} {news' : List (Addr × Obj)} {Q : Value → Shared → Prop} {v : Value} (F' : Fr g L' h m') (N' : News g L' h news')
    (k : Fr h₀ L h m → News h₀ L h news' → Q v (st s h tk)) : LeaveK h₀ L m g (fun r s' => match r with | .ok (.ret v) => Q v s' | .ok _ => False | .error e => E e s') v (st s h tk) := leaveK_ (s' := st s h tk) F' N' k

theorem leaveB {g : Heap} {L' : Addr} {m' : Str → Option Value} {news' : List (Addr × Obj)} {Q : Value → Shared → Prop} {Qx : Flow → Shared → Prop} (e : Qx = Lv h₀ L m g Q E) {fl : Flow} (F' : Fr g L' h m') (N' : News g L' h news')
    (k : Fr h₀ L h m → News h₀ L h news' → Q (match fl with | .ret v => v | _ => .none) (st s h tk)) : Qx fl (st s h tk) := by
  rw [e]
  exact leave F' N' k

theorem lessBy {a k j R : Nat} (h : a + j < R) (hk : k ≤ j) : a + k < R := Nat.lt_of_le_of_lt (Nat.add_le_add_left hk a) h
theorem lessBy0 {a j R : Nat} (h : a + j < R) : a < R := Nat.lt_of_le_of_lt (Nat.le_add_right a j) h

section
variable {qual : Str} {scope : Scope} {f : Addr} {cdv : Value}
theorem r_name {x : Str} {pos : Pos} {v : Value} {Q : Value → Shared → Prop} (F : Fr h₀ L h m) (hv : m x = some v) (k : Q v (st s h tk))
    (hk : scope.kind = .function := by rfl) (hl : (envOf qual scope L f cdv).kindOf x = some .local := by rfl)
    (hd : (x == ("__debug__" : Str)) = false := by decide) :
    wpAny (Mo w) A (eval (.Name x pos) (envOf qual scope L f cdv)) Q E (st s h tk) := ld (s := st s h tk) F hv k hk hl hd
theorem r_store {x : Str} {v : Value} {Q : Unit → Shared → Prop} (F : Fr h₀ L h m) (N : News h₀ L h news)
    (k : ∀ h' tk', Fr h₀ L h' (put m x v) → News h₀ L h' news → Q () (st s h' tk'))
    (hk : scope.kind = .function := by rfl) (hl : (envOf qual scope L f cdv).kindOf x = some .local := by rfl) :
    wpAny (Mo w) A (storeName (envOf qual scope L f cdv) x v) Q E (st s h tk) := stN (s := st s h tk) F N (fun h' F' N' => k h' _ F' N') hk hl
/-- x = value, and on -/
theorem r_assign {x : Str} {pos' : Pos} {value : PySem.Expr} {pos : Pos} {rest : List Stmt} {Q : Flow → Shared → Prop}
    (k : wpAny (Mo w) A (eval value (envOf qual scope L f cdv)) (fun v s₁ => wpAny (Mo w) A (storeName (envOf qual scope L f cdv) x v) (fun _ s₂ => wpAny (Mo w) A (execs rest (envOf qual scope L f cdv)) Q E s₂) E s₁) E (st s h tk))
    (hs : swapsWith value (some (.Name x pos')) pos.line (envOf qual scope L f cdv) = pure false := by rfl) :
    wpAny (Mo w) A (execs (.Assign [.Name x pos'] value pos :: rest) (envOf qual scope L f cdv)) Q E (st s h tk) := wpAny_execs_cons (wpAny_Assign_Name k hs)
/-- the same, what comes behind hidden -/
theorem r_assignK {x : Str} {pos' : Pos} {value : PySem.Expr} {pos : Pos} {rest : List Stmt} {Q : Flow → Shared → Prop}
    (k : ∀ K : Value → Shared → Prop, (∀ v s₁, wpAny (Mo w) A (storeName (envOf qual scope L f cdv) x v) (fun _ s₂ => wpAny (Mo w) A (execs rest (envOf qual scope L f cdv)) Q E s₂) E s₁ → K v s₁) → wpAny (Mo w) A (eval value (envOf qual scope L f cdv)) K E (st s h tk))
    (hs : swapsWith value (some (.Name x pos')) pos.line (envOf qual scope L f cdv) = pure false := by rfl) :
    wpAny (Mo w) A (execs (.Assign [.Name x pos'] value pos :: rest) (envOf qual scope L f cdv)) Q E (st s h tk) := r_assign (k _ fun _ _ h => h) hs
theorem r_storeK {x : Str} {v : Value} {rest : List Stmt} {Q : Flow → Shared → Prop} {K : Value → Shared → Prop}
    (hK : ∀ v s₁, wpAny (Mo w) A (storeName (envOf qual scope L f cdv) x v) (fun _ s₂ => wpAny (Mo w) A (execs rest (envOf qual scope L f cdv)) Q E s₂) E s₁ → K v s₁) (F : Fr h₀ L h m) (N : News h₀ L h news)
    (k : ∀ h' tk', Fr h₀ L h' (put m x v) → News h₀ L h' news → wpAny (Mo w) A (execs rest (envOf qual scope L f cdv)) Q E (st s h' tk'))
    (hk : scope.kind = .function := by rfl) (hl : (envOf qual scope L f cdv).kindOf x = some .local := by rfl) : K v (st s h tk) := hK _ _ (r_store F N k hk hl)
/-- o[i] = value, and on -/
theorem r_assignAt {o i : PySem.Expr} {pos' : Pos} {value : PySem.Expr} {pos : Pos} {rest : List Stmt} {Q : Flow → Shared → Prop}
    (k : wpAny (Mo w) A (eval value (envOf qual scope L f cdv)) (fun v s₁ => wpAny (Mo w) A (eval o (envOf qual scope L f cdv)) (fun ov s₂ => wpAny (Mo w) A (eval i (envOf qual scope L f cdv)) (fun iv s₃ =>
      wpAny (Mo w) A (setItem ov iv v) (fun _ s₄ => wpAny (Mo w) A (execs rest (envOf qual scope L f cdv)) Q E s₄) E s₃) E s₂) E s₁) E (st s h tk))
    (hs : swapsWith value (some (.Subscript o i pos')) pos.line (envOf qual scope L f cdv) = pure false := by rfl) :
    wpAny (Mo w) A (execs (.Assign [.Subscript o i pos'] value pos :: rest) (envOf qual scope L f cdv)) Q E (st s h tk) := wpAny_execs_cons (wpAny_Assign_Subscript k hs)
end

theorem r_int {env : Env} {i : Int} {kk : Nat} {pos : Pos} {Q : Value → Shared → Prop} (k : ∀ t tk', Q (.int i t) (st s h tk')) : wpAny (Mo w) A (eval (.Constant (.int i) kk pos) env) Q E (st s h tk) := wpAny_Constant_int (k _ _)
theorem r_sub {a b : Int} {t u : Tok} {Q : Value → Shared → Prop} (k : ∀ t' tk', Q (.int (a - b) t') (st s h tk')) : wpAny (Mo w) A (binaryOp .Sub (.int a t) (.int b u)) Q E (st s h tk) := PyProof.Rows.sub_int (k _ _)
theorem r_add {a b : Int} {t u : Tok} {Q : Value → Shared → Prop} (k : ∀ t' tk', Q (.int (a + b) t') (st s h tk')) : wpAny (Mo w) A (binaryOp .Add (.int a t) (.int b u)) Q E (st s h tk) := PyProof.Rows.add_int (k _ _)
theorem r_shr {a n : Int} {t u : Tok} {Q : Value → Shared → Prop} (hn : 0 ≤ n) (k : ∀ t' tk', Q (.int (a.fdiv (2 ^ n.toNat)) t') (st s h tk')) : wpAny (Mo w) A (binaryOp .RShift (.int a t) (.int n u)) Q E (st s h tk) := PyProof.Rows.rshift_int hn (k _ _)

theorem r_while {qual : Str} {scope : Scope} {f : Addr} {cdv : Value} {test : PySem.Expr} {body : List Stmt} {pos : Pos} {rest : List Stmt} {Q : Flow → Shared → Prop} (J : Nat → (Str → Option Value) → List (Addr × Obj) → Prop) {n₀ : Nat}
    (F : Fr h₀ L h m) (N : News h₀ L h news) (hJ : J n₀ m news)
    (turn : ∀ n m₁ news₁ h₁ tk₁, Fr h₀ L h₁ m₁ → News h₀ L h₁ news₁ → J n m₁ news₁ →
      wpAny (Mo w) A (isTrue test (envOf qual scope L f cdv) (eval test (envOf qual scope L f cdv))) (fun b s₂ =>
        if b = true then wpAny (Mo w) A (execs body (envOf qual scope L f cdv)) (WhileStep2 h₀ L s J (fun fl s' => match fl with | .next => wpAny (Mo w) A (execs rest (envOf qual scope L f cdv)) Q (fun _ _ => False) s' | fl => Q fl s') n) (fun _ _ => False) s₂
        else wpAny (Mo w) A (execs rest (envOf qual scope L f cdv)) Q (fun _ _ => False) s₂) (fun _ _ => False) (st s h₁ tk₁)) :
    wpAny (Mo w) A (execs (.While test body [] pos :: rest) (envOf qual scope L f cdv)) Q (fun _ _ => False) (st s h tk) :=
  wpAny_execs_cons (While_inv2 (s := st s h tk) J F N hJ (fun n m₁ news₁ h₁ tk₁ F₁ N₁ j => turn n m₁ news₁ h₁ tk₁ F₁ N₁ j) PassesOwn.never)
/-- a turn goes on -/
theorem r_again {J : Nat → (Str → Option Value) → List (Addr × Obj) → Prop} {Q : Flow → Shared → Prop} {n n' : Nat} {fl : Flow} (hfl : fl = .next ∨ fl = .cont) (F : Fr h₀ L h m) (N : News h₀ L h news) (hn : n' < n) (hJ : J n' m news) :
    WhileStep2 h₀ L s J Q n fl (st s h tk) := by
  rcases hfl with rfl | rfl <;> exact ⟨h, tk, m, news, n', rfl, F, N, hn, hJ⟩

/-- xs[k] of a list of the ledger -/
theorem item {l : Addr} {rest : List (Addr × Obj)} {value slice : PySem.Expr} {vs : List Value} {n : Nat} {k : Nat} {u : Tok} {x : Value} {Q : Value → Shared → Prop}
    (N : News h₀ L h ((l, listOf vs.toArray n) :: rest)) (hx : vs[k]? = some x) (hfit : k < 1000) (kk : Q x (st s h tk))
    (hs : subscripted slice false (.ref l) (.int k u) = operate [.ref l, .int k u] (getItem (.ref l) (.int k u)) := by with_unfolding_all rfl) (hg : ∀ r, letTemporaryGo value (.ref l) r = pure () := by intro _; with_unfolding_all rfl) :
    wpAny (Mo w) A (subscriptTail value slice (.ref l) (.int k u)) Q E (st s h tk) :=
  kim_list (s := st s h tk) N (.head _) rfl rfl (Int.natCast_nonneg k) (by omega) (by simpa using hx) kk hs hg

/-- xs[k] = v of a list of the ledger -/
theorem setItemAt {l : Addr} {rest : List (Addr × Obj)} {vs : List Value} {n : Nat} {k : Nat} {u : Tok} {x : Value} {Q : Unit → Shared → Prop}
    (F : Fr h₀ L h m) (N : News h₀ L h ((l, listOf vs.toArray n) :: rest)) (ap : ∀ p ∈ rest, p.1 ≠ l) (hk : k < vs.length) (hfit : k < 1000) (kk : ∀ h', Fr h₀ L h' m → News h₀ L h' ((l, listOf (vs.set k x).toArray n) :: rest) → Q () (st s h' tk)) :
    wpAny (Mo w) A (setItem (.ref l) (.int k u) x) Q E (st s h tk) := by
  have z := N (l, listOf vs.toArray n) (.head _)
  refine ki_setAt (s := st s h tk) z.1 (Int.natCast_nonneg k) (by omega) (by simpa using hk) (kk _ (F.change (Heap.SameBut.update ..) z.2.1 z.2.2) ?_)
  refine ki_turn (pre := []) (post := rest) _ N (fun _ h => nomatch h) ap ?_ ?_
  · show vs.toArray.setIfInBounds (k : Int).toNat x = (vs.set k x).toArray
    apply Array.toList_inj.mp
    simp
  · simp
end

/-- the heap's items: what they are, and that < upon them is a plain Bool -/
structure Cmp {D : Type} (w : World) (rest : List (Addr × Obj)) (R : Value → D → Prop) (lt : D → D → Bool) : Prop where
  ok : ∀ {A : Around} {h₀ : Heap} {L : Addr} {s : Shared} {h : Heap} {tk : Nat} {a b : Value} {x y : D} {Q : Value → Shared → Prop} {E : Value → Shared → Prop}, News h₀ L h rest → A.units + 10 < cLine → R a x → R b y →
    (∀ tk', Q (.bool (lt x y)) (st s h tk')) → wpAny (Mo w) A (compareOp .Lt a b) Q E (st s h tk)

theorem ifBool {p q : Prop} {b : Bool} (h1 : b = true → p) (h2 : b = false → q) : if b = true then p else q := by
  cases b with
  | true => simpa using h1 rfl
  | false => simpa using h2 rfl
theorem half_le (p : Nat) : (p - 1) / 2 ≤ p := by omega
theorem half_lt {p : Nat} (h : 0 < p) : (p - 1) / 2 < p := by omega
theorem half_pos {pos : Nat} (h : 0 < pos) : ((pos : Int) - 1).fdiv (2 ^ (1 : Int).toNat) = (((pos - 1) / 2 : Nat) : Int) := by
  have e1 : ((pos : Int) - 1) = ((pos - 1 : Nat) : Int) := by omega
  rw [e1, show ((2 : Int) ^ (1 : Int).toNat) = 2 from rfl, Int.fdiv_eq_ediv_of_nonneg _ (by decide)]
  rfl
end

local macro_rules | `(tactic| walk_at "mm") => `(tactic| first | assumption | exact put_eq | (refine put_ne (by decide) ?_; walk_at "mm"))
local macro_rules | `(tactic| walk_at "mem") => `(tactic| first | exact List.Mem.head _ | (refine List.Mem.tail _ ?_; walk_at "mem") | (refine List.mem_append_right _ ?_; walk_at "mem") | (refine List.mem_append_left _ ?_; walk_at "mem") | assumption)
local macro_rules | `(tactic| walk_at "subV") => `(tactic| first | exact sub_refl | (refine sub_tl ?_; walk_at "subV") | (refine sub_r ?_; walk_at "subV") | (refine sub_l ?_; walk_at "subV"))
local macro_rules | `(tactic| walk_at "sub") => `(tactic| first | exact sub_nil | walk_at "subV" | (refine sub_app ?_ ?_ <;> walk_at "sub") | (refine sub_cons (by walk_at "mem") ?_; walk_at "sub"))
local macro_rules | `(tactic| walk_at "ltc") => `(tactic| first | assumption | (refine Nat.lt_trans (by assumption) ?_; walk_at "ltc"))
local macro_rules | `(tactic| walk_at "ne") => `(tactic| first | exact Nat.ne_of_lt (by walk_at "ltc") | exact Nat.ne_of_gt (by walk_at "ltc") | exact Nat.ne_of_lt (by omega) | exact Nat.ne_of_gt (by omega))
local macro_rules | `(tactic| walk_at "apart") => `(tactic| first | (refine ap_and ?_ ?_ <;> walk_at "apart") | exact ap_nil | exact ap_lt (by assumption) (Nat.le_refl _) | exact ap_lt (by assumption) (Nat.le_of_lt (by walk_at "ltc")) | exact ap_lt (by assumption) (by omega) | exact ap_gt (by assumption) (Nat.le_of_lt (by walk_at "ltc")) | exact ap_gt (by assumption) (by omega) | (refine ap_app ?_ ?_ <;> walk_at "apart") | (refine ap_cons (by walk_at "ne") ?_; walk_at "apart"))

section
open PySem PySem.W PyProof.Rows PySem.Calls
set_option maxRecDepth 100000
set_option maxHeartbeats 8000000

theorem siftdown_call {D : Type} [Inhabited D] {w : World} {A : Around} {E : Value → Shared → Prop} {s : Shared} {h : Heap} {tk : Nat} {L l : Addr} {h₀ : Heap} {m : Str → Option Value} {rest : List (Addr × Obj)} {Q : Value → Shared → Prop}
    {vs : List Value} {ds : List D} {n : Nat} {R : Value → D → Prop} {lt : D → D → Bool} {i j : Nat} {ti tj : Tok}
    (C : At w A h₀ L) (F : Fr h₀ L h m) (N : News h₀ L h ((l, listOf vs.toArray n) :: rest)) (ap : ∀ p ∈ rest, p.1 ≠ l)
    (hdp : A.depth < recursionLimit) (hu : A.units + 20 < cLine) (cmp : Cmp w rest R lt) (hv : Rel2 R vs ds) (hj : j < ds.length) (hsz : ds.length < 1000)
    (k : ∀ vs' h' tk', Fr h₀ L h' m → News h₀ L h' ((l, listOf vs'.toArray n) :: rest) → Rel2 R vs' (sd lt ds i j) → Q .none (st s h' tk')) :
    wpAny (Mo w) A (call (.ref 63) [.ref l, .int i ti, .int j tj]) Q E (st s h tk) := by
  refine' enter [("heap", .ref l), ("startpos", .int i ti), ("pos", .int j tj)] C F N ?k6 ?k7 hdp ?k9 ?kB ?c2 ?c3 ?c4 ?c5 ?_
  case k6 => exact rfl
  case k7 => exact rfl
  case k9 => exact rfl
  case c5 => decide
  case kB => exact rfl
  case c2 => exact rfl
  case c3 => exact rfl
  case c4 => exact rfl
  intro g L' h₁ tk₁ F' N' C' Qx hQx
  obtain ⟨x, hx, hRx⟩ := hv.get hj
  refine r_assignK fun K hK => (Subscript_ (r_name F' rfl (r_name F' rfl (item N' hx (Nat.lt_trans hj hsz) (r_storeK hK F' N' fun h₂ tk₂ F₂ N₂ => ?_)))))
  have m1 : put (fun y => List.lookup y (([("heap", .ref l), ("startpos", .int i ti), ("pos", .int j tj)] : List (Str × Value)).reverse)) "newitem" x "heap" = some (.ref l) := rfl
  have m2 : put (fun y => List.lookup y (([("heap", .ref l), ("startpos", .int i ti), ("pos", .int j tj)] : List (Str × Value)).reverse)) "newitem" x "startpos" = some (.int i ti) := rfl
  have m3 : put (fun y => List.lookup y (([("heap", .ref l), ("startpos", .int i ti), ("pos", .int j tj)] : List (Str × Value)).reverse)) "newitem" x "pos" = some (.int j tj) := rfl
  -- the loop
  obtain ⟨J, hJ⟩ := hide (fun (k : Nat) (m₁ : Str → Option Value) (nw : List (Addr × Obj)) => ∃ (tp : Tok) (vs₁ : List Value) (ds₁ : List D), nw = (l, listOf vs₁.toArray n) :: rest ∧ Rel2 R vs₁ ds₁ ∧ k < ds₁.length ∧ ds₁.length = ds.length ∧
      m₁ "heap" = some (.ref l) ∧ m₁ "startpos" = some (.int i ti) ∧ m₁ "pos" = some (.int k tp) ∧ m₁ "newitem" = some x ∧
      sdGo lt (ds.getD j default) i k ds₁ k = sd lt ds i j)
  refine r_while J F₂ N₂ (by rw [hJ]; exact ⟨tj, vs, ds, rfl, hv, hj, rfl, m1, m2, m3, put_eq, rfl⟩) ?_
  clear F₂ N₂ F' N' m1 m2 m3 h₂ tk₂ tk₁ h₁
  rintro pos m₁ nw h₃ tk₃ F₃ N₃ j
  rw [hJ] at j
  obtain ⟨tp, vs₁, ds₁, rfl, hv₁, hp₁, hl₁, mh, ms, mp, mn, hgo⟩ := j
  have hsz₁ : ds₁.length < 1000 := by rw [hl₁]; exact hsz
  refine wpAny_isTrue_Compare1 (r_name F₃ mp (r_name F₃ ms (PyProof.Rows.gt_int (wpAny_truthy_bool ?_))))
  rw [sdGo_step] at hgo
  refine ifBool (fun hb => ?_) (fun hb => ?_)
  · have hb' : i < pos := by simpa using hb
    rw [if_pos hb'] at hgo
    refine r_assignK fun K hK => (wpAny_BinOp (wpAny_BinOp (r_name F₃ mp (r_int fun t4 _ => r_sub fun t5 _ => r_int fun t6 _ => r_shr (by decide) fun t7 _ => r_storeK hK F₃ N₃ fun h₄ tk₄ F₄ N₄ => ?_))))
    rw [half_pos (Nat.lt_of_le_of_lt (Nat.zero_le _) hb')] at F₄
    obtain ⟨pv, hpv, hRp⟩ := hv₁.get (k := (pos - 1) / 2) (Nat.lt_of_le_of_lt (half_le pos) hp₁)
    refine r_assignK fun K hK => (Subscript_ (r_name F₄ (by walk_at "mm") (r_name F₄ put_eq (item N₄ hpv (Nat.lt_of_le_of_lt (half_le pos) (Nat.lt_trans hp₁ hsz₁)) (r_storeK hK F₄ N₄ fun h₅ tk₅ F₅ N₅ => ?_)))))
    refine wpAny_execs_cons (wpAny_If (wpAny_isTrue_Compare1 (r_name F₅ (by walk_at "mm") (r_name F₅ put_eq (cmp.ok (fun p hp => N₅ p (.tail _ hp)) (show A.units + 13 < _ from lessBy hu (by decide)) hRx hRp fun tk₆ => wpAny_truthy_bool ?_)))))
    refine ifBool (fun hc => ?_) (fun hc => ?_)
    · rw [if_pos hc] at hgo
      refine r_assignAt (r_name F₅ put_eq (r_name F₅ (by walk_at "mm") (r_name F₅ (by walk_at "mm") (setItemAt F₅ N₅ ap (by rw [hv₁.1]; exact hp₁) (Nat.lt_trans hp₁ hsz₁) fun h₇ F₇ N₇ => ?_))))
      refine r_assignK fun K hK => (r_name F₇ (put_ne (by decide) put_eq) (r_storeK hK F₇ N₇ fun h₈ tk₈ F₈ N₈ => ?_))
      refine wpAny_execs_cons (wpAny_Continue ?_)
      refine r_again (.inr rfl) F₈ N₈ (n' := (pos - 1) / 2) (half_lt (Nat.lt_of_le_of_lt (Nat.zero_le _) hb')) ?_
      rw [hJ]
      refine ⟨t7, _, ds₁.set pos (ds₁.getD ((pos - 1) / 2) default), rfl, hv₁.set hRp pos, by rw [List.length_set]; exact Nat.lt_of_le_of_lt (half_le pos) hp₁, by rw [List.length_set]; exact hl₁, by walk_at "mm", by walk_at "mm", put_eq, by walk_at "mm", hgo⟩
    · rw [if_neg (by rw [hc]; exact Bool.false_ne_true)] at hgo
      refine wpAny_execs_nil (wpAny_execs_cons (wpAny_Break ?_))
      show wpAny _ _ _ _ _ _
      refine r_assignAt (r_name F₅ (by walk_at "mm") (r_name F₅ (by walk_at "mm") (r_name F₅ (by walk_at "mm") (setItemAt F₅ N₅ ap (by rw [hv₁.1]; exact hp₁) (Nat.lt_trans hp₁ hsz₁) fun h₇ F₇ N₇ => ?_))))
      refine wpAny_execs_nil (leaveB hQx F₇ N₇ fun F N => k _ _ _ F N ?_)
      rw [← hgo]; exact hv₁.set hRx pos
  · have hb' : ¬ i < pos := by simpa using hb
    rw [if_neg hb'] at hgo
    refine r_assignAt (r_name F₃ mn (r_name F₃ mh (r_name F₃ mp (setItemAt F₃ N₃ ap (by rw [hv₁.1]; exact hp₁) (Nat.lt_trans hp₁ hsz₁) fun h₇ F₇ N₇ => ?_))))
    refine wpAny_execs_nil (leaveB hQx F₇ N₇ fun F N => k _ _ _ F N ?_)
    rw [← hgo]; exact hv₁.set hRx pos
end

section
open PySem PySem.W PyProof.Rows PySem.Calls
set_option maxRecDepth 100000
set_option maxHeartbeats 8000000
section
variable {w : World} {A : Around} {E : Value → Shared → Prop} {s : Shared} {h : Heap} {tk : Nat} {L : Addr} {h₀ : Heap} {m : Str → Option Value} {news : List (Addr × Obj)}
theorem At.kin (C : At w A h₀ L) (F : Fr h₀ L h m) : (hd.heap_39 w.params).In h := by
  obtain ⟨_, _, _, _, _, _, _, _, _, _, X, _⟩ := C.ex
  exact X.keeps F.keep
section
variable {qual : Str} {scope : Scope} {f : Addr} {cdv : Value}
/-- a global of the text -/
theorem r_gname {x : Str} {pos : Pos} {v : Value} {Q : Value → Shared → Prop} (C : At w A h₀ L) (F : Fr h₀ L h m) (e : nsIn (hd.heap_39 w.params) mainGlobals x = some (some v)) (k : Q v (st s h tk))
    (hk : scope.kind = .function := by rfl) (hx : (envOf qual scope L f cdv).kindOf x = some .globalImplicit := by rfl) (hd : (x == ("__debug__" : Str)) = false := by decide) :
    wpAny (Mo w) A (eval (.Name x pos) (envOf qual scope L f cdv)) Q E (st s h tk) := by
  obtain ⟨_, _, _, _, _, _, _, _, _, _, X, T, _⟩ := C.ex
  exact name_K (s := st s h tk) F X (topRead_of T) e k hk hx hd
/-- a built-in name -/
theorem r_bname {x : Str} {pos : Pos} {v : Value} {Q : Value → Shared → Prop} (C : At w A h₀ L) (F : Fr h₀ L h m) (e : nsIn (hd.heap_39 w.params) mainGlobals x = some none) (hv : bootBuiltins x = some v) (k : Q v (st s h tk))
    (hn : x ≠ "__name__" := by decide) (hk : scope.kind = .function := by rfl) (hx : (envOf qual scope L f cdv).kindOf x = some .globalImplicit := by rfl) (hd : (x == ("__debug__" : Str)) = false := by decide) :
    wpAny (Mo w) A (eval (.Name x pos) (envOf qual scope L f cdv)) Q E (st s h tk) := by
  obtain ⟨_, _, _, _, _, _, _, _, _, _, X, T, _⟩ := C.ex
  exact name_B (s := st s h tk) F X (topRead_of T) e hv hn k hk hx hd
end
/-- a call of a def of the text, its arguments first -/
theorem r_callK {env : Env} {fe e : PySem.Expr} {rest : List PySem.Expr} {pos : Pos} {f : Addr} {Q : Value → Shared → Prop} (C : At w A h₀ L) (hkp : keepIn (hd.heap_39 w.params) (.ref f) = true)
    (k : wpAny (Mo w) A (eval fe env) (fun v s₁ => v = .ref f ∧ wpAny (Mo w) A (spliced (backTo pos (starEach (e :: rest) env))) (fun vs s₂ => (hd.heap_39 w.params).In s₂.heap ∧ wpAny (Mo w) A (call (.ref f) vs) Q E s₂) E s₁) E (st s h tk))
    (he : starEach (e :: rest) env = (false, eval e env) :: starEach rest env := by rfl) (hplain : (backTo pos (starEach rest env)).any (·.1) = false := by rfl)
    (hc : eval (.Call fe (e :: rest) [] pos) env = (do callWith pos (← eval fe env) [] (backTo pos (starEach (e :: rest) env)) (backToKw pos (keywordEach [] env))) := by rfl) :
    wpAny (Mo w) A (eval (.Call fe (e :: rest) [] pos) env) Q E (st s h tk) := by
  obtain ⟨_, _, _, _, _, _, _, _, _, _, X, T, _⟩ := C.ex
  refine Call_ (wpAny_mono k (fun v s₁ hv => ?_) fun _ _ x => x) hc
  obtain ⟨rfl, hv⟩ := hv
  exact callWith_K X hkp hv he hplain
theorem r_callB {env : Env} {fe e : PySem.Expr} {rest : List PySem.Expr} {pos : Pos} {id : String} {Q : Value → Shared → Prop}
    (k : wpAny (Mo w) A (eval fe env) (fun v s₁ => v = .builtin id ∧ wpAny (Mo w) A (spliced (backTo pos (starEach (e :: rest) env))) (fun vs s₂ => wpAny (Mo w) A (call (.builtin id) vs) Q E s₂) E s₁) E (st s h tk))
    (he : starEach (e :: rest) env = (false, eval e env) :: starEach rest env := by rfl) (hplain : (backTo pos (starEach rest env)).any (·.1) = false := by rfl)
    (hc : eval (.Call fe (e :: rest) [] pos) env = (do callWith pos (← eval fe env) [] (backTo pos (starEach (e :: rest) env)) (backToKw pos (keywordEach [] env))) := by rfl) :
    wpAny (Mo w) A (eval (.Call fe (e :: rest) [] pos) env) Q E (st s h tk) := by
  refine Call_ (wpAny_mono k (fun v s₁ hv => ?_) fun _ _ x => x) hc
  obtain ⟨rfl, hv⟩ := hv
  exact callWith_builtin1 hv he hplain
theorem r_len {l : Addr} {vs : List Value} {n : Nat} {rest : List (Addr × Obj)} {Q : Value → Shared → Prop} (N : News h₀ L h ((l, listOf vs.toArray n) :: rest)) (hsz : vs.length < 1000) (k : ∀ t tk', Q (.int vs.length t) (st s h tk')) :
    wpAny (Mo w) A (call (.builtin "len") [.ref l]) Q E (st s h tk) := by
  refine PyProof.Rows.len_list (s := st s h tk) (items := vs.toArray) (PySem.IsL.isList (n := n) (N _ (.head _)).1) ?_ ?_
  · rw [List.size_toArray]; omega
  · rw [List.size_toArray]; exact k _ _
theorem r_mul {a b : Int} {t u : Tok} {Q : Value → Shared → Prop} (hm : IntMulOk a b) (k : ∀ t' tk', Q (.int (a * b) t') (st s h tk')) : wpAny (Mo w) A (binaryOp .Mult (.int a t) (.int b u)) Q E (st s h tk) := PyProof.Rows.mul_int (k _ _) hm
end

theorem ns_len (w : World) : nsIn (hd.heap_39 w.params) mainGlobals "len" = some none := rfl
theorem ns_siftdown (w : World) : nsIn (hd.heap_39 w.params) mainGlobals "_siftdown" = some (some (.ref 63)) := rfl
theorem ns_siftup (w : World) : nsIn (hd.heap_39 w.params) mainGlobals "_siftup" = some (some (.ref 70)) := rfl
theorem ns_siftdown_max (w : World) : nsIn (hd.heap_39 w.params) mainGlobals "_siftdown_max" = some (some (.ref 77)) := rfl
theorem ns_siftup_max (w : World) : nsIn (hd.heap_39 w.params) mainGlobals "_siftup_max" = some (some (.ref 84)) := rfl
theorem kp (w : World) : keepIn (hd.heap_39 w.params) (.ref 63) = true := rfl
theorem kp70 (w : World) : keepIn (hd.heap_39 w.params) (.ref 70) = true := rfl
end

section
open PySem PySem.W PyProof.Rows PySem.Calls
set_option maxRecDepth 100000
set_option maxHeartbeats 8000000

section
variable {D : Type} [Inhabited D] (lt : D → D → Bool)
noncomputable def pick (ds : List D) (c : Nat) : Nat := if c + 1 < ds.length then (if lt (ds.getD c default) (ds.getD (c + 1) default) then c else c + 1) else c
noncomputable def suGo : Nat → List D → Nat → List D × Nat
  | 0, ds, pos => (ds, pos)
  | f + 1, ds, pos => if 2 * pos + 1 < ds.length then suGo f (ds.set pos (ds.getD (pick lt ds (2 * pos + 1)) default)) (pick lt ds (2 * pos + 1)) else (ds, pos)
noncomputable def su (ds : List D) (pos : Nat) : List D := sd lt ((suGo lt (ds.length - pos) ds pos).1.set (suGo lt (ds.length - pos) ds pos).2 (ds.getD pos default)) pos (suGo lt (ds.length - pos) ds pos).2
theorem pick_ge (ds : List D) (c : Nat) : c ≤ pick lt ds c := by unfold pick; (repeat' split) <;> omega
theorem pick_lt (ds : List D) (c : Nat) (h : c < ds.length) : pick lt ds c < ds.length := by unfold pick; (repeat' split) <;> omega
theorem suGo_fuel : ∀ (f g : Nat) (ds : List D) (pos : Nat), ds.length - pos ≤ f → ds.length - pos ≤ g → suGo lt f ds pos = suGo lt g ds pos := by
  intro f
  induction f with
  | zero =>
    intro g ds pos h1 h2
    cases g with
    | zero => rfl
    | succ g =>
      show (ds, pos) = if 2 * pos + 1 < ds.length then _ else _
      rw [if_neg (by omega)]
  | succ f ih =>
    intro g ds pos h1 h2
    have hp := pick_ge lt ds (2 * pos + 1)
    cases g with
    | zero =>
      show (if 2 * pos + 1 < ds.length then _ else _) = (ds, pos)
      rw [if_neg (by omega)]
    | succ g =>
      show (if 2 * pos + 1 < ds.length then suGo lt f _ _ else (ds, pos)) = if 2 * pos + 1 < ds.length then suGo lt g _ _ else (ds, pos)
      by_cases hc : 2 * pos + 1 < ds.length
      · rw [if_pos hc, if_pos hc]
        exact ih g _ _ (by rw [List.length_set]; omega) (by rw [List.length_set]; omega)
      · rw [if_neg hc, if_neg hc]
theorem suGo_step (ds : List D) (pos : Nat) : suGo lt (ds.length - pos) ds pos =
    if 2 * pos + 1 < ds.length then suGo lt (ds.length - pick lt ds (2 * pos + 1)) (ds.set pos (ds.getD (pick lt ds (2 * pos + 1)) default)) (pick lt ds (2 * pos + 1)) else (ds, pos) := by
  rw [suGo_fuel lt (ds.length - pos) (ds.length - pos + 1) ds pos (by omega) (by omega)]
  show (if 2 * pos + 1 < ds.length then suGo lt (ds.length - pos) _ _ else (ds, pos)) = _
  have hp := pick_ge lt ds (2 * pos + 1)
  by_cases hc : 2 * pos + 1 < ds.length
  · rw [if_pos hc, if_pos hc]
    exact suGo_fuel lt _ _ _ _ (by rw [List.length_set]; omega) (by rw [List.length_set]; omega)
  · rw [if_neg hc, if_neg hc]
theorem suGo_spec : ∀ (f : Nat) (ds : List D) (pos : Nat), pos < ds.length → (suGo lt f ds pos).1.length = ds.length ∧ (suGo lt f ds pos).2 < ds.length := by
  intro f
  induction f with
  | zero => intro ds pos h; exact ⟨rfl, h⟩
  | succ f ih =>
    intro ds pos h
    unfold suGo
    by_cases hc : 2 * pos + 1 < ds.length
    · rw [if_pos hc]
      have := ih (ds.set pos (ds.getD (pick lt ds (2 * pos + 1)) default)) (pick lt ds (2 * pos + 1)) (by rw [List.length_set]; exact pick_lt lt ds _ hc)
      rw [List.length_set] at this
      exact this
    · rw [if_neg hc]; exact ⟨rfl, h⟩
theorem su_length (ds : List D) (pos : Nat) (h : pos < ds.length) : (su lt ds pos).length = ds.length := by
  unfold su
  rw [sd_length, List.length_set]
  exact (suGo_spec lt _ ds pos h).1
end
theorem mulOk2 (b : Int) : IntMulOk 2 b := by
  unfold IntMulOk
  rw [show decide (Builtin.Int.intBits 2 > shortFactorBits) = false from by decide +kernel]
  simp
end

section
open PySem PySem.W PyProof.Rows PySem.Calls
set_option maxRecDepth 100000
set_option maxHeartbeats 8000000
theorem kp77 (w : World) : keepIn (hd.heap_39 w.params) (.ref 77) = true := rfl
theorem r_if {w : World} {A : Around} {E : Value → Shared → Prop} {s : Shared} {env : Env} {test : PySem.Expr} {body rest : List Stmt} {pos : Pos} {Q : Flow → Shared → Prop} (Mid : Shared → Prop)
    (h1 : wpAny (Mo w) A (isTrue test env (eval test env)) (fun b s₂ => if b = true then wpAny (Mo w) A (execs body env) (fun fl s' => fl = .next ∧ Mid s') E s₂ else Mid s₂) E s)
    (h2 : ∀ s', Mid s' → wpAny (Mo w) A (execs rest env) Q E s') : wpAny (Mo w) A (execs (.If test body [] pos :: rest) env) Q E s := by
  refine wpAny_execs_cons (wpAny_If (wpAny_mono h1 (fun b s₂ hb => ?_) fun _ _ x => x))
  cases b with
  | true =>
    simp only [if_true] at hb ⊢
    refine wpAny_mono hb (fun fl s' hf => ?_) fun _ _ x => x
    obtain ⟨rfl, hm⟩ := hf
    exact h2 s' hm
  | false =>
    simp only [Bool.false_eq_true, if_false] at hb ⊢
    exact wpAny_execs_nil (h2 _ hb)
theorem siftdown_max_call {D : Type} [Inhabited D] {w : World} {A : Around} {E : Value → Shared → Prop} {s : Shared} {h : Heap} {tk : Nat} {L l : Addr} {h₀ : Heap} {m : Str → Option Value} {rest : List (Addr × Obj)} {Q : Value → Shared → Prop}
    {vs : List Value} {ds : List D} {n : Nat} {R : Value → D → Prop} {lt : D → D → Bool} {i j : Nat} {ti tj : Tok}
    (C : At w A h₀ L) (F : Fr h₀ L h m) (N : News h₀ L h ((l, listOf vs.toArray n) :: rest)) (ap : ∀ p ∈ rest, p.1 ≠ l)
    (hdp : A.depth < recursionLimit) (hu : A.units + 20 < cLine) (cmp : Cmp w rest R lt) (hv : Rel2 R vs ds) (hj : j < ds.length) (hsz : ds.length < 1000)
    (k : ∀ vs' h' tk', Fr h₀ L h' m → News h₀ L h' ((l, listOf vs'.toArray n) :: rest) → Rel2 R vs' (sd (fun a b => lt b a) ds i j) → Q .none (st s h' tk')) :
    wpAny (Mo w) A (call (.ref 77) [.ref l, .int i ti, .int j tj]) Q E (st s h tk) := by
  refine' enter [("heap", .ref l), ("startpos", .int i ti), ("pos", .int j tj)] C F N ?k6 ?k7 hdp ?k9 ?kB ?c2 ?c3 ?c4 ?c5 ?_
  case k6 => exact rfl
  case k7 => exact rfl
  case k9 => exact rfl
  case c5 => decide
  case kB => exact rfl
  case c2 => exact rfl
  case c3 => exact rfl
  case c4 => exact rfl
  intro g L' h₁ tk₁ F' N' C' Qx hQx
  obtain ⟨x, hx, hRx⟩ := hv.get hj
  refine r_assignK fun K hK => (Subscript_ (r_name F' rfl (r_name F' rfl (item N' hx (Nat.lt_trans hj hsz) (r_storeK hK F' N' fun h₂ tk₂ F₂ N₂ => ?_)))))
  have m1 : put (fun y => List.lookup y (([("heap", .ref l), ("startpos", .int i ti), ("pos", .int j tj)] : List (Str × Value)).reverse)) "newitem" x "heap" = some (.ref l) := rfl
  have m2 : put (fun y => List.lookup y (([("heap", .ref l), ("startpos", .int i ti), ("pos", .int j tj)] : List (Str × Value)).reverse)) "newitem" x "startpos" = some (.int i ti) := rfl
  have m3 : put (fun y => List.lookup y (([("heap", .ref l), ("startpos", .int i ti), ("pos", .int j tj)] : List (Str × Value)).reverse)) "newitem" x "pos" = some (.int j tj) := rfl
  -- the loop
  obtain ⟨J, hJ⟩ := hide (fun (k : Nat) (m₁ : Str → Option Value) (nw : List (Addr × Obj)) => ∃ (tp : Tok) (vs₁ : List Value) (ds₁ : List D), nw = (l, listOf vs₁.toArray n) :: rest ∧ Rel2 R vs₁ ds₁ ∧ k < ds₁.length ∧ ds₁.length = ds.length ∧
      m₁ "heap" = some (.ref l) ∧ m₁ "startpos" = some (.int i ti) ∧ m₁ "pos" = some (.int k tp) ∧ m₁ "newitem" = some x ∧
      sdGo (fun a b => lt b a) (ds.getD j default) i k ds₁ k = sd (fun a b => lt b a) ds i j)
  refine r_while J F₂ N₂ (by rw [hJ]; exact ⟨tj, vs, ds, rfl, hv, hj, rfl, m1, m2, m3, put_eq, rfl⟩) ?_
  clear F₂ N₂ F' N' m1 m2 m3 h₂ tk₂ tk₁ h₁
  rintro pos m₁ nw h₃ tk₃ F₃ N₃ j
  rw [hJ] at j
  obtain ⟨tp, vs₁, ds₁, rfl, hv₁, hp₁, hl₁, mh, ms, mp, mn, hgo⟩ := j
  have hsz₁ : ds₁.length < 1000 := by rw [hl₁]; exact hsz
  refine wpAny_isTrue_Compare1 (r_name F₃ mp (r_name F₃ ms (PyProof.Rows.gt_int (wpAny_truthy_bool ?_))))
  rw [sdGo_step] at hgo
  refine ifBool (fun hb => ?_) (fun hb => ?_)
  · have hb' : i < pos := by simpa using hb
    rw [if_pos hb'] at hgo
    refine r_assignK fun K hK => (wpAny_BinOp (wpAny_BinOp (r_name F₃ mp (r_int fun t4 _ => r_sub fun t5 _ => r_int fun t6 _ => r_shr (by decide) fun t7 _ => r_storeK hK F₃ N₃ fun h₄ tk₄ F₄ N₄ => ?_))))
    rw [half_pos (Nat.lt_of_le_of_lt (Nat.zero_le _) hb')] at F₄
    obtain ⟨pv, hpv, hRp⟩ := hv₁.get (k := (pos - 1) / 2) (Nat.lt_of_le_of_lt (half_le pos) hp₁)
    refine r_assignK fun K hK => (Subscript_ (r_name F₄ (by walk_at "mm") (r_name F₄ put_eq (item N₄ hpv (Nat.lt_of_le_of_lt (half_le pos) (Nat.lt_trans hp₁ hsz₁)) (r_storeK hK F₄ N₄ fun h₅ tk₅ F₅ N₅ => ?_)))))
    refine wpAny_execs_cons (wpAny_If (wpAny_isTrue_Compare1 (r_name F₅ put_eq (r_name F₅ (by walk_at "mm") (cmp.ok (fun p hp => N₅ p (.tail _ hp)) (show A.units + 13 < _ from lessBy hu (by decide)) hRp hRx fun tk₆ => wpAny_truthy_bool ?_)))))
    refine ifBool (fun hc => ?_) (fun hc => ?_)
    · rw [if_pos hc] at hgo
      refine r_assignAt (r_name F₅ put_eq (r_name F₅ (by walk_at "mm") (r_name F₅ (by walk_at "mm") (setItemAt F₅ N₅ ap (by rw [hv₁.1]; exact hp₁) (Nat.lt_trans hp₁ hsz₁) fun h₇ F₇ N₇ => ?_))))
      refine r_assignK fun K hK => (r_name F₇ (put_ne (by decide) put_eq) (r_storeK hK F₇ N₇ fun h₈ tk₈ F₈ N₈ => ?_))
      refine wpAny_execs_cons (wpAny_Continue ?_)
      refine r_again (.inr rfl) F₈ N₈ (n' := (pos - 1) / 2) (half_lt (Nat.lt_of_le_of_lt (Nat.zero_le _) hb')) ?_
      rw [hJ]
      refine ⟨t7, _, ds₁.set pos (ds₁.getD ((pos - 1) / 2) default), rfl, hv₁.set hRp pos, by rw [List.length_set]; exact Nat.lt_of_le_of_lt (half_le pos) hp₁, by rw [List.length_set]; exact hl₁, by walk_at "mm", by walk_at "mm", put_eq, by walk_at "mm", hgo⟩
    · rw [if_neg (by rw [hc]; exact Bool.false_ne_true)] at hgo
      refine wpAny_execs_nil (wpAny_execs_cons (wpAny_Break ?_))
      show wpAny _ _ _ _ _ _
      refine r_assignAt (r_name F₅ (by walk_at "mm") (r_name F₅ (by walk_at "mm") (r_name F₅ (by walk_at "mm") (setItemAt F₅ N₅ ap (by rw [hv₁.1]; exact hp₁) (Nat.lt_trans hp₁ hsz₁) fun h₇ F₇ N₇ => ?_))))
      refine wpAny_execs_nil (leaveB hQx F₇ N₇ fun F N => k _ _ _ F N ?_)
      rw [← hgo]; exact hv₁.set hRx pos
  · have hb' : ¬ i < pos := by simpa using hb
    rw [if_neg hb'] at hgo
    refine r_assignAt (r_name F₃ mn (r_name F₃ mh (r_name F₃ mp (setItemAt F₃ N₃ ap (by rw [hv₁.1]; exact hp₁) (Nat.lt_trans hp₁ hsz₁) fun h₇ F₇ N₇ => ?_))))
    refine wpAny_execs_nil (leaveB hQx F₇ N₇ fun F N => k _ _ _ F N ?_)
    rw [← hgo]; exact hv₁.set hRx pos

set_option maxHeartbeats 8000000 in
theorem siftup_call {D : Type} [Inhabited D] {w : World} {A : Around} {E : Value → Shared → Prop} {s : Shared} {h : Heap} {tk : Nat} {L l : Addr} {h₀ : Heap} {m : Str → Option Value} {rest : List (Addr × Obj)} {Q : Value → Shared → Prop}
    {vs : List Value} {ds : List D} {n : Nat} {R : Value → D → Prop} {lt : D → D → Bool} {i : Nat} {ti : Tok}
    (C : At w A h₀ L) (F : Fr h₀ L h m) (N : News h₀ L h ((l, listOf vs.toArray n) :: rest)) (ap : ∀ p ∈ rest, p.1 ≠ l)
    (hdp : A.depth + 1 < recursionLimit) (hu : A.units + 30 < cLine) (cmp : Cmp w rest R lt) (hv : Rel2 R vs ds) (hj : i < ds.length) (hsz : ds.length < 1000)
    (k : ∀ vs' h' tk', Fr h₀ L h' m → News h₀ L h' ((l, listOf vs'.toArray n) :: rest) → Rel2 R vs' (su lt ds i) → Q .none (st s h' tk')) :
    wpAny (Mo w) A (call (.ref 70) [.ref l, .int i ti]) Q E (st s h tk) := by
  refine' enter [("heap", .ref l), ("pos", .int i ti)] C F N ?k6 ?k7 (lessBy0 hdp) ?k9 ?kB ?c2 ?c3 ?c4 ?c5 ?_
  case k6 => exact rfl
  case k7 => exact rfl
  case k9 => exact rfl
  case c5 => decide
  case kB => exact rfl
  case c2 => exact rfl
  case c3 => exact rfl
  case c4 => exact rfl
  intro g L' h₁ tk₁ F' N' C' Qx hQx
  obtain ⟨x, hx, hRx⟩ := hv.get hj
  have hlen := hv.1
  refine r_assignK fun K hK => (r_callB (r_bname C' F' (ns_len w) boot_len ⟨rfl, args_cons (r_name F' rfl (args_nil (r_len N' (by rw [hlen]; exact hsz) fun te _ => r_storeK hK F' N' fun h₂ tk₂ F₂ N₂ => ?_)))⟩))
  refine r_assignK fun K hK => (r_name F₂ (show _ = some (Value.int (i : Int) ti) from rfl) (r_storeK hK F₂ N₂ fun h₃ tk₃ F₃ N₃ => ?_))
  refine r_assignK fun K hK => (Subscript_ (r_name F₃ (show _ = some (Value.ref l) from rfl) (r_name F₃ (show _ = some (Value.int (i : Int) ti) from rfl) (item N₃ hx (Nat.lt_trans hj hsz) (r_storeK hK F₃ N₃ fun h₄ tk₄ F₄ N₄ => ?_)))))
  refine r_assignK fun K hK => (wpAny_BinOp (wpAny_BinOp (r_int fun t4 _ => r_name F₄ (show _ = some (Value.int (i : Int) ti) from rfl) (r_mul (mulOk2 _) fun t5 _ => r_int fun t6 _ => r_add fun t7 _ => r_storeK hK F₄ N₄ fun h₅ tk₅ F₅ N₅ => ?_))))
  rw [show (2 : Int) * (i : Int) + 1 = ((2 * i + 1 : Nat) : Int) from by omega] at F₅
  obtain ⟨J, hJ⟩ := hide (fun (k : Nat) (m₁ : Str → Option Value) (nw : List (Addr × Obj)) => ∃ (p : Nat) (tp tc : Tok) (vs₁ : List Value) (ds₁ : List D), k = ds.length - p ∧ nw = (l, listOf vs₁.toArray n) :: rest ∧ Rel2 R vs₁ ds₁ ∧ p < ds.length ∧ ds₁.length = ds.length ∧
      m₁ "heap" = some (.ref l) ∧ m₁ "startpos" = some (.int i ti) ∧ m₁ "pos" = some (.int p tp) ∧ m₁ "childpos" = some (.int (2 * p + 1 : Nat) tc) ∧ m₁ "endpos" = some (.int vs.length te) ∧ m₁ "newitem" = some x ∧
      suGo lt (ds₁.length - p) ds₁ p = suGo lt (ds.length - i) ds i)
  refine r_while J F₅ N₅ (by rw [hJ]; exact ⟨i, ti, t7, vs, ds, rfl, rfl, hv, hj, rfl, rfl, rfl, rfl, put_eq, rfl, rfl, rfl⟩) ?_
  clear F₂ N₂ F' N' F₃ N₃ F₄ N₄ F₅ N₅ h₂ tk₂ tk₁ h₁ h₃ tk₃ h₄ tk₄ h₅ tk₅ t4 t5 t6 t7
  rintro kk m₁ nw h₃ tk₃ F₃ N₃ j
  rw [hJ] at j
  obtain ⟨p, tp, tc, vs₁, ds₁, rfl, rfl, hv₁, hp₁, hl₁, mh, ms, mp, mc, me, mn, hgo⟩ := j
  have hlen₁ := hv₁.1
  have hsz₁ : ds₁.length < 1000 := by rw [hl₁]; exact hsz
  refine wpAny_isTrue_Compare1 (r_name F₃ mc (r_name F₃ me (PyProof.Rows.lt_int (wpAny_truthy_bool ?_))))
  rw [suGo_step] at hgo
  refine ifBool (fun hb => ?_) (fun hb => ?_)
  · have hb' : 2 * p + 1 < ds₁.length := by have := of_decide_eq_true hb; omega
    clear hb
    rw [if_pos hb'] at hgo
    refine r_assignK fun K hK => (wpAny_BinOp (r_name F₃ mc (r_int fun t4 _ => r_add fun t5 _ => r_storeK hK F₃ N₃ fun h₄ tk₄ F₄ N₄ => ?_)))
    rw [show ((2 * p + 1 : Nat) : Int) + 1 = ((2 * p + 2 : Nat) : Int) from by omega] at F₄
    obtain ⟨P, hP⟩ := hide (fun (s' : Shared) => ∃ h₅ tk₅ m₅ tc₅, s' = st s h₅ tk₅ ∧ Fr g L' h₅ m₅ ∧ News g L' h₅ ((l, listOf vs₁.toArray n) :: rest) ∧ m₅ "heap" = some (.ref l) ∧ m₅ "startpos" = some (.int i ti) ∧ m₅ "pos" = some (.int p tp) ∧
      m₅ "childpos" = some (.int (pick lt ds₁ (2 * p + 1) : Nat) tc₅) ∧ m₅ "endpos" = some (.int vs.length te) ∧ m₅ "newitem" = some x)
    refine r_if P ?_ ?_
    · obtain ⟨vc, hvc, hRc⟩ := hv₁.get (k := 2 * p + 1) hb'
      refine isTrue_and (wpAny_isTrue_Compare1 (r_name F₄ put_eq (r_name F₄ (by walk_at "mm") (PyProof.Rows.lt_int (wpAny_truthy_bool ?_)))))
      refine ifBool (fun hr => ?_) (fun hr => ?_)
      · have hr' : 2 * p + 1 + 1 < ds₁.length := by have := of_decide_eq_true hr; omega
        clear hr
        obtain ⟨vr, hvr, hRr⟩ := hv₁.get (k := 2 * p + 2) hr'
        refine isTrue_and (isTrue_not (wpAny_isTrue_Compare1 (Subscript_ (r_name F₄ (by walk_at "mm") (r_name F₄ (by walk_at "mm") (item N₄ hvc (Nat.lt_trans hb' hsz₁) (Subscript_ (r_name F₄ (by walk_at "mm") (r_name F₄ put_eq (item N₄ hvr (Nat.lt_trans hr' hsz₁) (cmp.ok (fun p hp => N₄ p (.tail _ hp)) (show A.units + 13 < _ from lessBy hu (by decide)) hRc hRr fun tk₆ => wpAny_truthy_bool ?_)))))))))))
        refine ifBool (fun hc => ?_) (fun hc => ?_)
        · refine isTrue_and_nil ?_
          rw [if_pos rfl]
          refine r_assignK fun K hK => (r_name F₄ put_eq (r_storeK hK F₄ N₄ fun h₆ tk₆ F₆ N₆ => wpAny_execs_nil ?_))
          refine ⟨rfl, ?_⟩
          rw [hP]
          refine ⟨h₆, tk₆, _, t5, rfl, F₆, N₆, by walk_at "mm", by walk_at "mm", by walk_at "mm", ?_, by walk_at "mm", by walk_at "mm"⟩
          rw [show pick lt ds₁ (2 * p + 1) = 2 * p + 2 from by unfold pick; rw [if_pos hr']; simp only [Bool.not_eq_true'] at hc; exact if_neg fun e => by cases hc.symm.trans e]
          exact put_eq
        · rw [if_neg (by decide)]
          rw [hP]
          refine ⟨h₄, tk₆, _, tc, rfl, F₄, N₄, by walk_at "mm", by walk_at "mm", by walk_at "mm", ?_, by walk_at "mm", by walk_at "mm"⟩
          rw [show pick lt ds₁ (2 * p + 1) = 2 * p + 1 from by unfold pick; rw [if_pos hr']; simp only [Bool.not_eq_false'] at hc; exact if_pos hc]
          walk_at "mm"
      · have hr' : ¬ 2 * p + 1 + 1 < ds₁.length := by have := of_decide_eq_false hr; omega
        rw [if_neg (by decide)]
        rw [hP]
        refine ⟨h₄, tk₄, _, tc, rfl, F₄, N₄, by walk_at "mm", by walk_at "mm", by walk_at "mm", ?_, by walk_at "mm", by walk_at "mm"⟩
        rw [show pick lt ds₁ (2 * p + 1) = 2 * p + 1 from by unfold pick; rw [if_neg hr']]
        walk_at "mm"
    · clear F₃ N₃ F₄ N₄ mh ms mp mc me mn
      intro s' j
      rw [hP] at j
      clear hP
      obtain ⟨h₅, tk₅, m₅, tc₅, rfl, F₅, N₅, mh, ms, mp, mc, me, mn⟩ := j
      have hpl := pick_lt lt ds₁ (2 * p + 1) hb'
      have hpg := pick_ge lt ds₁ (2 * p + 1)
      generalize pick lt ds₁ (2 * p + 1) = c at *
      obtain ⟨vc, hvc, hRc⟩ := hv₁.get (k := c) hpl
      refine r_assignAt (Subscript_ (r_name F₅ mh (r_name F₅ mc (item N₅ hvc (Nat.lt_trans hpl hsz₁) (r_name F₅ mh (r_name F₅ mp (setItemAt F₅ N₅ ap (by rw [hlen₁, hl₁]; exact hp₁) (Nat.lt_trans hp₁ hsz) fun h₇ F₇ N₇ => ?_)))))))
      refine r_assignK fun K hK => (r_name F₇ mc (r_storeK hK F₇ N₇ fun h₈ tk₈ F₈ N₈ => ?_))
      refine r_assignK fun K hK => (wpAny_BinOp (wpAny_BinOp (r_int fun t4 _ => r_name F₈ put_eq (r_mul (mulOk2 _) fun t5 _ => r_int fun t6 _ => r_add fun t7 _ => r_storeK hK F₈ N₈ fun h₉ tk₉ F₉ N₉ => wpAny_execs_nil ?_))))
      rw [show (2 : Int) * (c : Int) + 1 = ((2 * c + 1 : Nat) : Int) from by omega] at F₉
      refine r_again (.inl rfl) F₉ N₉ (n' := ds.length - c) (by omega) ?_
      rw [hJ]
      refine ⟨c, tc₅, t7, _, ds₁.set p (ds₁.getD c default), rfl, rfl, hv₁.set hRc p, by rw [← hl₁]; exact hpl, by rw [List.length_set]; exact hl₁, by walk_at "mm", by walk_at "mm", by walk_at "mm", put_eq, by walk_at "mm", by walk_at "mm", ?_⟩
      rw [List.length_set]; exact hgo
  · have hb' : ¬ 2 * p + 1 < ds₁.length := by have := of_decide_eq_false hb; omega
    rw [if_neg hb'] at hgo
    refine r_assignAt (r_name F₃ mn (r_name F₃ mh (r_name F₃ mp (setItemAt F₃ N₃ ap (by rw [hlen₁, hl₁]; exact hp₁) (Nat.lt_trans hp₁ hsz) fun h₇ F₇ N₇ => ?_))))
    refine wpAny_execs_cons (wpAny_Expr (r_callK C' (kp w) (r_gname C' F₇ (ns_siftdown w) ⟨rfl, args_cons (r_name F₇ mh (args_cons (r_name F₇ ms (args_cons (r_name F₇ mp (args_nil ⟨C'.kin F₇, ?_⟩))))))⟩)))
    refine siftdown_call (ds := ds₁.set p (ds.getD i default)) C' F₇ N₇ ap (show A.depth + 1 < _ from lessBy hdp (by decide)) (show A.units + 23 < _ from lessBy hu (by decide)) cmp (hv₁.set hRx p) (by rw [List.length_set, hl₁]; exact hp₁) (by rw [List.length_set]; exact hsz₁) fun vs' h' tk' F' N' hv' => ?_
    refine wpAny_execs_nil (leaveB hQx F' N' fun F N => k _ _ _ F N ?_)
    unfold su
    rw [← hgo]
    exact hv'

set_option maxHeartbeats 8000000 in
theorem siftup_max_call {D : Type} [Inhabited D] {w : World} {A : Around} {E : Value → Shared → Prop} {s : Shared} {h : Heap} {tk : Nat} {L l : Addr} {h₀ : Heap} {m : Str → Option Value} {rest : List (Addr × Obj)} {Q : Value → Shared → Prop}
    {vs : List Value} {ds : List D} {n : Nat} {R : Value → D → Prop} {lt : D → D → Bool} {i : Nat} {ti : Tok}
    (C : At w A h₀ L) (F : Fr h₀ L h m) (N : News h₀ L h ((l, listOf vs.toArray n) :: rest)) (ap : ∀ p ∈ rest, p.1 ≠ l)
    (hdp : A.depth + 1 < recursionLimit) (hu : A.units + 30 < cLine) (cmp : Cmp w rest R lt) (hv : Rel2 R vs ds) (hj : i < ds.length) (hsz : ds.length < 1000)
    (k : ∀ vs' h' tk', Fr h₀ L h' m → News h₀ L h' ((l, listOf vs'.toArray n) :: rest) → Rel2 R vs' (su (fun a b => lt b a) ds i) → Q .none (st s h' tk')) :
    wpAny (Mo w) A (call (.ref 84) [.ref l, .int i ti]) Q E (st s h tk) := by
  refine' enter [("heap", .ref l), ("pos", .int i ti)] C F N ?k6 ?k7 (lessBy0 hdp) ?k9 ?kB ?c2 ?c3 ?c4 ?c5 ?_
  case k6 => exact rfl
  case k7 => exact rfl
  case k9 => exact rfl
  case c5 => decide
  case kB => exact rfl
  case c2 => exact rfl
  case c3 => exact rfl
  case c4 => exact rfl
  intro g L' h₁ tk₁ F' N' C' Qx hQx
  obtain ⟨x, hx, hRx⟩ := hv.get hj
  have hlen := hv.1
  refine r_assignK fun K hK => (r_callB (r_bname C' F' (ns_len w) boot_len ⟨rfl, args_cons (r_name F' rfl (args_nil (r_len N' (by rw [hlen]; exact hsz) fun te _ => r_storeK hK F' N' fun h₂ tk₂ F₂ N₂ => ?_)))⟩))
  refine r_assignK fun K hK => (r_name F₂ (show _ = some (Value.int (i : Int) ti) from rfl) (r_storeK hK F₂ N₂ fun h₃ tk₃ F₃ N₃ => ?_))
  refine r_assignK fun K hK => (Subscript_ (r_name F₃ (show _ = some (Value.ref l) from rfl) (r_name F₃ (show _ = some (Value.int (i : Int) ti) from rfl) (item N₃ hx (Nat.lt_trans hj hsz) (r_storeK hK F₃ N₃ fun h₄ tk₄ F₄ N₄ => ?_)))))
  refine r_assignK fun K hK => (wpAny_BinOp (wpAny_BinOp (r_int fun t4 _ => r_name F₄ (show _ = some (Value.int (i : Int) ti) from rfl) (r_mul (mulOk2 _) fun t5 _ => r_int fun t6 _ => r_add fun t7 _ => r_storeK hK F₄ N₄ fun h₅ tk₅ F₅ N₅ => ?_))))
  rw [show (2 : Int) * (i : Int) + 1 = ((2 * i + 1 : Nat) : Int) from by omega] at F₅
  obtain ⟨J, hJ⟩ := hide (fun (k : Nat) (m₁ : Str → Option Value) (nw : List (Addr × Obj)) => ∃ (p : Nat) (tp tc : Tok) (vs₁ : List Value) (ds₁ : List D), k = ds.length - p ∧ nw = (l, listOf vs₁.toArray n) :: rest ∧ Rel2 R vs₁ ds₁ ∧ p < ds.length ∧ ds₁.length = ds.length ∧
      m₁ "heap" = some (.ref l) ∧ m₁ "startpos" = some (.int i ti) ∧ m₁ "pos" = some (.int p tp) ∧ m₁ "childpos" = some (.int (2 * p + 1 : Nat) tc) ∧ m₁ "endpos" = some (.int vs.length te) ∧ m₁ "newitem" = some x ∧
      suGo (fun a b => lt b a) (ds₁.length - p) ds₁ p = suGo (fun a b => lt b a) (ds.length - i) ds i)
  refine r_while J F₅ N₅ (by rw [hJ]; exact ⟨i, ti, t7, vs, ds, rfl, rfl, hv, hj, rfl, rfl, rfl, rfl, put_eq, rfl, rfl, rfl⟩) ?_
  clear F₂ N₂ F' N' F₃ N₃ F₄ N₄ F₅ N₅ h₂ tk₂ tk₁ h₁ h₃ tk₃ h₄ tk₄ h₅ tk₅ t4 t5 t6 t7
  rintro kk m₁ nw h₃ tk₃ F₃ N₃ j
  rw [hJ] at j
  obtain ⟨p, tp, tc, vs₁, ds₁, rfl, rfl, hv₁, hp₁, hl₁, mh, ms, mp, mc, me, mn, hgo⟩ := j
  have hlen₁ := hv₁.1
  have hsz₁ : ds₁.length < 1000 := by rw [hl₁]; exact hsz
  refine wpAny_isTrue_Compare1 (r_name F₃ mc (r_name F₃ me (PyProof.Rows.lt_int (wpAny_truthy_bool ?_))))
  rw [suGo_step] at hgo
  refine ifBool (fun hb => ?_) (fun hb => ?_)
  · have hb' : 2 * p + 1 < ds₁.length := by have := of_decide_eq_true hb; omega
    clear hb
    rw [if_pos hb'] at hgo
    refine r_assignK fun K hK => (wpAny_BinOp (r_name F₃ mc (r_int fun t4 _ => r_add fun t5 _ => r_storeK hK F₃ N₃ fun h₄ tk₄ F₄ N₄ => ?_)))
    rw [show ((2 * p + 1 : Nat) : Int) + 1 = ((2 * p + 2 : Nat) : Int) from by omega] at F₄
    obtain ⟨P, hP⟩ := hide (fun (s' : Shared) => ∃ h₅ tk₅ m₅ tc₅, s' = st s h₅ tk₅ ∧ Fr g L' h₅ m₅ ∧ News g L' h₅ ((l, listOf vs₁.toArray n) :: rest) ∧ m₅ "heap" = some (.ref l) ∧ m₅ "startpos" = some (.int i ti) ∧ m₅ "pos" = some (.int p tp) ∧
      m₅ "childpos" = some (.int (pick (fun a b => lt b a) ds₁ (2 * p + 1) : Nat) tc₅) ∧ m₅ "endpos" = some (.int vs.length te) ∧ m₅ "newitem" = some x)
    refine r_if P ?_ ?_
    · obtain ⟨vc, hvc, hRc⟩ := hv₁.get (k := 2 * p + 1) hb'
      refine isTrue_and (wpAny_isTrue_Compare1 (r_name F₄ put_eq (r_name F₄ (by walk_at "mm") (PyProof.Rows.lt_int (wpAny_truthy_bool ?_)))))
      refine ifBool (fun hr => ?_) (fun hr => ?_)
      · have hr' : 2 * p + 1 + 1 < ds₁.length := by have := of_decide_eq_true hr; omega
        clear hr
        obtain ⟨vr, hvr, hRr⟩ := hv₁.get (k := 2 * p + 2) hr'
        refine isTrue_and (isTrue_not (wpAny_isTrue_Compare1 (Subscript_ (r_name F₄ (by walk_at "mm") (r_name F₄ put_eq (item N₄ hvr (Nat.lt_trans hr' hsz₁) (Subscript_ (r_name F₄ (by walk_at "mm") (r_name F₄ (by walk_at "mm") (item N₄ hvc (Nat.lt_trans hb' hsz₁) (cmp.ok (fun p hp => N₄ p (.tail _ hp)) (show A.units + 13 < _ from lessBy hu (by decide)) hRr hRc fun tk₆ => wpAny_truthy_bool ?_)))))))))))
        refine ifBool (fun hc => ?_) (fun hc => ?_)
        · refine isTrue_and_nil ?_
          rw [if_pos rfl]
          refine r_assignK fun K hK => (r_name F₄ put_eq (r_storeK hK F₄ N₄ fun h₆ tk₆ F₆ N₆ => wpAny_execs_nil ?_))
          refine ⟨rfl, ?_⟩
          rw [hP]
          refine ⟨h₆, tk₆, _, t5, rfl, F₆, N₆, by walk_at "mm", by walk_at "mm", by walk_at "mm", ?_, by walk_at "mm", by walk_at "mm"⟩
          rw [show pick (fun a b => lt b a) ds₁ (2 * p + 1) = 2 * p + 2 from by unfold pick; rw [if_pos hr']; simp only [Bool.not_eq_true'] at hc; exact if_neg fun e => by cases hc.symm.trans e]
          exact put_eq
        · rw [if_neg (by decide)]
          rw [hP]
          refine ⟨h₄, tk₆, _, tc, rfl, F₄, N₄, by walk_at "mm", by walk_at "mm", by walk_at "mm", ?_, by walk_at "mm", by walk_at "mm"⟩
          rw [show pick (fun a b => lt b a) ds₁ (2 * p + 1) = 2 * p + 1 from by unfold pick; rw [if_pos hr']; simp only [Bool.not_eq_false'] at hc; exact if_pos hc]
          walk_at "mm"
      · have hr' : ¬ 2 * p + 1 + 1 < ds₁.length := by have := of_decide_eq_false hr; omega
        rw [if_neg (by decide)]
        rw [hP]
        refine ⟨h₄, tk₄, _, tc, rfl, F₄, N₄, by walk_at "mm", by walk_at "mm", by walk_at "mm", ?_, by walk_at "mm", by walk_at "mm"⟩
        rw [show pick (fun a b => lt b a) ds₁ (2 * p + 1) = 2 * p + 1 from by unfold pick; rw [if_neg hr']]
        walk_at "mm"
    · clear F₃ N₃ F₄ N₄ mh ms mp mc me mn
      intro s' j
      rw [hP] at j
      clear hP
      obtain ⟨h₅, tk₅, m₅, tc₅, rfl, F₅, N₅, mh, ms, mp, mc, me, mn⟩ := j
      have hpl := pick_lt (fun a b => lt b a) ds₁ (2 * p + 1) hb'
      have hpg := pick_ge (fun a b => lt b a) ds₁ (2 * p + 1)
      generalize pick (fun a b => lt b a) ds₁ (2 * p + 1) = c at *
      obtain ⟨vc, hvc, hRc⟩ := hv₁.get (k := c) hpl
      refine r_assignAt (Subscript_ (r_name F₅ mh (r_name F₅ mc (item N₅ hvc (Nat.lt_trans hpl hsz₁) (r_name F₅ mh (r_name F₅ mp (setItemAt F₅ N₅ ap (by rw [hlen₁, hl₁]; exact hp₁) (Nat.lt_trans hp₁ hsz) fun h₇ F₇ N₇ => ?_)))))))
      refine r_assignK fun K hK => (r_name F₇ mc (r_storeK hK F₇ N₇ fun h₈ tk₈ F₈ N₈ => ?_))
      refine r_assignK fun K hK => (wpAny_BinOp (wpAny_BinOp (r_int fun t4 _ => r_name F₈ put_eq (r_mul (mulOk2 _) fun t5 _ => r_int fun t6 _ => r_add fun t7 _ => r_storeK hK F₈ N₈ fun h₉ tk₉ F₉ N₉ => wpAny_execs_nil ?_))))
      rw [show (2 : Int) * (c : Int) + 1 = ((2 * c + 1 : Nat) : Int) from by omega] at F₉
      refine r_again (.inl rfl) F₉ N₉ (n' := ds.length - c) (by omega) ?_
      rw [hJ]
      refine ⟨c, tc₅, t7, _, ds₁.set p (ds₁.getD c default), rfl, rfl, hv₁.set hRc p, by rw [← hl₁]; exact hpl, by rw [List.length_set]; exact hl₁, by walk_at "mm", by walk_at "mm", by walk_at "mm", put_eq, by walk_at "mm", by walk_at "mm", ?_⟩
      rw [List.length_set]; exact hgo
  · have hb' : ¬ 2 * p + 1 < ds₁.length := by have := of_decide_eq_false hb; omega
    rw [if_neg hb'] at hgo
    refine r_assignAt (r_name F₃ mn (r_name F₃ mh (r_name F₃ mp (setItemAt F₃ N₃ ap (by rw [hlen₁, hl₁]; exact hp₁) (Nat.lt_trans hp₁ hsz) fun h₇ F₇ N₇ => ?_))))
    refine wpAny_execs_cons (wpAny_Expr (r_callK C' (kp77 w) (r_gname C' F₇ (ns_siftdown_max w) ⟨rfl, args_cons (r_name F₇ mh (args_cons (r_name F₇ ms (args_cons (r_name F₇ mp (args_nil ⟨C'.kin F₇, ?_⟩))))))⟩)))
    refine siftdown_max_call (ds := ds₁.set p (ds.getD i default)) C' F₇ N₇ ap (show A.depth + 1 < _ from lessBy hdp (by decide)) (show A.units + 23 < _ from lessBy hu (by decide)) cmp (hv₁.set hRx p) (by rw [List.length_set, hl₁]; exact hp₁) (by rw [List.length_set]; exact hsz₁) fun vs' h' tk' F' N' hv' => ?_
    refine wpAny_execs_nil (leaveB hQx F' N' fun F N => k _ _ _ F N ?_)
    unfold su
    rw [← hgo]
    exact hv'
end

section
open PySem PySem.W PyProof.Rows PySem.Calls
set_option maxRecDepth 100000
set_option maxHeartbeats 8000000
theorem kp21 (w : World) : keepIn (hd.heap_39 w.params) (.ref 21) = true := rfl
theorem kp28 (w : World) : keepIn (hd.heap_39 w.params) (.ref 28) = true := rfl
theorem kp84 (w : World) : keepIn (hd.heap_39 w.params) (.ref 84) = true := rfl

section
variable {w : World} {A : Around} {E : Value → Shared → Prop} {s : Shared} {h : Heap} {tk : Nat} {L : Addr} {h₀ : Heap} {m : Str → Option Value} {news : List (Addr × Obj)}
theorem sizeLine_big : 1000 ≤ sizeLine := by rw [sizeLine_eq]; decide
theorem r_append {l : Addr} {rest : List (Addr × Obj)} {vs : List Value} {n : Nat} {x : Value} {Q : Value → Shared → Prop} (F : Fr h₀ L h m) (N : News h₀ L h ((l, listOf vs.toArray n) :: rest)) (ap : ∀ p ∈ rest, p.1 ≠ l) (hsz : vs.length ≤ 1000)
    (k : ∀ h', Fr h₀ L h' m → News h₀ L h' ((l, listOf (vs ++ [x]).toArray (n + 1)) :: rest) → Q .none (st s h' tk)) : wpAny (Mo w) A (call (.builtin "list.append") [.ref l, x]) Q E (st s h tk) := by
  refine append_K (s := st s h tk) F N (.head ap) (fun h' F' N' => k h' F' ?_) (by rw [List.size_toArray]; exact Nat.le_trans hsz sizeLine_big)
  rw [List.push_toArray] at N'
  exact N'
theorem r_pop {l : Addr} {rest : List (Addr × Obj)} {vs : List Value} {n : Nat} {x : Value} {Q : Value → Shared → Prop} (F : Fr h₀ L h m) (N : News h₀ L h ((l, listOf (vs ++ [x]).toArray n) :: rest)) (ap : ∀ p ∈ rest, p.1 ≠ l) (hsz : vs.length < 1000)
    (k : ∀ h', Fr h₀ L h' m → News h₀ L h' ((l, listOf vs.toArray (n + 1)) :: rest) → Q x (st s h' tk)) : wpAny (Mo w) A (call (.builtin "list.pop") [.ref l]) Q E (st s h tk) := by
  refine kl_pop (s := st s h tk) F N (kpa_last x vs) (.head ap) ?_ k
  show (vs ++ [x]).length ≤ sizeLine
  have := sizeLine_big
  rw [List.length_append, List.length_singleton]; omega
theorem r_truthy {l : Addr} {rest : List (Addr × Obj)} {vs : List Value} {n : Nat} {Q : Bool → Shared → Prop} (N : News h₀ L h ((l, listOf vs.toArray n) :: rest)) (hsz : vs.length < 1000) (k : ∀ tk', Q (decide (0 < vs.length)) (st s h tk')) :
    wpAny (Mo w) A (truthy (.ref l)) Q E (st s h tk) := by
  refine wpAny_truthy_list (s := st s h tk) (PySem.IsL.isList (n := n) (N _ (.head _)).1) (by rw [List.size_toArray]; omega) ?_
  have e : (!vs.toArray.isEmpty) = decide (0 < vs.length) := by cases vs <;> simp
  rw [e]; exact k _
end

noncomputable def hpush {D : Type} [Inhabited D] (lt : D → D → Bool) (ds : List D) (d : D) : List D := sd lt (ds ++ [d]) 0 ds.length

theorem heappush_call {D : Type} [Inhabited D] {w : World} {A : Around} {E : Value → Shared → Prop} {s : Shared} {h : Heap} {tk : Nat} {L l : Addr} {h₀ : Heap} {m : Str → Option Value} {rest : List (Addr × Obj)} {Q : Value → Shared → Prop}
    {vs : List Value} {ds : List D} {n : Nat} {R : Value → D → Prop} {lt : D → D → Bool} {x : Value} {d : D}
    (C : At w A h₀ L) (F : Fr h₀ L h m) (N : News h₀ L h ((l, listOf vs.toArray n) :: rest)) (ap : ∀ p ∈ rest, p.1 ≠ l)
    (hdp : A.depth + 1 < recursionLimit) (hu : A.units + 30 < cLine) (cmp : Cmp w rest R lt) (hv : Rel2 R vs ds) (hx : R x d) (hsz : ds.length + 1 < 1000)
    (k : ∀ vs' n' h' tk', Fr h₀ L h' m → News h₀ L h' ((l, listOf vs'.toArray n') :: rest) → Rel2 R vs' (hpush lt ds d) → Q .none (st s h' tk')) :
    wpAny (Mo w) A (call (.ref 21) [.ref l, x]) Q E (st s h tk) := by
  refine' enter [("heap", .ref l), ("item", x)] C F N ?k6 ?k7 (lessBy0 hdp) ?k9 ?kB ?c2 ?c3 ?c4 ?c5 ?_
  case k6 => exact rfl
  case k7 => exact rfl
  case k9 => exact rfl
  case c5 => decide
  case kB => exact rfl
  case c2 => exact rfl
  case c3 => exact rfl
  case c4 => exact rfl
  intro g L' h₁ tk₁ F' N' C' Qx hQx
  have hlen := hv.1
  refine wpAny_execs_cons (wpAny_Expr (MethodCall_ (r_name F' (show _ = some (Value.ref l) from rfl) (kl_method (s := st s h₁ tk₁) N' (.head _) PySem.F.slot_list_append PySem.F.type_list_append (callWith_method1 (args_cons (r_name F' (show _ = some x from rfl) (args_nil ?_))))))))
  refine r_append F' N' ap (by omega) fun h₂ F₂ N₂ => ?_
  refine wpAny_execs_cons (wpAny_Expr (r_callK C' (kp w) (r_gname C' F₂ (ns_siftdown w) ⟨rfl, ?_⟩)))
  refine args_cons (r_name F₂ (show _ = some (Value.ref l) from rfl) (args_cons (r_int fun t0 _ => args_cons (wpAny_BinOp ?_))))
  refine r_callB (r_bname C' F₂ (ns_len w) boot_len ⟨rfl, args_cons (r_name F₂ (show _ = some (Value.ref l) from rfl) (args_nil (r_len N₂ (by simp; omega) fun te _ => r_int fun t1 _ => r_sub fun t2 _ => args_nil ⟨C'.kin F₂, ?_⟩)))⟩)
  rw [show ((vs ++ [x]).length : Int) - 1 = ((ds.length : Nat) : Int) from by simp; omega]
  refine siftdown_call (i := 0) (ds := ds ++ [d]) C' F₂ N₂ ap (show A.depth + 1 < _ from lessBy hdp (by decide)) (show A.units + 23 < _ from lessBy hu (by decide)) cmp (hv.snoc hx) (by simp) (by simp; omega) fun vs' h' tk' F' N' hv' => ?_
  exact wpAny_execs_nil (leaveB hQx F' N' fun F N => k _ _ _ _ F N hv')

theorem Rel2.unsnoc {D : Type} {R : Value → D → Prop} {vs : List Value} {ds : List D} {d : D} (h : Rel2 R vs (ds ++ [d])) : ∃ vs' v, vs = vs' ++ [v] ∧ Rel2 R vs' ds ∧ R v d := by
  have hl := h.1
  rw [List.length_append, List.length_singleton] at hl
  have hne : vs ≠ [] := by intro e; subst e; simp at hl
  refine ⟨vs.dropLast, vs.getLast hne, (List.dropLast_concat_getLast hne).symm, ⟨by rw [List.length_dropLast]; omega, fun k v e h1 h2 => ?_⟩, ?_⟩
  · have hk : k < ds.length := by
      rcases Nat.lt_or_ge k ds.length with q | q
      · exact q
      · rw [List.getElem?_eq_none q] at h2; cases h2
    refine h.2 k v e ?_ (by rw [List.getElem?_append_left hk]; exact h2)
    rw [List.getElem?_dropLast, if_pos (by omega)] at h1
    exact h1
  · refine h.2 ds.length _ _ ?_ (by simp)
    rw [List.getLast_eq_getElem, List.getElem?_eq_getElem (by omega)]
    congr 1
    have : vs.length - 1 = ds.length := by omega
    simp [this]

noncomputable def hpop {D : Type} [Inhabited D] (lt : D → D → Bool) (ds : List D) : List D :=
  if 0 < ds.dropLast.length then su lt (ds.dropLast.set 0 (ds.getLastD default)) 0 else []

theorem heappop_call {D : Type} [Inhabited D] {w : World} {A : Around} {E : Value → Shared → Prop} {s : Shared} {h : Heap} {tk : Nat} {L l : Addr} {h₀ : Heap} {m : Str → Option Value} {rest : List (Addr × Obj)} {Q : Value → Shared → Prop}
    {vs : List Value} {ds : List D} {n : Nat} {R : Value → D → Prop} {lt : D → D → Bool}
    (C : At w A h₀ L) (F : Fr h₀ L h m) (N : News h₀ L h ((l, listOf vs.toArray n) :: rest)) (ap : ∀ p ∈ rest, p.1 ≠ l)
    (hdp : A.depth + 2 < recursionLimit) (hu : A.units + 40 < cLine) (cmp : Cmp w rest R lt) (hv : Rel2 R vs ds) (hne : 0 < ds.length) (hsz : ds.length < 1000)
    (k : ∀ x vs' n' h' tk', R x (ds.getD 0 default) → Fr h₀ L h' m → News h₀ L h' ((l, listOf vs'.toArray n') :: rest) → Rel2 R vs' (hpop lt ds) → Q x (st s h' tk')) :
    wpAny (Mo w) A (call (.ref 28) [.ref l]) Q E (st s h tk) := by
  obtain ⟨ds, d, rfl⟩ : ∃ a b, ds = a ++ [b] := ⟨ds.dropLast, ds.getLast (by intro e; subst e; simp at hne), (List.dropLast_concat_getLast _).symm⟩
  obtain ⟨vs, x, rfl, hv, hx⟩ := hv.unsnoc
  have hlen := hv.1
  rw [List.length_append, List.length_singleton] at hsz
  have hpop_eq : hpop lt (ds ++ [d]) = if 0 < ds.length then su lt (ds.set 0 d) 0 else [] := by unfold hpop; simp
  refine' enter [("heap", .ref l)] C F N ?k6 ?k7 (lessBy0 hdp) ?k9 ?kB ?c2 ?c3 ?c4 ?c5 ?_
  case k6 => exact rfl
  case k7 => exact rfl
  case k9 => exact rfl
  case c5 => decide
  case kB => exact rfl
  case c2 => exact rfl
  case c3 => exact rfl
  case c4 => exact rfl
  intro g L' h₁ tk₁ F' N' C' Qx hQx
  refine r_assignK fun K hK => (MethodCall_ (r_name F' (show _ = some (Value.ref l) from rfl) (kl_method (s := st s h₁ tk₁) N' (.head _) PySem.F.slot_list_pop PySem.F.type_list_pop (callWith_method0 ?_))))
  refine r_pop F' N' ap (by omega) fun h₂ F₂ N₂ => r_storeK hK F₂ N₂ fun h₃ tk₃ F₃ N₃ => ?_
  refine wpAny_execs_cons (wpAny_If (isTrue_plain (r_name F₃ (show _ = some (Value.ref l) from rfl) (r_truthy N₃ (by omega) fun tk₄ => ?_))))
  refine ifBool (fun hb => ?_) (fun hb => ?_)
  · have hb' : 0 < ds.length := by have := of_decide_eq_true hb; omega
    obtain ⟨y, hy, hRy⟩ := hv.get hb'
    refine r_assignK fun K hK => (Subscript_ (r_name F₃ (show _ = some (Value.ref l) from rfl) (r_int fun t0 _ => item (k := 0) N₃ hy (by omega) (r_storeK hK F₃ N₃ fun h₅ tk₅ F₅ N₅ => ?_))))
    refine r_assignAt (r_name F₅ (show _ = some x from rfl) (r_name F₅ (show _ = some (Value.ref l) from rfl) (r_int fun t1 _ => setItemAt (k := 0) F₅ N₅ ap (by omega) (by omega) fun h₆ F₆ N₆ => ?_)))
    refine wpAny_execs_cons (wpAny_Expr (r_callK C' (kp70 w) (r_gname C' F₆ (ns_siftup w) ⟨rfl, ?_⟩)))
    refine args_cons (r_name F₆ (show _ = some (Value.ref l) from rfl) (args_cons (r_int fun t0 _ => args_nil ⟨C'.kin F₆, ?_⟩)))
    refine siftup_call (i := 0) (ds := ds.set 0 d) C' F₆ N₆ ap (show A.depth + 2 < _ from lessBy hdp (by decide)) (show A.units + 33 < _ from lessBy hu (by decide)) cmp (hv.set hx 0) (by simp; omega) (by simp; omega) fun vs' h' tk' F' N' hv' => ?_
    refine wpAny_execs_cons (wpAny_Return_some (r_name F' put_eq ?_))
    refine leaveB hQx F' N' fun F N => k _ _ _ _ _ ?_ F N (by rw [hpop_eq, if_pos hb']; exact hv')
    rw [show (ds ++ [d]).getD 0 default = ds.getD 0 default from by simp only [List.getD, List.getElem?_append_left hb']]; exact hRy
  · have hb' : ds = [] := by have := of_decide_eq_false hb; cases ds with | nil => rfl | cons => simp at hlen; omega
    refine wpAny_execs_nil (wpAny_execs_cons (wpAny_Return_some (r_name F₃ put_eq ?_)))
    subst hb'
    refine leaveB hQx F₃ N₃ fun F N => k _ _ _ _ _ hx F N (by rw [hpop_eq]; exact hv)

theorem heapreplace_call {D : Type} [Inhabited D] {w : World} {A : Around} {E : Value → Shared → Prop} {s : Shared} {h : Heap} {tk : Nat} {L l : Addr} {h₀ : Heap} {m : Str → Option Value} {rest : List (Addr × Obj)} {Q : Value → Shared → Prop}
    {vs : List Value} {ds : List D} {n : Nat} {R : Value → D → Prop} {lt : D → D → Bool} {x : Value} {d : D}
    (C : At w A h₀ L) (F : Fr h₀ L h m) (N : News h₀ L h ((l, listOf vs.toArray n) :: rest)) (ap : ∀ p ∈ rest, p.1 ≠ l)
    (hdp : A.depth + 2 < recursionLimit) (hu : A.units + 40 < cLine) (cmp : Cmp w rest R lt) (hv : Rel2 R vs ds) (hx : R x d) (hne : 0 < ds.length) (hsz : ds.length < 1000)
    (k : ∀ y vs' h' tk', R y (ds.getD 0 default) → Fr h₀ L h' m → News h₀ L h' ((l, listOf vs'.toArray n) :: rest) → Rel2 R vs' (su lt (ds.set 0 d) 0) → Q y (st s h' tk')) :
    wpAny (Mo w) A (call (.ref 35) [.ref l, x]) Q E (st s h tk) := by
  have hlen := hv.1
  refine' enter [("heap", .ref l), ("item", x)] C F N ?k6 ?k7 (lessBy0 hdp) ?k9 ?kB ?c2 ?c3 ?c4 ?c5 ?_
  case k6 => exact rfl
  case k7 => exact rfl
  case k9 => exact rfl
  case c5 => decide
  case kB => exact rfl
  case c2 => exact rfl
  case c3 => exact rfl
  case c4 => exact rfl
  intro g L' h₁ tk₁ F' N' C' Qx hQx
  obtain ⟨y, hy, hRy⟩ := hv.get hne
  refine r_assignK fun K hK => (Subscript_ (r_name F' (show _ = some (Value.ref l) from rfl) (r_int fun t0 _ => item (k := 0) N' hy (by omega) (r_storeK hK F' N' fun h₅ tk₅ F₅ N₅ => ?_))))
  refine r_assignAt (r_name F₅ (show _ = some x from rfl) (r_name F₅ (show _ = some (Value.ref l) from rfl) (r_int fun t1 _ => setItemAt (k := 0) F₅ N₅ ap (by omega) (by omega) fun h₆ F₆ N₆ => ?_)))
  refine wpAny_execs_cons (wpAny_Expr (r_callK C' (kp70 w) (r_gname C' F₆ (ns_siftup w) ⟨rfl, ?_⟩)))
  refine args_cons (r_name F₆ (show _ = some (Value.ref l) from rfl) (args_cons (r_int fun t0 _ => args_nil ⟨C'.kin F₆, ?_⟩)))
  refine siftup_call (i := 0) (ds := ds.set 0 d) C' F₆ N₆ ap (show A.depth + 2 < _ from lessBy hdp (by decide)) (show A.units + 33 < _ from lessBy hu (by decide)) cmp (hv.set hx 0) (by simp; omega) (by simp; omega) fun vs' h' tk' F' N' hv' => ?_
  refine wpAny_execs_cons (wpAny_Return_some (r_name F' put_eq ?_))
  exact leaveB hQx F' N' fun F N => k _ _ _ _ hRy F N hv'
end

section
open PySem PySem.W PyProof.Rows PySem.Calls
set_option maxRecDepth 100000
set_option maxHeartbeats 8000000
section
variable {w : World} {A : Around} {E : Value → Shared → Prop} {s : Shared} {h : Heap} {tk : Nat} {L : Addr} {h₀ : Heap} {m : Str → Option Value} {news : List (Addr × Obj)}

/-- where a for stands when its iterator is made -/
def ForAt (w : World) (A : Around) (h₀ : Heap) (L : Addr) (s : Shared) (env : Env) (x : Str) (body rest : List Stmt) (Q : Flow → Shared → Prop) (it : Value) (s₂ : Shared) : Prop :=
  ∃ (J : Nat → (Str → Option Value) → List (Addr × Obj) → Prop) (h₂ : Heap) (tk₂ : Nat) (m₂ : Str → Option Value) (news₂ : List (Addr × Obj)) (n₀ : Nat), s₂ = st s h₂ tk₂ ∧ Fr h₀ L h₂ m₂ ∧ News h₀ L h₂ news₂ ∧ J n₀ m₂ news₂ ∧
    ∀ n m₁ news₁ h₁ tk₁, Fr h₀ L h₁ m₁ → News h₀ L h₁ news₁ → J n m₁ news₁ → wpAny (Mo w) A (pyNext it) (fun r s₃ => match r with
      | none => wpAny (Mo w) A (execs rest env) Q (fun _ _ => False) s₃
      | some v => wpAny (Mo w) A (storeName env x v) (fun _ s₄ => wpAny (Mo w) A (execs body env) (WhileStep2 h₀ L s J (fun fl s' => match fl with | .next => wpAny (Mo w) A (execs rest env) Q (fun _ _ => False) s' | fl => Q fl s') n) (fun _ _ => False) s₄) (fun _ _ => False) s₃)
      (fun _ _ => False) (st s h₁ tk₁)
theorem r_for {env : Env} {x : Str} {px : Pos} {iter : PySem.Expr} {body : List Stmt} {pos : Pos} {rest : List Stmt} {Q : Flow → Shared → Prop}
    (k : wpAny (Mo w) A (eval iter env) (fun xv s₁ => wpAny (Mo w) A (pyIter xv) (fun it s₂ => ForAt w A h₀ L s env x body rest Q it s₂) (fun _ _ => False) s₁) (fun _ _ => False) (st s h tk))
    (hs : ∀ x, foldedSetIterable iter env x = pure x := by intro _; rfl) :
    wpAny (Mo w) A (execs (.For (.Name x px) iter body [] pos :: rest) env) Q (fun _ _ => False) (st s h tk) := by
  refine wpAny_execs_cons (wpAny_For (wpAny_mono k (fun xv s₁ h₁ => wpAny_mono h₁ (fun it s₂ h₂ => ?_) fun _ _ e => e) fun _ _ e => e) hs)
  obtain ⟨J, h₂, tk₂, m₂, news₂, n₀, rfl, F, N, j, turn⟩ := h₂
  refine codeAny_forLoop (fun n s' => ∃ h₁ tk₁ m₁ news₁, s' = st s h₁ tk₁ ∧ Fr h₀ L h₁ m₁ ∧ News h₀ L h₁ news₁ ∧ J n m₁ news₁) ?_ n₀ ⟨h₂, tk₂, m₂, news₂, rfl, F, N, j⟩
  rintro n s' ⟨h₁, tk₁, m₁, news₁, rfl, F₁, N₁, J₁⟩
  refine wpAny_mono (turn n m₁ news₁ h₁ tk₁ F₁ N₁ J₁) (fun r s₃ h₃ => ?_) fun _ _ e => e.elim
  cases r with
  | none => exact wpAny_execs_nil h₃
  | some v =>
    refine wpAny_assign_Name (wpAny_mono h₃ (fun _ s₄ h₄ => wpAny_mono h₄ (fun f s₅ h₅ => ?_) fun _ _ e => e.elim) fun _ _ e => e.elim)
    cases f <;> first
      | exact h₅
      | exact let ⟨h', tk, m', led, n', e, F', N', less, j⟩ := h₅; ⟨n', less, h', tk, m', led, e, F', N', j⟩

/-- the ledger's head changed -/
theorem News.turn {a : Addr} {o o' : Obj} {rest : List (Addr × Obj)} {h' : Heap} (N : News h₀ L h ((a, o) :: rest)) (ap : ∀ p ∈ rest, p.1 ≠ a) (hs : Heap.SameBut a h h') (ho : h'.get? a = some o') : News h₀ L h' ((a, o') :: rest) :=
  news_set (pre := []) N (fun _ h => nomatch h) ap hs ho
theorem News.sub {l₁ l₂ : List (Addr × Obj)} (N : News h₀ L h l₁) (hs : ∀ p ∈ l₂, p ∈ l₁) : News h₀ L h l₂ := fun p hp => N p (hs p hp)

noncomputable abbrev rgIt (x left step : Int) : Obj := { cls := .type "range_iterator", dict := none, data := .fields #[rawInt x, rawInt left, rawInt step], slots := #[] }
noncomputable abbrev rgOb (a b c : Int) (t u v : Tok) : Obj := { cls := .type "range", dict := none, data := .fields #[.int a t, .int b u, .int c v], slots := #[] }
/-- the next of a range's iterator -/
theorem r_nextR {it : Addr} {x left step : Int} {rest : List (Addr × Obj)} {Q : Option Value → Shared → Prop} (F : Fr h₀ L h m) (N : News h₀ L h ((it, rgIt x left step) :: rest)) (ap : ∀ p ∈ rest, p.1 ≠ it) (hl : 0 < left)
    (k : ∀ t h' tk', Fr h₀ L h' m → News h₀ L h' ((it, rgIt (x + step) (left - 1) step) :: rest) → Q (some (.int x t)) (st s h' tk')) : wpAny (Mo w) A (pyNext (.ref it)) Q E (st s h tk) := by
  have z := N _ (.head _)
  exact wpAny_pyNext_range_item (s := st s h tk) z.1 hl fun h' e hs => k _ h' _ (F.change hs z.2.1 z.2.2) (Mine.News.turn N ap hs e)
theorem r_nextR_end {it : Addr} {x left step : Int} {rest : List (Addr × Obj)} {Q : Option Value → Shared → Prop} (hh : A.handled = none) (F : Fr h₀ L h m) (N : News h₀ L h ((it, rgIt x left step) :: rest)) (ap : ∀ p ∈ rest, p.1 ≠ it) (hl : left ≤ 0)
    (k : ∀ h' tk', Fr h₀ L h' m → News h₀ L h' rest → Q none (st s h' tk')) : wpAny (Mo w) A (pyNext (.ref it)) Q E (st s h tk) := by
  have z := N _ (.head _)
  refine wpAny_pyNext_range_end (s := st s h tk) hh z.1 hl fun h' e => k h' _ ?_ fun p hp => ⟨e _ _ (ap p hp) (N p (.tail _ hp)).1, (N p (.tail _ hp)).2⟩
  obtain ⟨oL, a1, a2, hL, a3⟩ := F.ns
  exact ⟨⟨oL, a1, a2, e _ _ (fun h => z.2.1 h.symm) hL, a3⟩, fun b o q => e b o (fun h => by subst h; rw [z.2.2] at q; cases q) (F.keep b o q), F.above⟩

theorem r_range1 {n : Int} {t : Tok} {Q : Value → Shared → Prop} (F : Fr h₀ L h m) (N : News h₀ L h news)
    (k : ∀ r h' t₁ u₁ v₁, Fr h₀ L h' m → News h₀ L h' ((r, rgOb 0 n 1 t₁ u₁ v₁) :: news) → (∀ p ∈ news, p.1 < r) → ∀ tk', Q (.ref r) (st s h' tk')) :
    wpAny (Mo w) A (call (.type "range") [.int n t]) Q E (st s h tk) :=
  call_range_1 (s := st s h tk) (k _ _ _ _ _ (F.push _) (N.push F _) (fun p hp => Heap.lt_size (N p hp).1) _)

open PySem in
theorem call_range_reversed {s : Shared} {r : Addr} {n : Int} {t u v : Tok} {Q : Value → Shared → Prop} (hr : IsRange s.heap r 0 n 1 t u v) (h0 : 0 ≤ n) (h1 : n < 1000)
    (hq : Q (.ref s.heap.objs.size) { s with heap := s.heap.push (rgIt (n - 1) n (-1)) }) : wpAny (Mo w) A (call (.builtin "range.__reversed__") [.ref r]) Q E s := by
  refine wpAny_call_entry F.slot_range_reversed ⟨_, hr, rfl⟩ F.entry_range_reversed ?_ (F.args_range_reversed_1 _)
  unfold Builtin.«range.__reversed__»
  refine wpAny_bind (wpAny_of_eq (a := Value.ref r) rfl ?_)
  unfold Builtin.Range.rangeFields
  show wpAny _ _ ((field (.ref r) 0 >>= _) >>= _) _ _ s
  refine wpAny_bind (wpAny_bind (wpAny_field hr rfl (x := .int 0 t) rfl ?_))
  show wpAny _ _ (field (.ref r) 1 >>= _) _ _ s
  refine wpAny_bind (wpAny_field hr rfl (x := .int n u) rfl ?_)
  show wpAny _ _ (field (.ref r) 2 >>= _) _ _ s
  refine wpAny_bind (wpAny_field hr rfl (x := .int 1 v) rfl ?_)
  refine wpAny_bind (wpAny_of_eq (a := some (1 : Int)) rfl (wpAny_pure ?_))
  have e1 : Builtin.Range.rangeSize 0 n 1 = n := by rw [rangeSize_nat]; omega
  have fl : ∀ z : Int, -1000 ≤ z → z < 1000 → Builtin.Range.rangeFitsLong z = true := fun z a b => by unfold Builtin.Range.rangeFitsLong; simp; omega
  dsimp only
  rw [e1, fl 0 (by decide) (by decide), fl n (by omega) h1, fl 1 (by decide) (by decide), fl (-1) (by decide) (by decide), fl (0 - 1) (by decide) (by decide)]
  simp only [Bool.and_self, Bool.not_true, Bool.false_eq_true, if_false, if_true]
  refine wpAny_bind (wpAny_newObj_type (wpAny_pure ⟨_, rfl, ?_⟩))
  rw [show (0 : Int) + (n - 1) * 1 = n - 1 from by omega]
  exact hq

theorem sub_rgi_reversed : isSubtype (.type "range_iterator") (.type "reversed") = pure false := by rw [isSubtype_type]; kernel_rfl
/-- what the type's own __reversed__ gives, reversed() gives -/
theorem reversed_own {s : Shared} {T id : String} {v : Value} {Q : Value → Shared → Prop} (ty : s.TypeIs v T) (slot : Slot T (Str.ofString "__reversed__") id) (c : wpAny (Mo w) A (call (.builtin id) [v]) Q E s) :
    wpAny (Mo w) A (Builtin.«reversed.__new__» ⟨[.type "reversed", v], []⟩) (fun fin s' => ∃ x, fin = .done (.ret x) ∧ Q x s') E s := by
  unfold Builtin.«reversed.__new__»
  rw [newClass_reversed, pure_bind]
  refine wpAny_bind (m := pure ()) (wpAny_pure (wpAny_bind (m := pure ()) (wpAny_pure ?_)))
  refine wpAny_bind (wpAny_specialOf ty slot.lookup ?_)
  dsimp only
  rw [slot.bind, pure_bind]
  refine wpAny_ite ?_
  rw [if_neg (show ¬ (Value.builtin id == Value.none) = true from nofun)]
  exact wpAny_bind (wpAny_rule (wpAny_bind (wpAny_mono c (fun x _ q => wpAny_pure ⟨x, rfl, q⟩) fun _ _ q => q)))
theorem code_reversed_range {s : Shared} {r : Addr} {n : Int} {t u v : Tok} {Q₁ : Value → Shared → Prop} (hr : IsRange s.heap r 0 n 1 t u v) (h0 : 0 ≤ n) (h1 : n < 1000)
    (hq : Q₁ (.ref s.heap.objs.size) { s with heap := s.heap.push (rgIt (n - 1) n (-1)) }) :
    codeAny (Mo w) A (.call (.builtin "reversed.__new__") ⟨[.type "reversed", .ref r], []⟩) (wants Q₁ E) s :=
  codeAny_call_builtin PySem.F.plain_reversed_new PySem.F.entry_reversed_new (wpAny_of_eq (PySem.F.newCall_reversed_1 _)
    (wpAny_mono (reversed_own (A := A.in1) ⟨_, hr, rfl⟩ PySem.F.slot_range_reversed (call_range_reversed hr h0 h1 hq)) (fun fin s' q => by obtain ⟨x, rfl, q⟩ := q; exact q) fun _ _ q => q))
theorem r_reversed {r : Addr} {n : Int} {t u v : Tok} {Q : Value → Shared → Prop} (F : Fr h₀ L h m) (N : News h₀ L h ((r, rgOb 0 n 1 t u v) :: news)) (h0 : 0 ≤ n) (h1 : n < 1000)
    (k : ∀ it h', Fr h₀ L h' m → News h₀ L h' ((it, rgIt (n - 1) n (-1)) :: (r, rgOb 0 n 1 t u v) :: news) → (∀ p ∈ news, p.1 < it) → Q (.ref it) (st s h' tk)) : wpAny (Mo w) A (call (.type "reversed") [.ref r]) Q E (st s h tk) := by
  refine callType_other (s := st s h tk) (U := "range_iterator") (Q₁ := fun obj s₁ => obj = .ref h.objs.size ∧ s₁ = st s (h.push (rgIt (n - 1) n (-1))) tk) (by decide +kernel) PySem.F.create_reversed ⟨_, _, PySem.F.mro_reversed⟩ PySem.F.made_reversed sub_rgi_reversed (PySem.F.typeCall_reversed_1 _) (code_reversed_range (N _ (.head _)).1 h0 h1 ⟨rfl, rfl⟩) ?_
  rintro obj s₁ ⟨rfl, rfl⟩
  exact ⟨⟨_, Heap.get?_push_size _ rfl, rfl⟩, k _ _ (F.push _) (N.push F _) fun p hp => Heap.lt_size (N p (.tail _ hp)).1⟩
theorem r_iterR {it : Addr} {x left step : Int} {Q : Value → Shared → Prop} (hit : h.get? it = some (rgIt x left step)) (k : Q (.ref it) (st s h tk)) : wpAny (Mo w) A (pyIter (.ref it)) Q E (st s h tk) :=
  wpAny_pyIter_rangeiter (s := st s h tk) hit k
end

/-- the pure heapify -/
noncomputable def hpfyGo {D : Type} [Inhabited D] (lt : D → D → Bool) : Nat → List D → List D
  | 0, ds => ds
  | i + 1, ds => hpfyGo lt i (su lt ds i)
noncomputable def hpfy {D : Type} [Inhabited D] (lt : D → D → Bool) (ds : List D) : List D := hpfyGo lt (ds.length / 2) ds
theorem hpfyGo_length {D : Type} [Inhabited D] (lt : D → D → Bool) : ∀ (i : Nat) (ds : List D), i ≤ ds.length → (hpfyGo lt i ds).length = ds.length
  | 0, ds, _ => rfl
  | i + 1, ds, h => by
    show (hpfyGo lt i (su lt ds i)).length = _
    have e := su_length lt ds i (by omega)
    rw [hpfyGo_length lt i _ (by omega), e]
theorem ns_range (w : World) : nsIn (hd.heap_39 w.params) mainGlobals "range" = some none := rfl
theorem ns_reversed (w : World) : nsIn (hd.heap_39 w.params) mainGlobals "reversed" = some none := rfl
section
variable {w : World} {A : Around} {E : Value → Shared → Prop} {s : Shared} {h : Heap} {tk : Nat} {L : Addr} {h₀ : Heap} {m : Str → Option Value} {news : List (Addr × Obj)}
theorem r_callT {env : Env} {fe e : PySem.Expr} {rest : List PySem.Expr} {pos : Pos} {id : String} {Q : Value → Shared → Prop}
    (k : wpAny (Mo w) A (eval fe env) (fun v s₁ => v = .type id ∧ wpAny (Mo w) A (spliced (backTo pos (starEach (e :: rest) env))) (fun vs s₂ => wpAny (Mo w) A (call (.type id) vs) Q E s₂) E s₁) E (st s h tk))
    (he : starEach (e :: rest) env = (false, eval e env) :: starEach rest env := by rfl) (hplain : (backTo pos (starEach rest env)).any (·.1) = false := by rfl)
    (hc : eval (.Call fe (e :: rest) [] pos) env = (do callWith pos (← eval fe env) [] (backTo pos (starEach (e :: rest) env)) (backToKw pos (keywordEach [] env))) := by rfl) :
    wpAny (Mo w) A (eval (.Call fe (e :: rest) [] pos) env) Q E (st s h tk) := by
  refine Call_ (wpAny_mono k (fun v s₁ hv => ?_) fun _ _ x => x) hc
  obtain ⟨rfl, hv⟩ := hv
  exact callWith_type1 hv he hplain
theorem r_fdiv2 {a : Int} {t u : Tok} {Q : Value → Shared → Prop} (_h0 : 0 ≤ a) (_h1 : a < 1000) (k : ∀ t' tk', Q (.int (a / 2) t') (st s h tk')) : wpAny (Mo w) A (binaryOp .FloorDiv (.int a t) (.int 2 u)) Q E (st s h tk) := by
  refine PyProof.Rows.floordiv_int (s := st s h tk) (by decide) ?_ (Or.inl (PyProof.noPylong_small (by omega)))
  rw [Int.fdiv_eq_ediv_of_nonneg _ (by decide)]
  exact k _ _
end
theorem Cmp.more {D : Type} {w : World} {rest : List (Addr × Obj)} {R : Value → D → Prop} {lt : D → D → Bool} (c : Cmp w rest R lt) (p : Addr × Obj) : Cmp w (p :: rest) R lt :=
  ⟨fun N u ra rb k => c.ok (fun q hq => N q (.tail _ hq)) u ra rb k⟩

theorem heapify_call {D : Type} [Inhabited D] {w : World} {A : Around} {E : Value → Shared → Prop} {s : Shared} {h : Heap} {tk : Nat} {L l : Addr} {h₀ : Heap} {m : Str → Option Value} {rest : List (Addr × Obj)} {Q : Value → Shared → Prop}
    {vs : List Value} {ds : List D} {n : Nat} {R : Value → D → Prop} {lt : D → D → Bool}
    (C : At w A h₀ L) (hh : A.handled = none) (F : Fr h₀ L h m) (N : News h₀ L h ((l, listOf vs.toArray n) :: rest)) (ap : ∀ p ∈ rest, p.1 ≠ l)
    (hdp : A.depth + 2 < recursionLimit) (hu : A.units + 40 < cLine) (cmp : Cmp w rest R lt) (hv : Rel2 R vs ds) (hsz : ds.length < 1000)
    (k : ∀ vs' h' tk', Fr h₀ L h' m → News h₀ L h' ((l, listOf vs'.toArray n) :: rest) → Rel2 R vs' (hpfy lt ds) → Q .none (st s h' tk')) :
    wpAny (Mo w) A (call (.ref 42) [.ref l]) Q E (st s h tk) := by
  have hlen := hv.1
  refine' enter [("x", .ref l)] C F N ?k6 ?k7 (lessBy0 hdp) ?k9 ?kB ?c2 ?c3 ?c4 ?c5 ?_
  case k6 => exact rfl
  case k7 => exact rfl
  case k9 => exact rfl
  case c5 => decide
  case kB => exact rfl
  case c2 => exact rfl
  case c3 => exact rfl
  case c4 => exact rfl
  intro g L' h₁ tk₁ F' N' C' Qx hQx
  refine r_assignK fun K hK => (r_callB (r_bname C' F' (ns_len w) boot_len ⟨rfl, args_cons (r_name F' (show _ = some (Value.ref l) from rfl) (args_nil (r_len N' (by omega) fun te _ => r_storeK hK F' N' fun h₂ tk₂ F₂ N₂ => ?_)))⟩))
  refine r_for (h₀ := g) (L := L') (r_callT (r_bname C' F₂ (ns_reversed w) boot_reversed ⟨rfl, args_cons (r_callT (r_bname C' F₂ (ns_range w) boot_range ⟨rfl, args_cons (wpAny_BinOp (r_name F₂ put_eq (r_int fun t1 _ => r_fdiv2 (by omega) (by omega) fun t2 _ => args_nil ?_)))⟩))⟩))
  rw [show ((vs.length : Int) / 2) = ((ds.length / 2 : Nat) : Int) from by omega]
  refine r_range1 F₂ N₂ fun r h₃ t₁ u₁ v₁ F₃ N₃ hr tk₃ => args_nil ?_
  refine r_reversed F₃ N₃ (by omega) (by omega) fun it h₄ F₄ N₄ hit => ?_
  refine r_iterR (N₄ _ (.head _)).1 ?_
  have N₄' : News g L' h₄ ((it, rgIt (((ds.length / 2 : Nat) : Int) - 1) (ds.length / 2 : Nat) (-1)) :: (l, listOf vs.toArray n) :: rest) := Mine.News.sub N₄ fun p hp => by
    rcases List.mem_cons.mp hp with rfl | hp
    · exact .head _
    · exact .tail _ (.tail _ hp)
  have hitl : ∀ p ∈ ((l, listOf vs.toArray n) :: rest), p.1 ≠ it := fun p hp => Nat.ne_of_lt (hit p hp)
  obtain ⟨J, hJ⟩ := hide (fun (i : Nat) (m₁ : Str → Option Value) (nw : List (Addr × Obj)) => ∃ (vs₁ : List Value) (ds₁ : List D), nw = (it, rgIt ((i : Int) - 1) i (-1)) :: (l, listOf vs₁.toArray n) :: rest ∧ Rel2 R vs₁ ds₁ ∧ i ≤ ds₁.length ∧ ds₁.length = ds.length ∧ m₁ "x" = some (.ref l) ∧ hpfyGo lt i ds₁ = hpfy lt ds)
  refine ⟨J,
    h₄, _, _, _, ds.length / 2, rfl, F₄, N₄', (by rw [hJ]; exact ⟨vs, ds, rfl, hv, by omega, rfl, rfl, rfl⟩), ?_⟩
  clear N₄ N₄' F₄ N₃ F₃ F₂ N₂ hr
  rintro i m₁ nw h₅ tk₅ F₅ N₅ j
  rw [hJ] at j
  obtain ⟨vs₁, ds₁, rfl, hv₁, hi₁, hl₁, mx, hgo⟩ := j
  have hitl₁ : ∀ p ∈ ((l, listOf vs₁.toArray n) :: rest), p.1 ≠ it := fun p hp => by
    rcases List.mem_cons.mp hp with rfl | hp
    · exact hitl (l, listOf vs.toArray n) (.head _)
    · exact hitl p (.tail _ hp)
  have hlen₁ := hv₁.1
  cases i with
  | zero =>
    refine r_nextR_end hh F₅ N₅ hitl₁ (by omega) fun h' tk' F₆ N₆ => ?_
    exact wpAny_execs_nil (leaveB hQx F₆ N₆ fun F N => k _ _ _ F N (by rw [← hgo]; exact hv₁))
  | succ i =>
    refine r_nextR F₅ N₅ hitl₁ (by omega) fun t h₆ tk₆ F₆ N₆ => ?_
    refine r_store F₆ N₆ fun h₇ tk₇ F₇ N₇ => ?_
    rw [show (((i + 1 : Nat) : Int) - 1) = (i : Int) from by omega] at F₇
    refine wpAny_execs_cons (wpAny_Expr (r_callK C' (kp70 w) (r_gname C' F₇ (ns_siftup w) ⟨rfl, ?_⟩)))
    refine args_cons (r_name F₇ (put_ne (by decide) mx) (args_cons (r_name F₇ put_eq (args_nil ⟨C'.kin F₇, ?_⟩))))
    have N₇' : News g L' h₇ ((l, listOf vs₁.toArray n) :: (it, rgIt (((i + 1 : Nat) : Int) - 1 + -1) (((i + 1 : Nat) : Int) - 1) (-1)) :: rest) := Mine.News.sub N₇ fun p hp => by
      rcases List.mem_cons.mp hp with rfl | hp
      · exact .tail _ (.head _)
      · rcases List.mem_cons.mp hp with rfl | hp
        · exact .head _
        · exact .tail _ (.tail _ hp)
    have ap' : ∀ p ∈ (it, rgIt (((i + 1 : Nat) : Int) - 1 + -1) (((i + 1 : Nat) : Int) - 1) (-1)) :: rest, p.1 ≠ l := fun p hp => by
      rcases List.mem_cons.mp hp with rfl | hp
      · exact fun e => hitl₁ (l, _) (.head _) e.symm
      · exact ap p hp
    refine siftup_call (i := i) (ds := ds₁) C' F₇ N₇' ap' (show A.depth + 2 < _ from lessBy hdp (by decide)) (show A.units + 33 < _ from lessBy hu (by decide)) (cmp.more _) hv₁ (by omega) (by omega) fun vs' h' tk' F₈ N₈ hv' => ?_
    refine wpAny_execs_nil (r_again (.inl rfl) F₈ (news := (it, rgIt ((i : Int) - 1) i (-1)) :: (l, listOf vs'.toArray n) :: rest) (Mine.News.sub N₈ fun p hp => ?_) (n' := i) (by omega) (by rw [hJ]; exact ⟨vs', su lt ds₁ i, rfl, hv', by rw [su_length _ _ _ (by omega)]; omega, by rw [su_length _ _ _ (by omega)]; exact hl₁, put_ne (by decide) mx, hgo⟩))
    rcases List.mem_cons.mp hp with rfl | hp
    · refine .tail _ ?_
      rw [show (((i + 1 : Nat) : Int) - 1) = (i : Int) from by omega]
      exact .head _
    · rcases List.mem_cons.mp hp with rfl | hp
      · exact .head _
      · exact .tail _ (.tail _ hp)

theorem heapify_max_call {D : Type} [Inhabited D] {w : World} {A : Around} {E : Value → Shared → Prop} {s : Shared} {h : Heap} {tk : Nat} {L l : Addr} {h₀ : Heap} {m : Str → Option Value} {rest : List (Addr × Obj)} {Q : Value → Shared → Prop}
    {vs : List Value} {ds : List D} {n : Nat} {R : Value → D → Prop} {lt : D → D → Bool}
    (C : At w A h₀ L) (hh : A.handled = none) (F : Fr h₀ L h m) (N : News h₀ L h ((l, listOf vs.toArray n) :: rest)) (ap : ∀ p ∈ rest, p.1 ≠ l)
    (hdp : A.depth + 2 < recursionLimit) (hu : A.units + 40 < cLine) (cmp : Cmp w rest R lt) (hv : Rel2 R vs ds) (hsz : ds.length < 1000)
    (k : ∀ vs' h' tk', Fr h₀ L h' m → News h₀ L h' ((l, listOf vs'.toArray n) :: rest) → Rel2 R vs' (hpfy (fun a b => lt b a) ds) → Q .none (st s h' tk')) :
    wpAny (Mo w) A (call (.ref 56) [.ref l]) Q E (st s h tk) := by
  have hlen := hv.1
  refine' enter [("x", .ref l)] C F N ?k6 ?k7 (lessBy0 hdp) ?k9 ?kB ?c2 ?c3 ?c4 ?c5 ?_
  case k6 => exact rfl
  case k7 => exact rfl
  case k9 => exact rfl
  case c5 => decide
  case kB => exact rfl
  case c2 => exact rfl
  case c3 => exact rfl
  case c4 => exact rfl
  intro g L' h₁ tk₁ F' N' C' Qx hQx
  refine r_assignK fun K hK => (r_callB (r_bname C' F' (ns_len w) boot_len ⟨rfl, args_cons (r_name F' (show _ = some (Value.ref l) from rfl) (args_nil (r_len N' (by omega) fun te _ => r_storeK hK F' N' fun h₂ tk₂ F₂ N₂ => ?_)))⟩))
  refine r_for (h₀ := g) (L := L') (r_callT (r_bname C' F₂ (ns_reversed w) boot_reversed ⟨rfl, args_cons (r_callT (r_bname C' F₂ (ns_range w) boot_range ⟨rfl, args_cons (wpAny_BinOp (r_name F₂ put_eq (r_int fun t1 _ => r_fdiv2 (by omega) (by omega) fun t2 _ => args_nil ?_)))⟩))⟩))
  rw [show ((vs.length : Int) / 2) = ((ds.length / 2 : Nat) : Int) from by omega]
  refine r_range1 F₂ N₂ fun r h₃ t₁ u₁ v₁ F₃ N₃ hr tk₃ => args_nil ?_
  refine r_reversed F₃ N₃ (by omega) (by omega) fun it h₄ F₄ N₄ hit => ?_
  refine r_iterR (N₄ _ (.head _)).1 ?_
  have N₄' : News g L' h₄ ((it, rgIt (((ds.length / 2 : Nat) : Int) - 1) (ds.length / 2 : Nat) (-1)) :: (l, listOf vs.toArray n) :: rest) := Mine.News.sub N₄ fun p hp => by
    rcases List.mem_cons.mp hp with rfl | hp
    · exact .head _
    · exact .tail _ (.tail _ hp)
  have hitl : ∀ p ∈ ((l, listOf vs.toArray n) :: rest), p.1 ≠ it := fun p hp => Nat.ne_of_lt (hit p hp)
  obtain ⟨J, hJ⟩ := hide (fun (i : Nat) (m₁ : Str → Option Value) (nw : List (Addr × Obj)) => ∃ (vs₁ : List Value) (ds₁ : List D), nw = (it, rgIt ((i : Int) - 1) i (-1)) :: (l, listOf vs₁.toArray n) :: rest ∧ Rel2 R vs₁ ds₁ ∧ i ≤ ds₁.length ∧ ds₁.length = ds.length ∧ m₁ "x" = some (.ref l) ∧ hpfyGo (fun a b => lt b a) i ds₁ = hpfy (fun a b => lt b a) ds)
  refine ⟨J,
    h₄, _, _, _, ds.length / 2, rfl, F₄, N₄', (by rw [hJ]; exact ⟨vs, ds, rfl, hv, by omega, rfl, rfl, rfl⟩), ?_⟩
  clear N₄ N₄' F₄ N₃ F₃ F₂ N₂ hr
  rintro i m₁ nw h₅ tk₅ F₅ N₅ j
  rw [hJ] at j
  obtain ⟨vs₁, ds₁, rfl, hv₁, hi₁, hl₁, mx, hgo⟩ := j
  have hitl₁ : ∀ p ∈ ((l, listOf vs₁.toArray n) :: rest), p.1 ≠ it := fun p hp => by
    rcases List.mem_cons.mp hp with rfl | hp
    · exact hitl (l, listOf vs.toArray n) (.head _)
    · exact hitl p (.tail _ hp)
  have hlen₁ := hv₁.1
  cases i with
  | zero =>
    refine r_nextR_end hh F₅ N₅ hitl₁ (by omega) fun h' tk' F₆ N₆ => ?_
    exact wpAny_execs_nil (leaveB hQx F₆ N₆ fun F N => k _ _ _ F N (by rw [← hgo]; exact hv₁))
  | succ i =>
    refine r_nextR F₅ N₅ hitl₁ (by omega) fun t h₆ tk₆ F₆ N₆ => ?_
    refine r_store F₆ N₆ fun h₇ tk₇ F₇ N₇ => ?_
    rw [show (((i + 1 : Nat) : Int) - 1) = (i : Int) from by omega] at F₇
    refine wpAny_execs_cons (wpAny_Expr (r_callK C' (kp84 w) (r_gname C' F₇ (ns_siftup_max w) ⟨rfl, ?_⟩)))
    refine args_cons (r_name F₇ (put_ne (by decide) mx) (args_cons (r_name F₇ put_eq (args_nil ⟨C'.kin F₇, ?_⟩))))
    have N₇' : News g L' h₇ ((l, listOf vs₁.toArray n) :: (it, rgIt (((i + 1 : Nat) : Int) - 1 + -1) (((i + 1 : Nat) : Int) - 1) (-1)) :: rest) := Mine.News.sub N₇ fun p hp => by
      rcases List.mem_cons.mp hp with rfl | hp
      · exact .tail _ (.head _)
      · rcases List.mem_cons.mp hp with rfl | hp
        · exact .head _
        · exact .tail _ (.tail _ hp)
    have ap' : ∀ p ∈ (it, rgIt (((i + 1 : Nat) : Int) - 1 + -1) (((i + 1 : Nat) : Int) - 1) (-1)) :: rest, p.1 ≠ l := fun p hp => by
      rcases List.mem_cons.mp hp with rfl | hp
      · exact fun e => hitl₁ (l, _) (.head _) e.symm
      · exact ap p hp
    refine siftup_max_call (i := i) (ds := ds₁) C' F₇ N₇' ap' (show A.depth + 2 < _ from lessBy hdp (by decide)) (show A.units + 33 < _ from lessBy hu (by decide)) (cmp.more _) hv₁ (by omega) (by omega) fun vs' h' tk' F₈ N₈ hv' => ?_
    refine wpAny_execs_nil (r_again (.inl rfl) F₈ (news := (it, rgIt ((i : Int) - 1) i (-1)) :: (l, listOf vs'.toArray n) :: rest) (Mine.News.sub N₈ fun p hp => ?_) (n' := i) (by omega) (by rw [hJ]; exact ⟨vs', su (fun a b => lt b a) ds₁ i, rfl, hv', by rw [su_length _ _ _ (by omega)]; omega, by rw [su_length _ _ _ (by omega)]; exact hl₁, put_ne (by decide) mx, hgo⟩))
    rcases List.mem_cons.mp hp with rfl | hp
    · refine .tail _ ?_
      rw [show (((i + 1 : Nat) : Int) - 1) = (i : Int) from by omega]
      exact .head _
    · rcases List.mem_cons.mp hp with rfl | hp
      · exact .head _
      · exact .tail _ (.tail _ hp)
end

section
open PySem PySem.W PyProof.Rows PySem.Calls PyProof.Rows.LCg
set_option maxRecDepth 100000
set_option maxHeartbeats 8000000
section
variable {w : World} {A : Around} {E : Value → Shared → Prop} {s : Shared} {h : Heap} {tk : Nat} {L : Addr} {h₀ : Heap} {m : Str → Option Value} {news : List (Addr × Obj)}

/-- where a comprehension stands when its first iterator is made; Fin says what is wanted behind it -/
def CompAt (w : World) (A : Around) (h₀ : Heap) (L : Addr) (s : Shared) (env : Env) (e : PySem.Expr) (scope : Scope) (cl : List (Str × Addr)) (Fin : (Str → Option Value) → List (Addr × Obj) → Addr → Addr → Nat → Heap → Prop) (it : Value) (s₂ : Shared) : Prop :=
  ∃ (h₂ : Heap) (tk₂ : Nat) (m₂ : Str → Option Value) (news₂ : List (Addr × Obj)), s₂ = st s h₂ tk₂ ∧ Fr h₀ L h₂ m₂ ∧ News h₀ L h₂ news₂ ∧
    (∀ (h : Heap) (tk : Nat) (Q : Value → Shared → Prop) (E : Value → Shared → Prop), (∀ b o, h₂.get? b = some o → h.get? b = some o) → Q it (st s h tk) → wpAny (Mo w) A (pyIter it) Q E (st s h tk)) ∧
    ∀ (D C : Addr) (oL : Obj) (h₃ : Heap) (tk₃ : Nat) (mC : Str → Option Value), NsObj oL m₂ → L < D → D < C → (∀ p ∈ news₂, p.1 < D) → (∀ p ∈ news₂, p.1 ≠ L) → Fr h₀ C h₃ mC → News h₀ C h₃ ((D, listOf ([] : List Value).toArray 0) :: (L, oL) :: news₂) →
      codeAny (Mo w) A (.compLoop e 0 it (.ref D) (compEnvC scope cl C env)) (fun r s' => match r with
        | .ok .next => ∃ h' tk' mC' news', s' = st s h' tk' ∧ Fr h₀ C h' mC' ∧ News h₀ C h' ((L, oL) :: news') ∧ (∀ p ∈ news', p.1 ≠ L) ∧ Fin m₂ news' D C tk' h'
        | _ => False) (st s h₃ tk₃)

/-- a comprehension's scope opens: the names at hand become one more object of its ledger -/
theorem scope_in {env : Env} {scope : Scope} {cl : List (Str × Addr)} {Q : Env → Shared → Prop} (hcell : ∀ y ∈ scope.names, y.2 ≠ .cell) (hkind : scope.kind = .function) (F : Fr h₀ L h m) (N : News h₀ L h news)
    (k : ∀ C oL h' mC, NsObj oL m → (∀ p ∈ (L, oL) :: news, @LT.lt Nat _ p.1 C) → h₀.get? C = none → (∀ b o, h.get? b = some o → h'.get? b = some o) → Fr h₀ C h' mC → News h₀ C h' ((L, oL) :: news) → Q (newEnv scope C env.globals cl env.qual none .none (some env) builtinsNs) (st s h' tk)) :
    wpAny (Mo w) A (newFunctionEnv scope env.globals cl [] env.qual none .none (some env)) Q E (st s h tk) := by
  obtain ⟨oL, atL, isL⟩ := ns_obj F.ns
  have low : ∀ p ∈ (L, oL) :: news, @LT.lt Nat _ p.1 h.objs.size := List.forall_mem_cons.mpr ⟨Heap.lt_size atL, fun p hp => Heap.lt_size (N p hp).1⟩
  refine wpAny_newFunctionEnv (s := st s h tk) hcell (fun _ q => nomatch q) (fun h' ns far => ?_) hkind
  have keep : ∀ b o, h.get? b = some o → h'.get? b = some o := fun b o e => far.extBut b o (Nat.ne_of_lt (Heap.lt_size e)) (Heap.get?_push_of_some _ e)
  refine k _ oL h' _ isL low (next_is_new F) keep ⟨ns, fun b o e => keep b o (F.keep b o e), Nat.le_of_lt (Nat.lt_of_le_of_lt F.above (Heap.lt_size atL))⟩ (List.forall_mem_cons.mpr ⟨⟨keep _ _ atL, Nat.ne_of_lt (Heap.lt_size atL), Heap.get?_none_of_le F.above⟩, fun p hp => ?_⟩)
  exact ⟨keep _ _ (N p hp).1, Nat.ne_of_lt (low p (.tail _ hp)), (N p hp).2.2⟩
theorem comp_core {env : Env} {elt target iter : PySem.Expr} {ifs : List PySem.Expr} {scope : Scope} {cl : List (Str × Addr)} {pos : Pos} {RR : Value → Addr → Result → Shared → Prop} {it : Value} {s₂ : Shared}
    {Fin : (Str → Option Value) → List (Addr × Obj) → Addr → Addr → Nat → Heap → Prop} (hcell : ∀ y ∈ scope.names, y.2 ≠ .cell) (hkind : scope.kind = .function)
    (c : CompAt w A h₀ L s env (.ListComp elt [⟨target, iter, ifs, 0⟩] scope pos) scope cl Fin it s₂)
    (hRR : ∀ D C h' tk' mC' oL oC m₂ news', NsObj oL m₂ → NsObj oC mC' → h₀.get? C = none → C ≠ L → Fr h₀ L h' m₂ → News h₀ L h' ((C, oC) :: news') → (∀ p ∈ news', p.1 ≠ C) → Fin m₂ news' D C tk' h' → RR (.ref D) C (.ok .next) (st s h' tk')) :
    wpAny (Mo w) A (newList []) (fun acc s₃ => wpAny (Mo w) A (newFunctionEnv scope env.globals cl [] env.qual none .none (some env)) (fun cenv s₄ =>
      codeAny (Mo w) A (.compStart (.ListComp elt [⟨target, iter, ifs, 0⟩] scope pos) 0 it acc { cenv with scope := relabel scope env }) (RR acc cenv.locals) s₄) E s₃) E s₂ := by
  obtain ⟨h₂, tk₂, m₂, news₂, rfl, F, N, self, loop⟩ := c
  have lD : @LT.lt Nat _ L h₂.objs.size := F.ns.lt
  refine newList_NK (s := st s h₂ tk₂) F N (fun h₃ F₃ N₃ up₃ => scope_in hcell hkind F₃ N₃ fun C oL h₄ mC isL low new up₄ F₄ N₄ => ?_) (Nat.zero_le _)
  have lC : @LT.lt Nat _ L C := low _ (.head _)
  have NC : News h₀ C h₄ ((h₂.objs.size, listOf ([] : List Value).toArray 0) :: (L, oL) :: news₂) := fun p hp => N₄ p (by
    rcases List.mem_cons.mp hp with rfl | hp
    · exact .tail _ (.head _)
    rcases List.mem_cons.mp hp with rfl | hp
    · exact .head _
    · exact .tail _ (.tail _ hp))
  have run := loop h₂.objs.size C oL h₄ tk₂ mC isL lD (low _ (.tail _ (.head _))) (fun p hp => Heap.lt_size (N p hp).1) (fun p hp => (N p hp).2.1) F₄ NC
  have done := codeAny_mono run (R' := RR (.ref h₂.objs.size) C) fun r s' hr => by
    match r, hr with
    | .ok .next, ⟨h', tk', mC', news', e, F', N', off, fin⟩ =>
      subst e
      obtain ⟨oC, atC, isC⟩ := ns_obj F'.ns
      refine hRR _ _ h' tk' mC' oL oC m₂ news' isL isC new (Nat.ne_of_gt lC) ⟨isL.ns (N' _ (.head _)).1, F'.keep, F.above⟩ (List.forall_mem_cons.mpr ⟨⟨atC, Nat.ne_of_gt lC, new⟩, fun p hp => ?_⟩) (fun p hp => (N' p (.tail _ hp)).2.1) fin
      exact ⟨(N' p (.tail _ hp)).1, off p hp, (N' p (.tail _ hp)).2.2⟩
  exact codeAny_compStart_list done (self h₄ tk₂ _ _ (fun b o e => up₄ b o (up₃ b o e)) done)

theorem r_comp {env : Env} {elt target iter : PySem.Expr} {ifs : List PySem.Expr} {scope : Scope} {cl : List (Str × Addr)} {pos : Pos} {Q : Value → Shared → Prop}
    (k : wpAny (Mo w) A (eval iter env) (fun xv s₁ => wpAny (Mo w) A (pyIter xv) (fun it s₂ => CompAt w A h₀ L s env (.ListComp elt [⟨target, iter, ifs, 0⟩] scope pos) scope cl
      (fun m₂ news' D _ tk' _ => ∀ h'', Fr h₀ L h'' m₂ → News h₀ L h'' news' → Q (.ref D) (st s h'' tk')) it s₂) E s₁) E (st s h tk))
    (hclos : closureFor scope env = pure cl := by rfl) (hcell : ∀ y ∈ scope.names, y.2 ≠ .cell := by decide) (hkind : scope.kind = .function := by rfl)
    (hnames : ∀ x ∈ scope.names, x.2 = .local → scope.names.lookup x.1 = some .local := by decide) (hs : ∀ x, foldedSetIterable iter env x = pure x := by intro _; rfl) :
    wpAny (Mo w) A (eval (.ListComp elt [⟨target, iter, ifs, 0⟩] scope pos) env) Q E (st s h tk) := by
  rw [eval_ListComp]
  refine wpAny_comprehension_free (use := none) rfl hs hclos hkind hnames (wpAny_mono k (fun xv s₁ h₁ => wpAny_mono h₁ (fun it s₂ h₂ => ?_) fun _ _ e => e) fun _ _ e => e)
  refine comp_core hcell hkind h₂ fun D C h' tk' mC' oL oC m₂ news' hoL hoC hC₀ hCL F N hnC fin => ?_
  refine ⟨mC', hoC.ns (N _ (.head _)).1, fun h'' hs'' => fin h'' (F.change hs'' hCL hC₀) fun p hp => ⟨hs''.extBut _ _ (hnC p hp) (N p (.tail _ hp)).1, (N p (.tail _ hp)).2⟩⟩

theorem r_assignComp {env : Env} {elt target iter : PySem.Expr} {ifs : List PySem.Expr} {scope : Scope} {cl : List (Str × Addr)} {pos py spos : Pos} {y : Str} {rest : List Stmt} {Q : Flow → Shared → Prop}
    (k : wpAny (Mo w) A (eval iter env) (fun xv s₁ => wpAny (Mo w) A (pyIter xv) (fun it s₂ => CompAt w A h₀ L s env (.ListComp elt [⟨target, iter, ifs, 0⟩] scope pos) scope cl
      (fun m₂ news' D C tk' h' => ∀ oC, Fr h₀ L h' m₂ → News h₀ L h' ((C, oC) :: news') → (∀ p ∈ news', p.1 ≠ C) → wpAny (Mo w) A (storeName env y (.ref D)) (fun _ s'' =>
        ∃ h₃ tk₃ m₃ news₃, s'' = st s h₃ tk₃ ∧ Fr h₀ L h₃ m₃ ∧ News h₀ L h₃ ((C, oC) :: news₃) ∧ (∀ p ∈ news₃, p.1 ≠ C) ∧ ∀ h₄, Fr h₀ L h₄ m₃ → News h₀ L h₄ news₃ → wpAny (Mo w) A (execs rest env) Q E (st s h₄ tk₃)) E (st s h' tk')) it s₂) E s₁) E (st s h tk))
    (hsw : swapsWith (.ListComp elt [⟨target, iter, ifs, 0⟩] scope pos) (some (.Name y py)) spos.line env = pure true := by rfl)
    (hclos : closureFor scope env = pure cl := by rfl) (hcell : ∀ y ∈ scope.names, y.2 ≠ .cell := by decide) (hkind : scope.kind = .function := by rfl)
    (hnames : ∀ x ∈ scope.names, x.2 = .local → scope.names.lookup x.1 = some .local := by decide) (hs : ∀ x, foldedSetIterable iter env x = pure x := by intro _; rfl) :
    wpAny (Mo w) A (execs (.Assign [.Name y py] (.ListComp elt [⟨target, iter, ifs, 0⟩] scope pos) spos :: rest) env) Q E (st s h tk) := by
  refine wpAny_execs_cons ?_
  rw [exec_Assign_Name_used _ _ _ _ hsw]
  refine wpAny_bind (wpAny_standAt (wpAny_bind ?_))
  show wpAny _ A (do let _ ← comprehension (.ListComp elt [⟨target, iter, ifs, 0⟩] scope pos) scope env _ (newList []) false (eval iter env) (some (assign (.Name y py) env))) _ _ _
  refine wpAny_bind (wpAny_mono (wpAny_comprehension_free (use := some (assign (.Name y py) env)) (Q := fun _ s' => wpAny (Mo w) A (execs rest env) Q E s') rfl hs hclos hkind hnames
    (wpAny_mono k (fun xv s₁ h₁ => wpAny_mono h₁ (fun it s₂ h₂ => ?_) fun _ _ e => e) fun _ _ e => e)) (fun _ s' hq => wpAny_pure (wpAny_pure hq)) fun _ _ e => e)
  refine comp_core hcell hkind h₂ fun D C h' tk' mC' oL oC m₂ news' hoL hoC hC₀ hCL F N hnC fin => ?_
  show wpAny _ A (assign (.Name y py) env (.ref D)) _ _ _
  refine wpAny_assign_Name (wpAny_mono (fin oC F N hnC) (fun _ s'' h'' => ?_) fun _ _ e => e)
  obtain ⟨h₃, tk₃, m₃, news₃, rfl, F₃, N₃, hnC₃, fin₃⟩ := h''
  refine ⟨mC', hoC.ns (N₃ _ (.head _)).1, fun h₄ hs₄ => fin₃ h₄ (F₃.change hs₄ hCL hC₀) fun p hp => ⟨hs₄.extBut _ _ (hnC₃ p hp) (N₃ p (.tail _ hp)).1, (N₃ p (.tail _ hp)).2⟩⟩
end
end

section
open PySem PySem.W PyProof.Rows PySem.Calls
set_option maxRecDepth 100000
set_option maxHeartbeats 8000000
/-- the table, in its own order: sign, its token, number, its token -/
noncomputable def tabRows : List (Str × Tok × Int × Tok) := [(Str.ofString "!", 400, 54, 398), (Str.ofString "!=", 402, 28, 346), (Str.ofString "%", 404, 24, 338), (Str.ofString "%=", 406, 40, 370), (Str.ofString "&", 408, 19, 328), (Str.ofString "&=", 410, 41, 372), (Str.ofString "(", 412, 7, 304), (Str.ofString ")", 414, 8, 306), (Str.ofString "*", 416, 16, 322), (Str.ofString "**", 418, 35, 360), (Str.ofString "**=", 420, 46, 382), (Str.ofString "*=", 422, 38, 366), (Str.ofString "+", 424, 14, 318), (Str.ofString "+=", 426, 36, 362), (Str.ofString ",", 428, 12, 314), (Str.ofString "-", 430, 15, 320), (Str.ofString "-=", 432, 37, 364), (Str.ofString "->", 434, 51, 392), (Str.ofString ".", 436, 23, 336), (Str.ofString "...", 438, 52, 394), (Str.ofString "/", 440, 17, 324), (Str.ofString "//", 442, 47, 384), (Str.ofString "//=", 444, 48, 386), (Str.ofString "/=", 446, 39, 368), (Str.ofString ":", 448, 11, 312), (Str.ofString ":=", 450, 53, 396), (Str.ofString ";", 452, 13, 316), (Str.ofString "<", 454, 20, 330), (Str.ofString "<<", 456, 33, 356), (Str.ofString "<<=", 458, 44, 378), (Str.ofString "<=", 460, 29, 348), (Str.ofString "=", 462, 22, 334), (Str.ofString "==", 464, 27, 344), (Str.ofString ">", 466, 21, 332), (Str.ofString ">=", 468, 30, 350), (Str.ofString ">>", 469, 34, 358), (Str.ofString ">>=", 470, 45, 380), (Str.ofString "@", 471, 49, 388), (Str.ofString "@=", 472, 50, 390), (Str.ofString "[", 473, 9, 308), (Str.ofString "]", 474, 10, 310), (Str.ofString "^", 475, 32, 354), (Str.ofString "^=", 476, 43, 376), (Str.ofString "{", 477, 25, 340), (Str.ofString "|", 478, 18, 326), (Str.ofString "|=", 479, 42, 374), (Str.ofString "}", 480, 26, 342), (Str.ofString "~", 481, 31, 352)]
/-- the row's signs, by their places in the table -/
noncomputable def rowPl : List Nat := [6, 7, 39, 40, 24, 14, 26, 12, 15, 8, 20, 44, 4, 27, 33, 31, 18, 2, 43, 46, 32, 1, 30, 34, 47, 41, 28, 35, 9, 13, 16, 11, 23, 3, 5, 45, 42, 29, 36, 10, 21, 22, 37, 38, 17, 19, 25, 0]

noncomputable def tabS : List Str := tabRows.map (·.1)
/-- the table's sign at a place -/
noncomputable def sgn (d : Nat) : Str := tabS.getD d default
noncomputable def num (d : Nat) : Int := (tabRows.getD d default).2.2.1
noncomputable def numTok (d : Nat) : Tok := (tabRows.getD d default).2.2.2
noncomputable def entsOf (P : Params) (rows : List (Str × Tok × Int × Tok)) : List DictEntry := rows.map fun r => ⟨PyData.keyHash P r.1, .str r.1 r.2.1, .int r.2.2.1 r.2.2.2⟩
noncomputable def kvOf (rows : List (Str × Tok × Int × Tok)) : List (Str × Value) := rows.map fun r => (r.1, .int r.2.2.1 r.2.2.2)
theorem look97 (P : Params) : (hd.heap_39 P).lookup 97 = some (dictOf (entsOf P tabRows) 48) := rfl
theorem ents_keys (w : World) (rows : List (Str × Tok × Int × Tok)) : PySem.KeysOf (PySem.strKind Challenge.rw_mj0271_01.row.prog w) (entsOf w.params rows).toArray := by
  intro e he
  rw [List.mem_toArray] at he
  obtain ⟨r, _, rfl⟩ := List.mem_map.mp he
  refine ⟨r.1, ?_, rfl⟩
  show Value.isStrOf r.1 (.str r.1 r.2.1) = true
  simp [Value.isStrOf]
theorem ents_pairs (w : World) : ∀ rows : List (Str × Tok × Int × Tok), Pairs (PySem.strKind Challenge.rw_mj0271_01.row.prog w) (entsOf w.params rows) (kvOf rows)
  | [] => .nil
  | r :: rs => .cons (by show Value.isStrOf r.1 (.str r.1 r.2.1) = true; simp [Value.isStrOf]) rfl (ents_pairs w rs)
theorem tab_nodup : (tabRows.map (·.1)).Nodup := by decide +kernel
theorem tabAt {w : World} {h : Heap} (X : (hd.heap_39 w.params).In h) : h.DictAt (PySem.strKind Challenge.rw_mj0271_01.row.prog w) 97 (kvOf tabRows) 48 := by
  refine ⟨_, _, X _ _ (look97 _), ⟨rfl, rfl, rfl⟩, rfl, ents_keys w tabRows, ?_, ?_⟩
  · show Pairs _ (entsOf w.params tabRows).toArray.toList _
    exact ents_pairs w tabRows
  · show ((kvOf tabRows).map (·.1)).Nodup
    have e : (kvOf tabRows).map (·.1) = tabRows.map (·.1) := by unfold kvOf; rw [List.map_map]; rfl
    rw [e]; exact tab_nodup
theorem kv_len : (kvOf tabRows).length = 48 := rfl
theorem kv_at {d : Nat} (h : d < 48) : (kvOf tabRows)[d]? = some (sgn d, .int (num d) (numTok d)) := by
  have h' : d < tabRows.length := h
  unfold kvOf sgn num numTok tabS
  rw [List.getElem?_map, List.getElem?_eq_getElem h']
  simp [List.getD, List.getElem?_map, List.getElem?_eq_getElem h']
theorem sgn_lt : ∀ a < 48, ∀ b < 48, decide ((sgn a).cps.toList < (sgn b).cps.toList) = decide (a < b) := by decide +kernel
theorem sgn_inj : ∀ a < 48, ∀ b < 48, sgn a = sgn b → a = b := by decide +kernel

noncomputable def ltN (a b : Nat) : Bool := decide (a < b)
/-- a value that is the table's sign at d -/
def RS (v : Value) (d : Nat) : Prop := d < 48 ∧ ∃ t, v = .str (sgn d) t
theorem cmpS (w : World) (rest : List (Addr × Obj)) : Cmp w rest RS ltN := ⟨fun {A h₀ L s h tk a b x y Q E} _ _ ra rb k => by
  obtain ⟨hx, t, rfl⟩ := ra
  obtain ⟨hy, u, rfl⟩ := rb
  refine PyProof.Rows.lt_str (s := st s h tk) ?_
  rw [sgn_lt x hx y hy]
  exact k _⟩
end

section
open PySem PySem.W PyProof.Rows PySem.Calls
set_option maxRecDepth 100000
set_option maxHeartbeats 8000000
section
variable {w : World} {A : Around} {E : Value → Shared → Prop} {s : Shared} {h : Heap} {tk : Nat} {L : Addr} {h₀ : Heap} {m : Str → Option Value} {news rest : List (Addr × Obj)}
noncomputable abbrev zpO (f0 : Value) (TI TO : Addr) : Obj := { cls := .type "zip", dict := none, data := .fields #[f0, .bool false, .bool false, .ref TI, .ref TO], slots := #[] }
noncomputable abbrev prO (a b : Value) : Obj := { cls := .type "tuple", data := .seq #[a, b] }

/-- one object of the ledger changes: frame and ledger after it -/
theorem Fr.turn {a : Addr} {o o' : Obj} {h' : Heap} (F : Fr h₀ L h m) (N : News h₀ L h ((a, o) :: rest)) (ap : ∀ p ∈ rest, p.1 ≠ a) (hs : Heap.SameBut a h h') (ho : h'.get? a = some o') :
    Fr h₀ L h' m ∧ News h₀ L h' ((a, o') :: rest) :=
  ⟨F.change hs (N _ (.head _)).2.1 (N _ (.head _)).2.2, Mine.News.turn N ap hs ho⟩

/-- what __next__ gives, nextOf gives -/
theorem draw_of {it : Addr} {Q : Value → Shared → Prop} (c : wpAny (Mo w) A (callSpecial? (.ref it) (Str.ofString "__next__")) (fun r s' => ∃ v, r = some v ∧ Q v s') E s) :
    wpAny (Mo w) A (Builtin.SmallTypes.nextOf (.ref it)) Q E s :=
  wpAny_bind (wpAny_mono c (fun _ _ q => by obtain ⟨_, e, q⟩ := q; subst e; exact wpAny_pure q) fun _ _ q => q)

theorem draw_range {it : Addr} {x left step : Int} {Q : Value → Shared → Prop} (F : Fr h₀ L h m) (N : News h₀ L h ((it, rgIt x left step) :: rest)) (ap : ∀ p ∈ rest, p.1 ≠ it) (hl : 0 < left)
    (k : ∀ t h' tk', Fr h₀ L h' m → News h₀ L h' ((it, rgIt (x + step) (left - 1) step) :: rest) → Q (.int x t) (st s h' tk')) : wpAny (Mo w) A (Builtin.SmallTypes.nextOf (.ref it)) Q E (st s h tk) := by
  have own := (N _ (.head _)).1
  have ty : (st s h tk).TypeIs (.ref it) "range_iterator" := ⟨_, own, rfl⟩
  have law := AutoRange.range_iterator___next___range_iterator_1 it x left step (Int.not_le.mpr hl)
  refine draw_of (wpAny_callSpecial?_slot ty PySem.F.slot_range_iterator_next (call_meets PySem.F.slot_range_iterator_next ty PySem.F.entry_range_iterator_next (PySem.F.args_range_iterator_next_1 _) law ⟨own, ?_⟩))
  have far : Heap.SameBut it h ((h.update it (Obj.mapFields fun v => v.setIfInBounds 0 (rawInt (x + step)))).update it (Obj.mapFields fun v => v.setIfInBounds 1 (rawInt (left - 1)))) := .trans (.update ..) (.update ..)
  have both := Fr.turn (o' := rgIt (x + step) (left - 1) step) F N ap far (Heap.get?_update_self _ (Heap.get?_update_self _ own rfl) rfl)
  exact ⟨_, rfl, k _ _ _ both.1 both.2⟩

theorem draw_key {it : Addr} {oi : Obj} {i : Nat} {Q : Value → Shared → Prop} (X : (hd.heap_39 w.params).In h) (F : Fr h₀ L h m) (N : News h₀ L h ((it, oi) :: rest)) (ap : ∀ p ∈ rest, p.1 ≠ it) (hoi : KdkIter oi 97 i 48 48) (hi : i < 48)
    (k : ∀ key h' oi', RS key i → KdkIter oi' 97 (i + 1) 48 48 → Fr h₀ L h' m → News h₀ L h' ((it, oi') :: rest) → Q key (st s h' tk)) : wpAny (Mo w) A (Builtin.SmallTypes.nextOf (.ref it)) Q E (st s h tk) := by
  refine draw_of (kdk_special (s := st s h tk) (knd := PySem.strKind Challenge.rw_mj0271_01.row.prog w) (kvs := kvOf tabRows) (hoi.at (N _ (.head _)).1) (tabAt X) (kv_at hi) fun key h' hk hit hs => ?_)
  obtain ⟨oi', got, now⟩ := hit
  have both := Fr.turn F N ap hs got
  exact ⟨key, rfl, k key h' oi' ⟨hi, Value.isStrOf_shape hk⟩ now both.1 both.2⟩

/-- StopIteration, new in the ledger -/
theorem News.skip {a b : Addr × Obj} (N : News h₀ L h (a :: b :: rest)) : News h₀ L h (a :: rest) := Mine.News.sub N fun p hp => by
  rcases List.mem_cons.mp hp with rfl | hp
  · exact .head _
  · exact .tail _ (.tail _ hp)
theorem no_first (T : String) : firstArgMember (.type T) [] = pure .none := by simp [firstArgMember]
theorem stop_new {α : Type} {Q : α → Shared → Prop} (hh : A.handled = none) (F : Fr h₀ L h m) (N : News h₀ L h news)
    (k : ∀ e o h', Fr h₀ L h' m → News h₀ L h' ((e, o) :: news) → o.cls = .type "StopIteration" → (∀ p ∈ news, @LT.lt Nat _ p.1 e) → E (.ref e) (st s h' tk)) :
    wpAny (Mo w) A (Builtin.SmallTypes.stopIteration : Sem α) Q E (st s h tk) := by
  unfold Builtin.SmallTypes.stopIteration newExc
  refine wpAny_bind (wpAny_bind (newTuple_N (s := st s h tk) F N fun h₁ F₁ N₁ => ?_))
  rw [no_first]
  refine wpAny_bind (wpAny_pure (wpAny_newObj_type ?_ (by size_fits)))
  exact wpAny_raiseNew_none hh (k _ _ _ (F₁.push _) (News.skip (N₁.push F₁ _)) rfl fun p hp => Heap.lt_size (N₁ p (.tail _ hp)).1)
theorem draw_range_end {it : Addr} {x left step : Int} {Q : Value → Shared → Prop} (hh : A.handled = none) (F : Fr h₀ L h m) (N : News h₀ L h ((it, rgIt x left step) :: rest)) (hl : left ≤ 0)
    (k : ∀ e o h', Fr h₀ L h' m → News h₀ L h' ((e, o) :: (it, rgIt x left step) :: rest) → o.cls = .type "StopIteration" → (∀ p ∈ (it, rgIt x left step) :: rest, @LT.lt Nat _ p.1 e) → E (.ref e) (st s h' tk)) :
    wpAny (Mo w) A (Builtin.SmallTypes.nextOf (.ref it)) Q E (st s h tk) := by
  have own := (N _ (.head _)).1
  have ty : (st s h tk).TypeIs (.ref it) "range_iterator" := ⟨_, own, rfl⟩
  refine draw_of (wpAny_callSpecial?_slot ty PySem.F.slot_range_iterator_next (wpAny_call_entry PySem.F.slot_range_iterator_next ty PySem.F.entry_range_iterator_next ?_ (PySem.F.args_range_iterator_next_1 _)))
  refine wpAny_bind (m := pure _) (wpAny_pure ?_)
  refine wpAny_bind (wpAny_field (i := 0) own rfl rfl (wpAny_bind (wpAny_field (i := 1) own rfl rfl (wpAny_bind (wpAny_field (i := 2) own rfl rfl ?_)))))
  refine wpAny_ite ?_
  rw [if_pos hl]
  exact wpAny_bind (wpAny_rule (wpAny_bind (stop_new (A := A.in1) hh F N k)))

/-- the four objects that a zip's next changes lie apart -/
structure ZA (z TI TO i1 i2 : Addr) : Prop where
  zT : z ≠ TO
  z1 : z ≠ i1
  z2 : z ≠ i2
  T1 : TO ≠ i1
  T2 : TO ≠ i2
  dd : i1 ≠ i2

theorem zip_set {z TI TO : Addr} {f0 y : Value} {Q : Unit → Shared → Prop} (F : Fr h₀ L h m) (N : News h₀ L h ((z, zpO f0 TI TO) :: rest)) (ap : ∀ p ∈ rest, p.1 ≠ z)
    (k : ∀ h', Fr h₀ L h' m → News h₀ L h' ((z, zpO y TI TO) :: rest) → Q () (st s h' tk)) : wpAny (Mo w) A (setField (.ref z) 0 y) Q E (st s h tk) :=
  wpAny_setField_rec (s := st s h tk) (N _ (.head _)).1 (by simp) fun h' got far => have both := Fr.turn F N ap far got; k h' both.1 both.2
theorem zip_given {z TI TO T : Addr} {f0 : Value} {Q : Unit → Shared → Prop} (F : Fr h₀ L h m) (N : News h₀ L h ((z, zpO f0 TI TO) :: rest)) (ap : ∀ p ∈ rest, p.1 ≠ z)
    (k : ∀ h', Fr h₀ L h' m → News h₀ L h' ((z, zpO (rawInt T) TI TO) :: rest) → Q () (st s h' tk)) : wpAny (Mo w) A (Builtin.SmallTypes.ownedTupleHandOut (.ref z) (.ref T)) Q E (st s h tk) :=
  wpAny_bind (zip_set F N ap fun _ F' N' => wpAny_setField_rec (s := st s _ tk) (N' _ (.head _)).1 (by simp) fun h' got far => have both := Fr.turn F' N' ap far got; k h' both.1 both.2)
theorem zip_idle {z TI TO : Addr} {Q : Bool → Shared → Prop} (N : News h₀ L h ((z, zpO .none TI TO) :: rest)) (k : Q true (st s h tk)) : wpAny (Mo w) A (Builtin.SmallTypes.ownedTupleIsFree (.ref z)) Q E (st s h tk) :=
  wpAny_bind (wpAny_field (i := 0) (N _ (.head _)).1 rfl rfl (wpAny_pure k))
/-- a turn of the zip: what is drawn goes to the owned tuple's place -/
theorem zip_drawn {α : Type} {it : Addr} {f : Value → Sem Unit} {g : Option Value → Sem α} {Q : α → Shared → Prop}
    (c : wpAny (Mo w) A (Builtin.SmallTypes.nextOf (.ref it)) (fun v s' => wpAny (Mo w) A (g (some v)) Q E s') (fun e s' => wpAny (Mo w) A (f e) (fun _ s'' => E e s'') E s') s) :
    wpAny (Mo w) A ((do return some (← Builtin.SmallTypes.nextOf (.ref it))).onRaise f >>= g) Q E s :=
  wpAny_bind (wpAny_onRaise (wpAny_bind (wpAny_mono c (fun _ _ q => wpAny_pure q) fun _ _ q => q)))
theorem own_set {TO : Addr} {a b a' b' y : Value} {j : Nat} {Q : Unit → Shared → Prop} (F : Fr h₀ L h m) (N : News h₀ L h ((TO, prO a b) :: rest)) (ap : ∀ p ∈ rest, p.1 ≠ TO) (hj : (#[a, b] : Array Value).setIfInBounds j y = #[a', b'])
    (k : ∀ h', Fr h₀ L h' m → News h₀ L h' ((TO, prO a' b') :: rest) → Q () (st s h' tk)) : wpAny (Mo w) A (updateSeq TO (·.setIfInBounds j y)) Q E (st s h tk) :=
  wpAny_updateSeq_pair (s := st s h tk) (N _ (.head _)).1 fun h' got far => have both := Fr.turn F N ap far (by rw [hj] at got; exact got); k h' both.1 both.2

/-- the next of zip(range, keys): both drawn, the pair handed out -/
theorem zip_step {z TI TO i1 i2 : Addr} {x left step : Int} {i : Nat} {a b : Value} {oi : Obj} {Q : Value → Shared → Prop} (X : (hd.heap_39 w.params).In h₀) (F : Fr h₀ L h m) (D : ZA z TI TO i1 i2)
    (N : News h₀ L h ((z, zpO .none TI TO) :: (TO, prO a b) :: (i1, rgIt x left step) :: (i2, oi) :: rest)) (ap : ∀ p ∈ rest, p.1 ≠ z ∧ p.1 ≠ TO ∧ p.1 ≠ i1 ∧ p.1 ≠ i2) (hTI : (TI, prO (.ref i1) (.ref i2)) ∈ rest)
    (hl : 0 < left) (hoi : KdkIter oi 97 i 48 48) (hi : i < 48)
    (k : ∀ T t key oi' h' tk', RS key i → KdkIter oi' 97 (i + 1) 48 48 → Fr h₀ L h' m → News h₀ L h' ((T, prO (.int x t) key) :: (z, zpO (rawInt T) TI TO) :: (TO, prO (.int x t) key) :: (i1, rgIt (x + step) (left - 1) step) :: (i2, oi') :: rest) →
      z < T → TO < T → i1 < T → i2 < T → (∀ p ∈ rest, p.1 < T) → Q (.ref T) (st s h' tk')) :
    wpAny (Mo w) A (Builtin.«zip.__next__» ⟨[.ref z], []⟩) (fun fin s' => ∃ v, fin = .done (.ret v) ∧ Q v s') E (st s h tk) := by
  have az : ∀ p ∈ rest, p.1 ≠ z := fun p hp => (ap p hp).1
  have aT : ∀ p ∈ rest, p.1 ≠ TO := fun p hp => (ap p hp).2.1
  have a1 : ∀ p ∈ rest, p.1 ≠ i1 := fun p hp => (ap p hp).2.2.1
  have a2 : ∀ p ∈ rest, p.1 ≠ i2 := fun p hp => (ap p hp).2.2.2
  have own := (N _ (.head _)).1
  have its := (N _ (.tail _ (.tail _ (.tail _ (.tail _ hTI))))).1
  -- the record is read
  refine wpAny_bind (m := pure _) (wpAny_pure ?_)
  refine wpAny_bind (wpAny_field (i := 2) (x := .bool false) own rfl rfl (wpAny_bind (wpAny_field (i := 3) (x := .ref TI) own rfl rfl (wpAny_bind (wpAny_seqItems its rfl ?_)))))
  refine wpAny_bind (zip_idle N ?_)
  refine wpAny_bind (wpAny_rule (wpAny_bind (wpAny_field (i := 4) (x := .ref TO) own rfl rfl ?_)))
  refine wpAny_bind (zip_set F N (ap_cons D.zT.symm (ap_cons D.z1.symm (ap_cons D.z2.symm az))) fun h₁ F₁ N₁ => ?_)
  -- first the range, then the keys
  refine wpAny_bind ?_
  rw [show (#[Value.ref i1, Value.ref i2] : Array Value).toList.zipIdx = [(Value.ref i1, 0), (Value.ref i2, 1)] from rfl, List.forIn_cons]
  refine wpAny_bind (zip_drawn (it := i1) (draw_range F₁ (Mine.News.sub N₁ (by walk_at "sub")) (rest := (z, zpO .ellipsis TI TO) :: (TO, prO a b) :: (i2, oi) :: rest) (ap_cons D.z1 (ap_cons D.T1 (ap_cons D.dd.symm a1))) hl fun t h₂ tk₂ F₂ N₂ => ?_))
  refine wpAny_bind (wpAny_seqItems (N₂ (TO, prO a b) (by walk_at "mem")).1 rfl ?_)
  refine wpAny_bind (own_set (a' := .int x t) (b' := b) F₂ (rest := (z, zpO .ellipsis TI TO) :: (i1, rgIt (x + step) (left - 1) step) :: (i2, oi) :: rest) (Mine.News.sub N₂ (by walk_at "sub")) (ap_cons D.zT (ap_cons D.T1.symm (ap_cons D.T2.symm aT))) rfl fun h₃ F₃ N₃ => wpAny_bind (wpAny_letGo (wpAny_pure ?_)))
  dsimp only
  rw [List.forIn_cons]
  refine wpAny_bind (zip_drawn (it := i2) (draw_key (X.keeps F₃.keep) F₃ (rest := (z, zpO .ellipsis TI TO) :: (TO, prO (.int x t) b) :: (i1, rgIt (x + step) (left - 1) step) :: rest) (Mine.News.sub N₃ (by walk_at "sub")) (ap_cons D.z2 (ap_cons D.T2 (ap_cons D.dd a2))) hoi hi fun key h₄ oi' hkey hoi' F₄ N₄ => ?_))
  refine wpAny_bind (wpAny_seqItems (N₄ (TO, prO (.int x t) b) (by walk_at "mem")).1 rfl ?_)
  refine wpAny_bind (own_set (a' := .int x t) (b' := key) F₄ (rest := (z, zpO .ellipsis TI TO) :: (i1, rgIt (x + step) (left - 1) step) :: (i2, oi') :: rest) (Mine.News.sub N₄ (by walk_at "sub")) (ap_cons D.zT (ap_cons D.T1.symm (ap_cons D.T2.symm aT))) rfl fun h₅ F₅ N₅ => wpAny_bind (wpAny_letGo (wpAny_pure ?_)))
  dsimp only
  rw [List.forIn_nil]
  -- the pair is made and handed out
  refine wpAny_pure (wpAny_bind (wpAny_seqItems (N₅ _ (.head _)).1 rfl (wpAny_bind (newTuple_N (s := st s h₅ tk₂) F₅ N₅ fun h₆ F₆ N₆ => ?_))))
  have top : ∀ p ∈ (TO, prO (.int x t) key) :: (z, zpO .ellipsis TI TO) :: (i1, rgIt (x + step) (left - 1) step) :: (i2, oi') :: rest, @LT.lt Nat _ p.1 (st s h₅ tk₂).heap.objs.size := fun p q => Heap.lt_size (N₅ p q).1
  generalize (st s h₅ tk₂).heap.objs.size = T at N₆ top ⊢
  have tz : @LT.lt Nat _ z T := top (z, zpO .ellipsis TI TO) (by walk_at "mem")
  refine wpAny_bind (zip_given (s := s) (tk := tk₂) F₆ (rest := (T, prO (.int x t) key) :: (TO, prO (.int x t) key) :: (i1, rgIt (x + step) (left - 1) step) :: (i2, oi') :: rest) (Mine.News.sub N₆ (by walk_at "sub"))
    (ap_cons (Nat.ne_of_gt tz) (ap_cons D.zT.symm (ap_cons D.z1.symm (ap_cons D.z2.symm az)))) fun h₇ F₇ N₇ => wpAny_pure ⟨_, rfl, k T t key oi' h₇ tk₂ hkey hoi' F₇ (Mine.News.sub N₇ (by walk_at "sub")) tz ?_ ?_ ?_ ?_⟩)
  · exact top _ (.head _)
  · exact top (i1, rgIt (x + step) (left - 1) step) (by walk_at "mem")
  · exact top (i2, oi') (by walk_at "mem")
  · exact fun p hp => top p (.tail _ (.tail _ (.tail _ (.tail _ hp))))

/-- the range is at its end: StopIteration, the zip idle again -/
theorem zip_stop {z TI TO i1 i2 : Addr} {x left step : Int} {a b : Value} {Q : Fin → Shared → Prop} (hh : A.handled = none) (F : Fr h₀ L h m) (D : ZA z TI TO i1 i2)
    (N : News h₀ L h ((z, zpO .none TI TO) :: (TO, prO a b) :: (i1, rgIt x left step) :: rest)) (ap : ∀ p ∈ rest, p.1 ≠ z) (hTI : (TI, prO (.ref i1) (.ref i2)) ∈ rest) (hl : left ≤ 0)
    (k : ∀ e o h', Fr h₀ L h' m → News h₀ L h' ((e, o) :: rest) → o.cls = .type "StopIteration" → E (.ref e) (st s h' tk)) :
    wpAny (Mo w) A (Builtin.«zip.__next__» ⟨[.ref z], []⟩) Q E (st s h tk) := by
  have own := (N _ (.head _)).1
  have its := (N _ (.tail _ (.tail _ (.tail _ hTI)))).1
  have az : ∀ p ∈ (TO, prO a b) :: (i1, rgIt x left step) :: rest, p.1 ≠ z := ap_cons D.zT.symm (ap_cons D.z1.symm ap)
  refine wpAny_bind (m := pure _) (wpAny_pure ?_)
  refine wpAny_bind (wpAny_field (i := 2) (x := .bool false) own rfl rfl (wpAny_bind (wpAny_field (i := 3) (x := .ref TI) own rfl rfl (wpAny_bind (wpAny_seqItems its rfl ?_)))))
  refine wpAny_bind (zip_idle N ?_)
  refine wpAny_bind (wpAny_rule (wpAny_bind (wpAny_field (i := 4) (x := .ref TO) own rfl rfl ?_)))
  refine wpAny_bind (zip_set F N az fun h₁ F₁ N₁ => ?_)
  refine wpAny_bind ?_
  rw [show (#[Value.ref i1, Value.ref i2] : Array Value).toList.zipIdx = [(Value.ref i1, 0), (Value.ref i2, 1)] from rfl, List.forIn_cons]
  refine wpAny_bind (zip_drawn (it := i1) (draw_range_end hh F₁ (Mine.News.sub N₁ (by walk_at "sub")) (rest := (z, zpO .ellipsis TI TO) :: (TO, prO a b) :: rest) hl fun e o h₂ F₂ N₂ ho up => ?_))
  refine zip_set F₂ (rest := (e, o) :: (TO, prO a b) :: (i1, rgIt x left step) :: rest) (Mine.News.sub N₂ (by walk_at "sub")) (ap_cons (Nat.ne_of_gt (up _ (.tail _ (.head _)))) az) fun h₃ F₃ N₃ => k e o h₃ F₃ (Mine.News.sub N₃ (by walk_at "sub")) ho
end
end

section
open PySem PySem.W PyProof.Rows PySem.Calls
set_option maxRecDepth 100000
set_option maxHeartbeats 8000000
section
variable {w : World} {A : Around} {E : Value → Shared → Prop} {s : Shared} {h : Heap} {tk : Nat} {L : Addr} {h₀ : Heap} {m : Str → Option Value} {news : List (Addr × Obj)}
theorem At.kinAt (C : At w A h₀ L) {h' : Heap} (e : ∀ b o, h₀.get? b = some o → h'.get? b = some o) : (hd.heap_39 w.params).In h' := by
  obtain ⟨_, _, _, _, _, _, _, _, _, _, X, _⟩ := C.ex
  exact X.keeps e
/-- the next of zip(range, keys), as a for asks for it -/
theorem r_nextZ {z TI TO i1 i2 : Addr} {x left step : Int} {i : Nat} {a b : Value} {oi : Obj} {rest : List (Addr × Obj)} {Q : Option Value → Shared → Prop} (X : (hd.heap_39 w.params).In h₀) (F : Fr h₀ L h m) (D : ZA z TI TO i1 i2)
    (N : News h₀ L h ((z, zpO .none TI TO) :: (TO, prO a b) :: (i1, rgIt x left step) :: (i2, oi) :: rest)) (ap : ∀ p ∈ rest, p.1 ≠ z ∧ p.1 ≠ TO ∧ p.1 ≠ i1 ∧ p.1 ≠ i2) (hTI : (TI, prO (.ref i1) (.ref i2)) ∈ rest)
    (hl : 0 < left) (hoi : KdkIter oi 97 i 48 48) (hi : i < 48)
    (k : ∀ T t key oi' h' tk', RS key i → KdkIter oi' 97 (i + 1) 48 48 → Fr h₀ L h' m → News h₀ L h' ((T, prO (.int x t) key) :: (z, zpO (rawInt T) TI TO) :: (TO, prO (.int x t) key) :: (i1, rgIt (x + step) (left - 1) step) :: (i2, oi') :: rest) →
      z < T → TO < T → i1 < T → i2 < T → (∀ p ∈ rest, p.1 < T) → Q (some (.ref T)) (st s h' tk')) : wpAny (Mo w) A (pyNext (.ref z)) Q E (st s h tk) := by
  have ty : (st s h tk).TypeIs (.ref z) "zip" := ⟨_, (N _ (.head _)).1, rfl⟩
  refine wpAny_bind (wpAny_attempt (wpAny_callSpecial?_slot (name := Str.ofString "__next__") ty PySem.F.slot_zip_next (wpAny_call_entry PySem.F.slot_zip_next ty PySem.F.entry_zip_next (zip_step X F D N ap hTI hl hoi hi ?_) (PySem.F.args_zip_next_1 _))))
  exact fun T t key oi' h' tk' r1 r2 F' N' l1 l2 l3 l4 l5 => wpAny_pure (k T t key oi' h' tk' r1 r2 F' N' l1 l2 l3 l4 l5)
theorem r_nextZ_end {z TI TO i1 i2 : Addr} {x left step : Int} {a b : Value} {rest : List (Addr × Obj)} {Q : Option Value → Shared → Prop} (hh : A.handled = none) (F : Fr h₀ L h m) (D : ZA z TI TO i1 i2)
    (N : News h₀ L h ((z, zpO .none TI TO) :: (TO, prO a b) :: (i1, rgIt x left step) :: rest)) (ap : ∀ p ∈ rest, p.1 ≠ z ∧ p.1 ≠ i1) (hTI : (TI, prO (.ref i1) (.ref i2)) ∈ rest)
    (hl : left ≤ 0) (k : ∀ h' tk', Fr h₀ L h' m → News h₀ L h' rest → Q none (st s h' tk')) : wpAny (Mo w) A (pyNext (.ref z)) Q E (st s h tk) := by
  have ty : (st s h tk).TypeIs (.ref z) "zip" := ⟨_, (N _ (.head _)).1, rfl⟩
  refine wpAny_bind (wpAny_attempt (wpAny_callSpecial?_slot (name := Str.ofString "__next__") ty PySem.F.slot_zip_next (wpAny_call_entry PySem.F.slot_zip_next ty PySem.F.entry_zip_next (zip_stop (A := A.in1) hh F D N (fun p hp => (ap p hp).1) hTI hl ?_) (PySem.F.args_zip_next_1 _))))
  intro e o h' F' N' ho
  have is : (st s h' tk).TypeIs (.ref e) "StopIteration" := ⟨o, (N' _ (.head _)).1, ho⟩
  exact wpAny_bind (wpAny_isInstance (b := true) is isSubtype_stop (wpAny_pure (k h' tk F' fun p hp => N' p (.tail _ hp))))
/-- the owned tuple goes -/
theorem r_letGoZ {z TI TO T : Addr} {elts : List PySem.Expr} {kk : Nat} {pos : Pos} {rest : List (Addr × Obj)} {Q : Unit → Shared → Prop} (F : Fr h₀ L h m) (N : News h₀ L h ((z, zpO (rawInt T) TI TO) :: rest)) (ap : ∀ p ∈ rest, p.1 ≠ z)
    (k : ∀ h', Fr h₀ L h' m → News h₀ L h' ((z, zpO .none TI TO) :: rest) → Q () (st s h' tk)) : wpAny (Mo w) A (letOwnedTupleGo (.Tuple elts kk pos) (.ref z) (.ref T)) Q E (st s h tk) := by
  have z1 := N _ (.head _)
  exact wpAny_letOwnedTupleGo_zip (s := st s h tk) z1.1 fun h' e hs => k h' (F.change hs z1.2.1 z1.2.2) (Mine.News.turn N ap hs e)
/-- zip(range, it) -/
noncomputable abbrev zkH1 (h : Heap) (a n c : Int) : Heap := h.push (rgIt a n c)
noncomputable abbrev zkH2 (h : Heap) (a n c : Int) (i2 : Addr) : Heap := (zkH1 h a n c).push (prO (.ref h.objs.size) (.ref i2))
noncomputable abbrev zkH3 (h : Heap) (a n c : Int) (i2 : Addr) : Heap := (zkH2 h a n c i2).push (prO .none .none)
noncomputable abbrev zkH4 (h : Heap) (a n c : Int) (i2 : Addr) : Heap := (zkH3 h a n c i2).push (zpO .none (zkH1 h a n c).objs.size (zkH2 h a n c i2).objs.size)
theorem meets_zip_rk (r i2 : Addr) (a b c : Int) (t u v : Tok) (i : Nat) (hs : Builtin.Range.small a b c = true) :
    Meets (Builtin.«zip.__new__» ⟨[.type "zip", .ref r, .ref i2], []⟩) (fun _ R s => IsRange s.heap r a b c t u v ∧ s.heap.IsKeyIter i2 97 i 48 48 ∧
      R (.ok (.ret (.ref (zkH3 s.heap a (Builtin.Range.rangeSize a b c) c i2).objs.size))) { s with heap := zkH4 s.heap a (Builtin.Range.rangeSize a b c) c i2 }) :=
  .of_wp fun prog w A R s h => by
    obtain ⟨hp, g, d, tk, os⟩ := s; obtain ⟨hr, hk, h⟩ := h
    have hsub := sub_zip
    have hL1 : IsRange (Shared.heap ⟨hp, g, d, tk, os⟩) r a b c t u v := hr
    have hL2 : Heap.IsKeyIter (Shared.heap ⟨hp.push (rgIt a (Builtin.Range.rangeSize a b c) c), g, d, tk, os⟩) i2 97 i 48 48 := let ⟨o, e, q⟩ := hk; ⟨o, Heap.get?_push_of_some _ e, q⟩
    wp_walk using wpAny_pyIter_range hL1 hs, wpAny_pyIter_keyiter hL2
    exact ⟨_, rfl, h⟩
theorem r_zip {r i2 : Addr} {a b c : Int} {t u v : Tok} {i n : Nat} {oi : Obj} {rest : List (Addr × Obj)} {Q : Value → Shared → Prop} (hs : Builtin.Range.small a b c = true) (hn : Builtin.Range.rangeSize a b c = (n : Int)) (F : Fr h₀ L h m)
    (N : News h₀ L h ((r, rgOb a b c t u v) :: (i2, oi) :: rest)) (hoi : KdkIter oi 97 i 48 48)
    (k : ∀ z TI TO i1 h', Fr h₀ L h' m → ZA z TI TO i1 i2 → News h₀ L h' ((z, zpO .none TI TO) :: (TO, prO .none .none) :: (i1, rgIt a n c) :: (i2, oi) :: (TI, prO (.ref i1) (.ref i2)) :: rest) → i2 < i1 → (∀ p ∈ rest, p.1 < i1) → i1 < TI → TI < TO → TO < z → Q (.ref z) (st s h' tk)) :
    wpAny (Mo w) A (call (.type "zip") [.ref r, .ref i2]) Q E (st s h tk) := by
  have z1 := N _ (.head _)
  have z2 := N _ (.tail _ (.head _))
  refine callType_new (s := st s h tk) PySem.F.called_zip (by decide) (PySem.F.typeCall_zip_2 _ _) (PySem.F.newCall_zip_2 _ _) (fun obj => PySem.F.args_object_init_3 obj _ _) PySem.F.entry_zip_new
    (meets_zip_rk r i2 a b c t u v i hs) ⟨z1.1, hoi.at z2.1, ⟨_, Heap.get?_push_size _ rfl, rfl⟩, ?_⟩
  show Q (.ref (zkH3 h a (Builtin.Range.rangeSize a b c) c i2).objs.size) (st s (zkH4 h a (Builtin.Range.rangeSize a b c) c i2) tk)
  rw [hn]
  have s1 : (zkH1 h a n c).objs.size = h.objs.size + 1 := Heap.size_push ..
  have s2 : (zkH2 h a n c i2).objs.size = h.objs.size + 2 := by rw [Heap.size_push, s1]
  have s3 : (zkH3 h a n c i2).objs.size = h.objs.size + 3 := by rw [Heap.size_push, s2]
  have F1 := F.push (rgIt a n c)
  have N1 := N.push F (rgIt a n c)
  have F2 := F1.push (prO (.ref h.objs.size) (.ref i2))
  have N2 := N1.push F1 (prO (.ref h.objs.size) (.ref i2))
  have F3 := F2.push (prO .none .none)
  have N3 := N2.push F2 (prO .none .none)
  have F4 := F3.push (zpO .none (zkH1 h a n c).objs.size (zkH2 h a n c i2).objs.size)
  have N4 := N3.push F3 (zpO .none (zkH1 h a n c).objs.size (zkH2 h a n c i2).objs.size)
  have l2 : i2 < h.objs.size := Heap.lt_size z2.1
  have o1 : h.objs.size < (zkH1 h a n c).objs.size := by omega
  have o2 : (zkH1 h a n c).objs.size < (zkH2 h a n c i2).objs.size := by omega
  have o3 : (zkH2 h a n c i2).objs.size < (zkH3 h a n c i2).objs.size := by omega
  refine k _ (zkH1 h a n c).objs.size (zkH2 h a n c i2).objs.size h.objs.size _ F4 ⟨?_, ?_, ?_, ?_, ?_, ?_⟩ (Mine.News.sub N4 fun p hp => ?_) l2 (fun p hp => Heap.lt_size (N p (.tail _ (.tail _ hp))).1) o1 o2 o3
  · exact Nat.ne_of_gt o3
  · exact Nat.ne_of_gt (Nat.lt_trans o1 (Nat.lt_trans o2 o3))
  · exact Nat.ne_of_gt (Nat.lt_trans l2 (Nat.lt_trans o1 (Nat.lt_trans o2 o3)))
  · exact Nat.ne_of_gt (Nat.lt_trans o1 o2)
  · exact Nat.ne_of_gt (Nat.lt_trans l2 (Nat.lt_trans o1 o2))
  · exact Nat.ne_of_gt l2
  · rcases List.mem_cons.mp hp with rfl | hp
    · exact .head _
    rcases List.mem_cons.mp hp with rfl | hp
    · exact .tail _ (.head _)
    rcases List.mem_cons.mp hp with rfl | hp
    · exact .tail _ (.tail _ (.tail _ (.head _)))
    rcases List.mem_cons.mp hp with rfl | hp
    · exact .tail _ (.tail _ (.tail _ (.tail _ (.tail _ (.head _)))))
    rcases List.mem_cons.mp hp with rfl | hp
    · exact .tail _ (.tail _ (.head _))
    · exact .tail _ (.tail _ (.tail _ (.tail _ (.tail _ (.tail _ hp)))))
end
end

section
open PySem PySem.W PyProof.Rows PySem.Calls
set_option maxRecDepth 100000
set_option maxHeartbeats 8000000
/-- a value that is the pair of the table's sign at d and f d -/
def RT (f : Nat → Int) (rest : List (Addr × Obj)) (v : Value) (d : Nat) : Prop := d < 48 ∧ ∃ a t u, v = .ref a ∧ (a, prO (.str (sgn d) t) (.int (f d) u)) ∈ rest
section
variable {w : World} {A : Around} {E : Value → Shared → Prop} {s : Shared}
theorem tuple_lt_pr {x y : Addr} {p q p' q' : Value} {P : PySem.Fin → Shared → Prop} (hx : s.heap.get? x = some (prO p p')) (hy : s.heap.get? y = some (prO q q'))
    (h : wpAny (Mo w) A (eqBool p q) (fun e s' => if e = true then wpAny (Mo w) A (eqBool p' q') (fun e' s'' => e' = true ∧ P (.done (.ret (.bool false))) s'') E s' else wpAny (Mo w) A (richCompare .Lt p q) (fun v s'' => P (.done (.ret v)) s'') E s') E s) :
    wpAny (Mo w) A (Builtin.«tuple.__lt__» ⟨[.ref x, .ref y], []⟩) P E s := by
  show wpAny _ _ (isInstance (.ref y) (.type "tuple") >>= _) _ _ s
  refine wpAny_bind (wpAny_isInstance (T := "tuple") ⟨_, hy, rfl⟩ isSubtype_tuple_tuple ?_)
  simp only [Bool.not_true, Bool.false_eq_true, if_false]
  refine wpAny_bind (wpAny_tupleItemsOf hx rfl ?_)
  refine wpAny_bind (wpAny_tupleItemsOf hy rfl ?_)
  refine wpAny_bind ?_
  show wpAny _ _ (forIn [(p, q), (p', q')] _ _) _ _ _
  simp only [List.forIn_cons, List.forIn_nil]
  refine wpAny_bind (wpAny_bind (wpAny_mono h (fun e s' he => ?_) fun _ _ x => x))
  cases e with
  | true =>
    simp only [if_true] at he
    simp only [Bool.not_true, Bool.false_eq_true, if_false]
    refine wpAny_pure ?_
    refine wpAny_bind (wpAny_bind (wpAny_mono he (fun e' s'' he' => ?_) fun _ _ x => x))
    obtain ⟨rfl, hP⟩ := he'
    simp only [Bool.not_true, Bool.false_eq_true, if_false]
    exact wpAny_pure (wpAny_pure (wpAny_pure hP))
  | false =>
    simp only [Bool.false_eq_true, if_false] at he
    simp only [Bool.not_false, if_true]
    refine wpAny_bind (wpAny_rule (wpAny_bind (wpAny_mono he (fun v s'' hv => ?_) fun _ _ x => x)))
    exact wpAny_bind (wpAny_pure (wpAny_pure (wpAny_pure (wpAny_pure hv))))
theorem sgn_ne {a b : Nat} (ha : a < 48) (hb : b < 48) (h : a ≠ b) : sgn a ≠ sgn b := fun e => h (sgn_inj a ha b hb e)
/-- pairs of the table compare as their places do -/
theorem cmpT (w : World) (f : Nat → Int) (rest : List (Addr × Obj)) : Cmp w rest (RT f rest) ltN := ⟨fun {A h₀ L s h tk a b x y Q E} N hu ra rb k => by
  obtain ⟨hx, ax, t, u, rfl, mx⟩ := ra
  obtain ⟨hy, ay, t', u', rfl, my⟩ := rb
  have ex : (st s h tk).heap.get? ax = some (prO (.str (sgn x) t) (.int (f x) u)) := (N _ mx).1
  have ey : (st s h tk).heap.get? ay = some (prO (.str (sgn y) t') (.int (f y) u')) := (N _ my).1
  refine cmp_ofLt (wpAny_richCompare_same_room (op := .Lt) (T := "tuple") ⟨_, ex, rfl⟩ ⟨_, ey, rfl⟩ PySem.F.slot_tuple_lt
    (wpAny_call_entry PySem.F.slot_tuple_lt ⟨_, ex, rfl⟩ PySem.F.entry_tuple_lt (tuple_lt_pr ex ey ?_) (PySem.F.args_tuple_lt_2 _ _)) (by omega))
  refine wpAny_eqBool_str ?_
  by_cases e : x = y
  · subst e
    rw [decide_eq_true rfl, if_pos rfl]
    refine wpAny_eqBool_int ⟨by simp, _, rfl, (fun e => nomatch e), ?_⟩
    have := k tk
    unfold ltN at this
    rw [decide_eq_false (Nat.lt_irrefl x)] at this
    exact this
  · rw [decide_eq_false (sgn_ne hx hy e), if_neg (by decide)]
    refine PyProof.Rows.lt_str (s := st s h tk) ⟨_, rfl, (fun e => nomatch e), ?_⟩
    rw [sgn_lt x hx y hy]
    exact k _⟩

/-- a sort's tree, run by a plain order; none where it would look outside -/
noncomputable def runO {α : Type} (lt : Nat → Nat → Bool) (n : Nat) : KasT α → Option α
  | .ret a => some a
  | .ask i j k => if i < n ∧ j < n then runO lt n (k (lt i j)) else none
theorem kas_pure {α : Type} {lt : Nat → Nat → Bool} {n : Nat} {cmp : Nat → Nat → (Bool → Shared → Prop) → Shared → Prop} {Q : α → Shared → Prop} (hc : ∀ i j, i < n → j < n → ∀ C : Bool → Shared → Prop, C (lt i j) s → cmp i j C s) :
    ∀ (t : KasT α) {a : α}, runO lt n t = some a → Q a s → t.kasWp cmp Q s
  | .ret b, a, e, h => by cases e; exact h
  | .ask i j k, a, e, h => by
    unfold runO at e
    by_cases hb : i < n ∧ j < n
    · rw [if_pos hb] at e
      exact hc i j hb.1 hb.2 _ (kas_pure hc (k (lt i j)) e h)
    · rw [if_neg hb] at e; cases e

/-- the pairs' kind of sort -/
theorem kindT {f : Nat → Int} {rest : List (Addr × Obj)} (hN : ∀ p ∈ rest, s.heap.get? p.1 = some p.2) : ∀ {vs : List Value} {ds : List Nat}, Rel2 (RT f rest) vs ds → ∃ fs, KatTups s.heap vs fs ∧ fs.length = vs.length ∧ ∀ v ∈ fs, ∃ x t, v = Value.str x t
  | [], _, _ => ⟨[], trivial, rfl, fun _ h => nomatch h⟩
  | v :: vs, [], h => absurd h.1 (by simp)
  | v :: vs, d :: ds, h => by
    obtain ⟨fs, a, b, c⟩ := kindT hN (vs := vs) (ds := ds) ⟨by have := h.1; simpa using this, fun k v' d' h1 h2 => h.2 (k + 1) v' d' h1 h2⟩
    obtain ⟨_, x, t, u, rfl, m⟩ := h.2 0 v d rfl rfl
    exact ⟨.str (sgn d) t :: fs, KatTups.cons (hN _ m) rfl rfl rfl a, by simp [b], fun v hv => by rcases List.mem_cons.mp hv with rfl | hv; exact ⟨_, _, rfl⟩; exact c v hv⟩
theorem keyLtT {f : Nat → Int} {rest : List (Addr × Obj)} (hN : ∀ p ∈ rest, s.heap.get? p.1 = some p.2) {a b : Value} {x y : Nat} (ra : RT f rest a x) (rb : RT f rest b y) {C : Bool → Shared → Prop} (h : C (ltN x y) s) :
    wpAny (Mo w) A (keyLt' (tuples' true) a b) C E s := by
  obtain ⟨hx, ax, t, u, rfl, mx⟩ := ra
  obtain ⟨hy, ay, t', u', rfl, my⟩ := rb
  refine kat_lt (hN _ mx) rfl (hN _ my) rfl ?_
  show KatLex _ _ _ _ _ _ [(Value.str (sgn x) t, Value.str (sgn y) t'), (Value.int (f x) u, Value.int (f y) u')] 0 s
  refine kat_cons (wpAny_eqBool_str ?_)
  by_cases e : x = y
  · subst e
    rw [decide_eq_true rfl]
    refine kat_yes (kat_cons (wpAny_eqBool_int ?_))
    rw [beq_self_eq_true]
    refine kat_yes (kat_nil ?_)
    unfold ltN at h
    rw [decide_eq_false (Nat.lt_irrefl x)] at h
    exact h
  · rw [decide_eq_false (sgn_ne hx hy e)]
    refine kat_no (oneLt_str ?_)
    rw [sgn_lt x hx y hy]
    exact h
end
theorem Rel2.reverse {D : Type} {R : Value → D → Prop} {vs : List Value} {ds : List D} (h : Rel2 R vs ds) : Rel2 R vs.reverse ds.reverse := by
  have hl := h.1
  refine ⟨by simp [hl], fun k v d h1 h2 => ?_⟩
  have hk : k < vs.length := by
    rcases Nat.lt_or_ge k vs.length with q | q
    · exact q
    · rw [List.getElem?_eq_none (by simpa using q)] at h1; cases h1
  rw [List.getElem?_reverse hk] at h1
  rw [List.getElem?_reverse (by omega)] at h2
  exact h.2 _ v d h1 (by rw [hl]; exact h2)
theorem Rel2.pick {D : Type} [Inhabited D] {R : Value → D → Prop} {vs : List Value} {ds : List D} (h : Rel2 R vs ds) (p : List Nat) (hp : ∀ i ∈ p, i < ds.length) : Rel2 R (p.map fun i => vs.getD i Value.none) (p.map fun i => ds.getD i default) := by
  refine ⟨by simp, fun k v d h1 h2 => ?_⟩
  rw [List.getElem?_map] at h1 h2
  cases e : p[k]? with
  | none => rw [e] at h1; cases h1
  | some i =>
    rw [e] at h1 h2
    have hi := hp i (List.mem_of_getElem? e)
    obtain ⟨v', e1, hr⟩ := h.get hi
    simp only [Option.map_some, Option.some.injEq] at h1 h2
    subst h1; subst h2
    rw [show vs.getD i Value.none = v' from by simp [List.getD, e1]]
    exact hr

section
variable {w : World} {A : Around} {E : Value → Shared → Prop} {s : Shared} {h : Heap} {tk : Nat} {L : Addr} {h₀ : Heap} {m : Str → Option Value}
/-- result.sort() of the table's pairs -/
theorem r_sortT {f : Nat → Int} {l : Addr} {rest : List (Addr × Obj)} {vs : List Value} {ds : List Nat} {n : Nat} {p : Array Nat} {Q : Value → Shared → Prop} (F : Fr h₀ L h m) (N : News h₀ L h ((l, listOf vs.toArray n) :: rest)) (ap : ∀ p ∈ rest, p.1 ≠ l)
    (hv : Rel2 (RT f rest) vs ds) (h2 : 2 ≤ ds.length) (h64 : ds.length < 64) (hrun : runO (fun i j => ltN (ds.getD i default) (ds.getD j default)) ds.length (kas_sort ds.length) = some p) (hp : ∀ i ∈ p.toList, i < ds.length)
    (k : ∀ vs' n' h' tk', Fr h₀ L h' m → News h₀ L h' ((l, listOf vs'.toArray n') :: rest) → Rel2 (RT f rest) vs' (p.toList.map fun i => ds.getD i default) → Q .none (st s h' tk')) :
    wpAny (Mo w) A (call (.builtin "list.sort") [.ref l]) Q E (st s h tk) := by
  have hlen := hv.1
  refine kat_lsort (s := st s h tk) (vs := vs) F N (.head ap) (by simp) (by omega) (by omega) fun e1 h' F' N' => ?_
  have hN : ∀ q ∈ rest, ({ st s h tk with heap := h' } : Shared).heap.get? q.1 = some q.2 := fun q hq => (N' q (.tail _ hq)).1
  obtain ⟨fs, a, b, c⟩ := kindT hN hv
  refine kat_kind (T := .type "str") a (by omega) (fun v hv' => ?_) (by decide) ?_
  · obtain ⟨x, t, rfl⟩ := c v hv'
    exact .now
  · rw [show (Value.type "str" != Value.type "tuple") = true from by decide, hlen]
    refine kas_pure (lt := fun i j => ltN (ds.getD i default) (ds.getD j default)) (n := ds.length) (fun i j hi hj C hC => ?_) _ hrun ?_
    · obtain ⟨vi, ei, ri⟩ := hv.get hi
      obtain ⟨vj, ej, rj⟩ := hv.get hj
      show wpAny _ _ (keyLt' (tuples' true) (vs.getD i Value.none) (vs.getD j Value.none)) C _ _
      rw [show vs.getD i Value.none = vi from by simp [List.getD, ei], show vs.getD j Value.none = vj from by simp [List.getD, ej]]
      exact keyLtT hN ri rj hC
    · exact KasFin.intro F' N' (.head ap) fun h'' c F'' N'' => k _ _ _ _ F'' N'' (hv.pick _ hp)

/-- a list of the ledger gets other items -/
theorem r_refill {l : Addr} {rest : List (Addr × Obj)} {xs ys : Array Value} {n : Nat} {Q : Unit → Shared → Prop} (F : Fr h₀ L h m) (N : News h₀ L h ((l, seqObj "list" xs n) :: rest)) (ap : ∀ p ∈ rest, p.1 ≠ l) (hx : xs.size < 1000) (hy : ys.size < 1000)
    (k : ∀ e h', Fr h₀ L h' m → News h₀ L h' ((l, seqObj "list" ys e) :: rest) → Q () (st s h' tk)) : wpAny (Mo w) A (Builtin.List.listUpdate (.ref l) fun _ => ys) Q E (st s h tk) := by
  have big := sizeLine_big
  have both := Fr.turn F N ap (.update ..) (get?_update_seq (N _ (.head _)).1 fun _ => ys)
  exact listUpdate_at (s := st s h tk) (N _ (.head _)).1 rfl (k _ _ both.1 both.2) (by omega) (Nat.le_trans (Nat.le_of_lt hy) (Nat.le_trans big (Nat.le_succ _)))
/-- result.sort(reverse=True) of the table's pairs -/
theorem r_sortTR {f : Nat → Int} {l : Addr} {rest : List (Addr × Obj)} {vs : List Value} {ds : List Nat} {n : Nat} {p : Array Nat} {Q : Value → Shared → Prop} (F : Fr h₀ L h m) (N : News h₀ L h ((l, listOf vs.toArray n) :: rest)) (ap : ∀ p ∈ rest, p.1 ≠ l)
    (hv : Rel2 (RT f rest) vs ds) (h2 : 2 ≤ ds.length) (h64 : ds.length < 64) (hrun : runO (fun i j => ltN (ds.reverse.getD i default) (ds.reverse.getD j default)) ds.length (kas_sort ds.length) = some p) (hp : ∀ i ∈ p.toList, i < ds.length)
    (k : ∀ vs' n' h' tk', Fr h₀ L h' m → News h₀ L h' ((l, listOf vs'.toArray n') :: rest) → Rel2 (RT f rest) vs' (p.toList.map fun i => ds.reverse.getD i default).reverse → Q .none (st s h' tk')) :
    wpAny (Mo w) A (call (.builtin "list.sort") [.ref l] [(Str.ofString "reverse", .bool true)]) Q E (st s h tk) := by
  have hlen := hv.1
  have hsz : vs.toArray.size < 1000 := by rw [List.size_toArray]; omega
  have big := sizeLine_big
  refine wpAny_call_entry_kw slot_list_sort ⟨_, (N _ (.head _)).1, rfl⟩ entry_list_sort ?_ (args_list_sort_rev _ _)
  rw [list_sort_rev]
  -- the list is emptied, its items kept in a tuple
  refine wpAny_bind (listItems_at (N _ (.head _)).1 rfl (wpAny_bind (r_refill F N ap hsz (Nat.zero_lt_succ _) fun e1 h₁ F₁ N₁ => ?_)))
  refine wpAny_bind (seqEpoch_at (N₁ _ (.head _)).1 rfl (wpAny_bind (newTuple_N (s := st s h₁ tk) F₁ N₁ (fun h₂ F₂ N₂ => ?_) (Nat.le_trans (Nat.le_of_lt hsz) big))))
  refine wpAny_bind (newList_N (s := st s h₂ tk) F₂ N₂ (fun H F3 N' => wpAny_holding ?_) (Nat.zero_le _))
  have N3 : News h₀ L H ((l, seqObj "list" #[] e1) :: rest) := fun q hq => N' q (.tail _ (.tail _ hq))
  have two : ¬ vs.toArray.size < 2 := by rw [List.size_toArray]; omega
  dsimp only
  rw [if_neg two, if_neg two, if_pos rfl, if_pos rfl]
  show wpAny (Mo w) A.in1 _ _ E (st s H tk)
  have hN : ∀ q ∈ rest, (st s H tk).heap.get? q.1 = some q.2 := fun q hq => (N3 q (.tail _ hq)).1
  obtain ⟨fs, a, b, c⟩ := kindT hN hv
  refine wpAny_bind (wpAny_rule (wpAny_bind ?_))
  refine kat_kind (T := .type "str") a (by omega) (fun v hv' => ?_) (by decide) ?_
  · obtain ⟨x, t, rfl⟩ := c v hv'
    exact .now
  rw [show (Value.type "str" != Value.type "tuple") = true from by decide]
  have hvr := hv.reverse
  have hz : (vs.toArray.zip vs.toArray).reverse = (vs.reverse.toArray).zip (vs.reverse.toArray) := by
    have := kat_pairs (ks := vs) (vs := vs) true rfl
    rw [if_pos rfl] at this
    exact this
  rw [hz]
  refine wpAny_bind (wpAny_mono (kat_run (ks := vs.reverse) (vs := vs.reverse) (E := E) (κ := tuples' true) (s := st s H tk)
    (Q := fun st' s' => ∃ p' : Array Nat, p'.size = vs.reverse.length ∧ arrOf st' = p'.map (kas_item ((vs.reverse.toArray).zip vs.reverse.toArray)) ∧ failedOf st' = none ∧ p' = p ∧ s' = st s H tk)
    (G := fun p' s' => p' = p ∧ s' = st s H tk) rfl (by simp; omega) (by simp; omega) (fun p' st' s' a1 a2 a3 a4 => ⟨p', a1, a2, a3, a4⟩) ?_) ?_ fun _ _ e => e)
  · rw [List.length_reverse, hlen]
    refine kas_pure (lt := fun i j => ltN (ds.reverse.getD i default) (ds.reverse.getD j default)) (n := ds.length) (fun i j hi hj C hC => ?_) _ hrun ⟨rfl, rfl⟩
    obtain ⟨vi, ei, ri⟩ := hvr.get (k := i) (by simpa using hi)
    obtain ⟨vj, ej, rj⟩ := hvr.get (k := j) (by simpa using hj)
    show wpAny _ _ (keyLt' (tuples' true) (vs.reverse.getD i Value.none) (vs.reverse.getD j Value.none)) C _ _
    rw [show vs.reverse.getD i Value.none = vi from by simp only [List.getD, ei, Option.getD_some], show vs.reverse.getD j Value.none = vj from by simp only [List.getD, ej, Option.getD_some]]
    exact keyLtT hN ri rj hC
  · rintro ⟨⟨⟩, st'⟩ s' ⟨p', hp', har, hf, rfl, rfl⟩
    dsimp only
    have na := N3 _ (.head _)
    have hout := kat_snds (ks := vs.reverse) (vs := vs.reverse) rfl har
    rw [hout]
    have hrv : (List.toArray (p'.toList.map fun i => vs.reverse.getD i Value.none)).reverse = List.toArray (p'.toList.map fun i => vs.reverse.getD i Value.none).reverse := by simp
    rw [hrv]
    refine wpAny_bind (seqEpoch_at na.1 rfl (wpAny_bind (r_refill (ys := (p'.toList.map fun i => vs.reverse.getD i Value.none).reverse.toArray) F3 N3 ap (Nat.zero_lt_succ _) ?_ fun e2 h₄ F₄ N₄ => ?_)))
    · rw [List.size_toArray, List.length_reverse, List.length_map, Array.length_toList, hp', List.length_reverse]; omega
    rw [hf, bne_self_eq_false]
    dsimp only
    rw [if_neg Bool.false_ne_true]
    refine wpAny_pure ⟨_, rfl, k _ e2 h₄ tk F₄ N₄ ?_⟩
    exact (hvr.pick _ (by simpa using hp)).reverse
end
end

section
open PySem PySem.W PyProof.Rows PySem.Calls
set_option maxRecDepth 100000
set_option maxHeartbeats 8000000
section
variable {w : World} {A : Around} {E : Value → Shared → Prop} {s : Shared} {h : Heap} {tk : Nat} {L : Addr} {h₀ : Heap} {m : Str → Option Value} {news : List (Addr × Obj)}
/-! a frame that has cells -/
section
variable {qual : Str} {scope : Scope} {f : Addr} {cdv : Value} {cl : List (Str × Addr)}
theorem x_name {x : Str} {pos : Pos} {v : Value} {Q : Value → Shared → Prop} (F : Fr h₀ L h m) (hv : m x = some v) (k : Q v (st s h tk))
    (hk : scope.kind = .function := by rfl) (hx : (envX qual scope L f cdv cl).kindOf x = some .local := by rfl) (hd : (x == ("__debug__" : Str)) = false := by decide) :
    wpAny (Mo w) A (eval (.Name x pos) (envX qual scope L f cdv cl)) Q E (st s h tk) := nameX_L (s := st s h tk) F hv k hk hx hd
theorem x_cell {x : Str} {pos : Pos} {v : Value} {c : Addr} {o : Obj} {Q : Value → Shared → Prop} (N : News h₀ L h news) (hm : (c, o) ∈ news) (hd : o.data = .cell (some v)) (k : Q v (st s h tk)) (hc : cl.lookup x = some c := by rfl)
    (hk : scope.kind = .function := by rfl) (hx : (envX qual scope L f cdv cl).kindOf x = some .cell := by rfl) (hb : (x == ("__debug__" : Str)) = false := by decide) :
    wpAny (Mo w) A (eval (.Name x pos) (envX qual scope L f cdv cl)) Q E (st s h tk) := nameX_C (s := st s h tk) N hc hm hd k hk hx hb
theorem x_gname {x : Str} {pos : Pos} {v : Value} {Q : Value → Shared → Prop} (C : At w A h₀ L) (F : Fr h₀ L h m) (e : nsIn (hd.heap_39 w.params) mainGlobals x = some (some v)) (k : Q v (st s h tk))
    (hk : scope.kind = .function := by rfl) (hx : (envX qual scope L f cdv cl).kindOf x = some .globalImplicit := by rfl) (hd : (x == ("__debug__" : Str)) = false := by decide) :
    wpAny (Mo w) A (eval (.Name x pos) (envX qual scope L f cdv cl)) Q E (st s h tk) := by
  obtain ⟨_, _, _, _, _, _, _, _, _, _, X, T, _⟩ := C.ex
  exact nameX_K (s := st s h tk) F X (topRead_of T) e k hk hx hd
theorem x_bname {x : Str} {pos : Pos} {v : Value} {Q : Value → Shared → Prop} (C : At w A h₀ L) (F : Fr h₀ L h m) (e : nsIn (hd.heap_39 w.params) mainGlobals x = some none) (hv : bootBuiltins x = some v) (k : Q v (st s h tk))
    (hn : x ≠ "__name__" := by decide) (hk : scope.kind = .function := by rfl) (hx : (envX qual scope L f cdv cl).kindOf x = some .globalImplicit := by rfl) (hd : (x == ("__debug__" : Str)) = false := by decide) :
    wpAny (Mo w) A (eval (.Name x pos) (envX qual scope L f cdv cl)) Q E (st s h tk) := by
  obtain ⟨_, _, _, _, _, _, _, _, _, _, X, T, _⟩ := C.ex
  exact nameX_B (s := st s h tk) F X (topRead_of T) e hv hn k hk hx hd
theorem x_store {x : Str} {v : Value} {Q : Unit → Shared → Prop} (F : Fr h₀ L h m) (N : News h₀ L h news)
    (k : ∀ h' tk', Fr h₀ L h' (put m x v) → News h₀ L h' news → Q () (st s h' tk'))
    (hk : scope.kind = .function := by rfl) (hx : (envX qual scope L f cdv cl).kindOf x = some .local := by rfl) :
    wpAny (Mo w) A (storeName (envX qual scope L f cdv cl) x v) Q E (st s h tk) := storeX_L (s := st s h tk) F N (fun h' F' N' => k h' _ F' N') hk hx
theorem x_storeC {x : Str} {v : Value} {c : Addr} {o : Obj} {v₀ : Option Value} {rest : List (Addr × Obj)} {Q : Unit → Shared → Prop} (F : Fr h₀ L h m) (N : News h₀ L h ((c, o) :: rest)) (ap : ∀ p ∈ rest, p.1 ≠ c) (hd : o.data = .cell v₀)
    (k : ∀ h' o', Fr h₀ L h' m → News h₀ L h' ((c, o') :: rest) → o'.data = .cell (some v) → Q () (st s h' tk)) (hc : cl.lookup x = some c := by rfl)
    (hk : scope.kind = .function := by rfl) (hx : (envX qual scope L f cdv cl).kindOf x = some .cell := by rfl) :
    wpAny (Mo w) A (storeName (envX qual scope L f cdv cl) x v) Q E (st s h tk) := storeX_C (s := st s h tk) F N hc (.head ap) hd (fun h' o' F' N' e => k h' o' F' N' e) hk hx
/-- x = value, and on -/
theorem x_assign {x : Str} {pos' : Pos} {value : PySem.Expr} {pos : Pos} {rest : List Stmt} {env : Env} {Q : Flow → Shared → Prop}
    (k : wpAny (Mo w) A (eval value env) (fun v s₁ => wpAny (Mo w) A (storeName env x v) (fun _ s₂ => wpAny (Mo w) A (execs rest env) Q E s₂) E s₁) E (st s h tk))
    (hs : swapsWith value (some (.Name x pos')) pos.line env = pure false := by rfl) :
    wpAny (Mo w) A (execs (.Assign [.Name x pos'] value pos :: rest) env) Q E (st s h tk) := wpAny_execs_cons (wpAny_Assign_Name k hs)
theorem x_assignK {x : Str} {pos' : Pos} {value : PySem.Expr} {pos : Pos} {rest : List Stmt} {Q : Flow → Shared → Prop}
    (k : ∀ K : Value → Shared → Prop, (∀ v s₁, wpAny (Mo w) A (storeName (envX qual scope L f cdv cl) x v) (fun _ s₂ => wpAny (Mo w) A (execs rest (envX qual scope L f cdv cl)) Q E s₂) E s₁ → K v s₁) → wpAny (Mo w) A (eval value (envX qual scope L f cdv cl)) K E (st s h tk))
    (hs : swapsWith value (some (.Name x pos')) pos.line (envX qual scope L f cdv cl) = pure false := by rfl) :
    wpAny (Mo w) A (execs (.Assign [.Name x pos'] value pos :: rest) (envX qual scope L f cdv cl)) Q E (st s h tk) := x_assign (k _ fun _ _ h => h) hs
theorem x_storeK {x : Str} {v : Value} {rest : List Stmt} {Q : Flow → Shared → Prop} {K : Value → Shared → Prop}
    (hK : ∀ v s₁, wpAny (Mo w) A (storeName (envX qual scope L f cdv cl) x v) (fun _ s₂ => wpAny (Mo w) A (execs rest (envX qual scope L f cdv cl)) Q E s₂) E s₁ → K v s₁) (F : Fr h₀ L h m) (N : News h₀ L h news)
    (k : ∀ h' tk', Fr h₀ L h' (put m x v) → News h₀ L h' news → wpAny (Mo w) A (execs rest (envX qual scope L f cdv cl)) Q E (st s h' tk'))
    (hk : scope.kind = .function := by rfl) (hx : (envX qual scope L f cdv cl).kindOf x = some .local := by rfl) : K v (st s h tk) := hK _ _ (x_store F N k hk hx)
end
/-! a comprehension's frame -/
section
variable {scope : Scope} {cl : List (Str × Addr)} {C : Addr} {env : Env}
theorem c_name {x : Str} {pos : Pos} {v : Value} {Q : Value → Shared → Prop} (F : Fr h₀ C h m) (hv : m x = some v) (k : Q v (st s h tk))
    (hk : (compEnvC scope cl C env).scope.kind = .function := by rfl) (hx : (compEnvC scope cl C env).kindOf x = some .local := by rfl) (hd : (x == ("__debug__" : Str)) = false := by decide) :
    wpAny (Mo w) A (eval (.Name x pos) (compEnvC scope cl C env)) Q E (st s h tk) := wpAny_Name (wpAny_loadName_local hk hx F.ns hv k) hd
theorem c_cell {x : Str} {pos : Pos} {v : Value} {c : Addr} {o : Obj} {Q : Value → Shared → Prop} (N : News h₀ C h news) (hm : (c, o) ∈ news) (hd : o.data = .cell (some v)) (k : Q v (st s h tk)) (hc : cl.lookup x = some c := by rfl)
    (hk : (compEnvC scope cl C env).scope.kind = .function := by rfl) (hx : (compEnvC scope cl C env).kindOf x = some .cell := by rfl) (hb : (x == ("__debug__" : Str)) = false := by decide) :
    wpAny (Mo w) A (eval (.Name x pos) (compEnvC scope cl C env)) Q E (st s h tk) := wpAny_Name (wpAny_loadName_cell hk hx hc ⟨o, N.get hm, hd⟩ k) hb
theorem c_store {x : Str} {v : Value} {px : Pos} {Q : Unit → Shared → Prop} (F : Fr h₀ C h m) (N : News h₀ C h news) (k : ∀ h' tk', Fr h₀ C h' (put m x v) → News h₀ C h' news → Q () (st s h' tk'))
    (hx : (compEnvC scope cl C env).kindOf x = some .local := by rfl) (hp : ((compEnvC scope cl C env).scope.kind == .class || ((compEnvC scope cl C env).scope.kind == .module && (compEnvC scope cl C env).locals != (compEnvC scope cl C env).globals)) = false := by rfl) :
    wpAny (Mo w) A (assign (.Name x px) (compEnvC scope cl C env) v) Q E (st s h tk) :=
  wpAny_assign_Name (wpAny_storeName_local hx F.ns (fun h' hn hs => k h' _ (F.set hn hs) (N.set hs)) hp)
theorem c_store2 {a b : Str} {pa pb tp : Pos} {kk : Nat} {T : Addr} {x y : Value} {Q : Unit → Shared → Prop} (hh : A.handled = none) (F : Fr h₀ C h m) (N : News h₀ C h news) (hT : (T, prO x y) ∈ news)
    (k : ∀ h' tk', Fr h₀ C h' (put (put m a x) b y) → News h₀ C h' news → Q () (st s h' tk'))
    (ha : (compEnvC scope cl C env).kindOf a = some .local := by rfl) (hb : (compEnvC scope cl C env).kindOf b = some .local := by rfl)
    (hp : ((compEnvC scope cl C env).scope.kind == .class || ((compEnvC scope cl C env).scope.kind == .module && (compEnvC scope cl C env).locals != (compEnvC scope cl C env).globals)) = false := by rfl) :
    wpAny (Mo w) A (assign (.Tuple [.Name a pa, .Name b pb] kk tp) (compEnvC scope cl C env) (.ref T)) Q E (st s h tk) := by
  refine kcp_assign (s := st s h tk) hh ⟨_, (N _ hT).1, rfl, _, rfl⟩ ha hb hp F.ns fun h' tk' hn hk => k h' tk' ?_ fun p hp' => ⟨hk _ _ (N p hp').2.1 (N p hp').1, (N p hp').2⟩
  exact ⟨hn, fun b o e => hk b o (fun q => Nat.lt_irrefl _ (Nat.lt_of_lt_of_le (Heap.lt_size e) (by rw [q]; exact F.above))) (F.keep b o e), F.above⟩
end

theorem enterC {Q : Value → Shared → Prop}
    {name qual : Str} {params : Arguments} {body : List Stmt} {scope : Scope} {dV kV doc pm cdv ct oc : Value} {an od : Option Addr} {osl : Array (Option Value)} {f : Addr} {args : List Value} (binds : List (Str × Value))
    (C : At w A h₀ L) (F : Fr h₀ L h m) (N : News h₀ L h news)
    (ho : (hd.heap_39 w.params).lookup f = some ⟨oc, od, .func (fnOf name qual params body scope dV kV doc pm an cdv ct), osl⟩) (hcd : codeIn (hd.heap_39 w.params) cdv qual = true) (hroom : A.depth < recursionLimit)
    (hbind : BindsTo (st s h tk) (fnOf name qual params body scope dV kV doc pm an cdv ct) ⟨args, []⟩ binds)
    (hkind : (binds.all fun y => scope.names.lookup y.1 == some .local || scope.names.lookup y.1 == some .cell) = true) (hnd : ((cellsFrom 0 scope.names []).map (·.1)).Nodup)
    (hco : scope.isCoroutine = false) (hgen : scope.isGenerator = false) (hk : scope.kind = .function)
    (k : ∀ g L' h₁ tk₁ cells, Fr g L' h₁ (bindL (envOfC qual scope L' f cdv).kindOf binds fun _ => none) → News g L' h₁ (cells ++ news) →
      CellsAre (bindC (envOfC qual scope L' f cdv).kindOf binds fun _ => none) (cellsFrom (L' + 1) scope.names []) cells → At w (A.deeper (envOfC qual scope L' f cdv)) g L' → (∀ p ∈ news, p.1 < L') → ∀ Qx, Qx = Lv h₀ L m g Q E →
      wpAny (Mo w) (A.deeper (envOfC qual scope L' f cdv)) (execs body (envOfC qual scope L' f cdv))
        Qx (fun _ _ => False) (st s h₁ tk₁)) :
    wpAny (Mo w) A (call (.ref f) args) Q E (st s h tk) := by
  obtain ⟨A₀, base, outer, env, p, loose, mean, mg, mb, B, X, T, hA, hf, hke⟩ := C.ex
  refine wpAny_call (code_defC (s := st s h tk) B F X N T hA hf hke ho hcd hroom hbind hkind hnd (fun g L' h₁ tk₁ cells _ F' N' Y B' X' T' l => ?_) hco hgen hk)
  refine wpAny_mono (k g L' h₁ tk₁ cells F' N' Y ⟨_, _, _, envOfC qual scope L' f cdv, _, _, _, _, _, B', X', T', ?_, rfl, hk⟩ l _ rfl) (fun _ _ x => x) fun _ _ x => x.elim
  show (A.frames.map _) = _
  rw [hA]; rfl

/-- iter of the table -/
noncomputable abbrev kit (i : Nat) : Obj := { cls := .type "dict_keyiterator", data := .fields #[.ref 97, .int i 0, .int 48 0, .int 48 0] }
/-- iter(v) gives what v's own __iter__ gives -/
theorem iter_gives {s : Shared} {v : Value} {Q : Value → Shared → Prop} (c : wpAny (Mo w) A.in1 (pyIter v) Q E s) : wpAny (Mo w) A (call (.builtin "iter") [v]) Q E s := by
  refine call_function_entry (by decide +kernel) (by decide +kernel) kdk_entry_iter (kdk_args_iter v) ?_
  refine wpAny_bind (m := pure [v]) (wpAny_pure ?_)
  exact wpAny_bind (wpAny_mono c (fun x _ q => wpAny_pure ⟨x, rfl, q⟩) fun _ _ q => q)
theorem r_iterD {Q : Value → Shared → Prop} (X : (hd.heap_39 w.params).In h) (F : Fr h₀ L h m) (N : News h₀ L h news)
    (k : ∀ I h' oI, Fr h₀ L h' m → News h₀ L h' ((I, oI) :: news) → (∀ p ∈ news, p.1 < I) → KdkIter oI 97 0 48 48 → Q (.ref I) (st s h' tk)) :
    wpAny (Mo w) A (call (.builtin "iter") [.ref 97]) Q E (st s h tk) :=
  iter_gives (wpAny_pyIter_dict (s := st s h tk) (by decide) (tabAt X) (k _ _ _ (F.push _) (N.push F _) (fun p hp => Heap.lt_size (N p hp).1) ⟨rfl, rfl⟩))
theorem r_iterK {it : Addr} {oi : Obj} {i : Nat} {Q : Value → Shared → Prop} (hoi : KdkIter oi 97 i 48 48) (hit : h.get? it = some oi) (k : Q (.ref it) (st s h tk)) : wpAny (Mo w) A (pyIter (.ref it)) Q E (st s h tk) :=
  wpAny_pyIter_keyiter (s := st s h tk) (hoi.at hit) k
theorem r_nextK {it : Addr} {oi : Obj} {i : Nat} {rest : List (Addr × Obj)} {Q : Option Value → Shared → Prop} (X : (hd.heap_39 w.params).In h) (F : Fr h₀ L h m) (N : News h₀ L h ((it, oi) :: rest)) (ap : ∀ p ∈ rest, p.1 ≠ it) (hoi : KdkIter oi 97 i 48 48) (hi : i < 48)
    (k : ∀ key h' oi', RS key i → KdkIter oi' 97 (i + 1) 48 48 → Fr h₀ L h' m → News h₀ L h' ((it, oi') :: rest) → Q (some key) (st s h' tk)) : wpAny (Mo w) A (pyNext (.ref it)) Q E (st s h tk) := by
  have z := N _ (.head _)
  refine wpAny_pyNext_dict_item (s := st s h tk) (knd := PySem.strKind Challenge.rw_mj0271_01.row.prog w) (kvs := kvOf tabRows) (ep := 48) (i := i) (hoi.at z.1) (tabAt X) (kv_at hi) fun key h' hk hit hs => ?_
  obtain ⟨oi', e, r⟩ := hit
  exact k key h' oi' ⟨hi, Value.isStrOf_shape hk⟩ r (F.change hs z.2.1 z.2.2) (Mine.News.turn N ap hs e)
theorem r_nextK_end {it : Addr} {oi : Obj} {rest : List (Addr × Obj)} {Q : Option Value → Shared → Prop} (hh : A.handled = none) (X : (hd.heap_39 w.params).In h) (F : Fr h₀ L h m) (N : News h₀ L h ((it, oi) :: rest)) (ap : ∀ p ∈ rest, p.1 ≠ it) (hoi : KdkIter oi 97 48 48 48)
    (k : ∀ h', Fr h₀ L h' m → News h₀ L h' rest → Q none (st s h' tk)) : wpAny (Mo w) A (pyNext (.ref it)) Q E (st s h tk) := by
  have z := N _ (.head _)
  refine wpAny_pyNext_dict_end (s := st s h tk) (knd := PySem.strKind Challenge.rw_mj0271_01.row.prog w) (kvs := kvOf tabRows) (ep := 48) (i := 48) hh (hoi.at z.1) (tabAt X) rfl fun h' e => k h' ?_ fun p hp => ⟨e _ _ (ap p hp) (N p (.tail _ hp)).1, (N p (.tail _ hp)).2⟩
  obtain ⟨oL, a1, a2, hL, a3⟩ := F.ns
  exact ⟨⟨oL, a1, a2, e _ _ (fun h => z.2.1 h.symm) hL, a3⟩, fun b o q => e b o (fun h => absurd (h ▸ q) (by rw [z.2.2]; simp)) (F.keep b o q), F.above⟩
theorem r_pair {a b : Value} {Q : Value → Shared → Prop} (F : Fr h₀ L h m) (N : News h₀ L h news) (k : ∀ T h', Fr h₀ L h' m → News h₀ L h' ((T, prO a b) :: news) → (∀ p ∈ news, p.1 < T) → Q (.ref T) (st s h' tk)) :
    wpAny (Mo w) A (newTuple [a, b]) Q E (st s h tk) := newTuple_N (s := st s h tk) F N fun h' F' N' => k _ h' F' N' fun p hp => Heap.lt_size (N p hp).1
end
end

section
open PySem PySem.W PyProof.Rows PySem.Calls
set_option maxRecDepth 100000
set_option maxHeartbeats 8000000
def LiIt (o : Obj) (l : Addr) (i : Nat) : Prop := o.cls = .type "list_iterator" ∧ o.data = .fields #[.ref l, .int i 0]
section
variable {w : World} {A : Around} {E : Value → Shared → Prop} {s : Shared} {h : Heap} {tk : Nat} {L : Addr} {h₀ : Heap} {m : Str → Option Value} {news : List (Addr × Obj)}
theorem fr_extBut {it : Addr} {h' : Heap} (F : Fr h₀ L h m) (e : Heap.ExtBut it h h') (z1 : it ≠ L) (z2 : h₀.get? it = none) : Fr h₀ L h' m := by
  obtain ⟨oL, a1, a2, hL, a3⟩ := F.ns
  exact ⟨⟨oL, a1, a2, e _ _ (Ne.symm z1) hL, a3⟩, fun b o q => e b o (fun h => absurd (h ▸ q) (by rw [z2]; simp)) (F.keep b o q), F.above⟩
theorem r_iterL {l : Addr} {vs : List Value} {n : Nat} {Q : Value → Shared → Prop} (F : Fr h₀ L h m) (N : News h₀ L h news) (hm : (l, listOf vs.toArray n) ∈ news)
    (k : ∀ I h' oI, Fr h₀ L h' m → News h₀ L h' ((I, oI) :: news) → (∀ p ∈ news, p.1 < I) → L < I → LiIt oI l 0 → Q (.ref I) (st s h' tk)) : wpAny (Mo w) A (pyIter (.ref l)) Q E (st s h tk) :=
  wpAny_pyIter_list (s := st s h tk) (PySem.IsL.isList (n := n) (N _ hm).1) (k _ _ _ (F.push _) (N.push F _) (fun p hp => Heap.lt_size (N p hp).1) F.ns.lt ⟨rfl, rfl⟩)
theorem r_selfL {l it : Addr} {oI : Obj} {i : Nat} {Q : Value → Shared → Prop} (hit : h.get? it = some oI) (ho : LiIt oI l i) (k : Q (.ref it) (st s h tk)) : wpAny (Mo w) A (pyIter (.ref it)) Q E (st s h tk) :=
  wpAny_pyIter_listiter (s := st s h tk) ⟨oI, hit, ho⟩ k
theorem r_nextL {l it : Addr} {vs : List Value} {n i : Nat} {oI : Obj} {x : Value} {rest : List (Addr × Obj)} {Q : Option Value → Shared → Prop} (F : Fr h₀ L h m) (N : News h₀ L h ((it, oI) :: rest)) (ap : ∀ p ∈ rest, p.1 ≠ it) (hm : (l, listOf vs.toArray n) ∈ rest) (ho : LiIt oI l i) (hx : vs[i]? = some x)
    (k : ∀ h' oI', Fr h₀ L h' m → News h₀ L h' ((it, oI') :: rest) → LiIt oI' l (i + 1) → Q (some x) (st s h' tk)) : wpAny (Mo w) A (pyNext (.ref it)) Q E (st s h tk) := by
  have z := N _ (.head _)
  refine wpAny_pyNext_list_item (s := st s h tk) ⟨oI, z.1, ho⟩ (PySem.IsL.isList (n := n) (N _ (.tail _ hm)).1) (by simpa using hx) fun h' hit hs => ?_
  obtain ⟨oI', e, r⟩ := hit
  exact k h' oI' (F.change hs z.2.1 z.2.2) (Mine.News.turn N ap hs e) r
theorem r_nextL_end {l it : Addr} {vs : List Value} {n i : Nat} {oI : Obj} {rest : List (Addr × Obj)} {Q : Option Value → Shared → Prop} (hh : A.handled = none) (F : Fr h₀ L h m) (N : News h₀ L h ((it, oI) :: rest)) (ap : ∀ p ∈ rest, p.1 ≠ it) (hm : (l, listOf vs.toArray n) ∈ rest) (ho : LiIt oI l i) (hx : vs.length ≤ i)
    (k : ∀ h', Fr h₀ L h' m → News h₀ L h' rest → Q none (st s h' tk)) : wpAny (Mo w) A (pyNext (.ref it)) Q E (st s h tk) := by
  have z := N _ (.head _)
  exact wpAny_pyNext_list_end (s := st s h tk) hh ⟨oI, z.1, ho⟩ (PySem.IsL.isList (n := n) (N _ (.tail _ hm)).1) (by simpa using hx) fun h' e => k h' (fr_extBut F e z.2.1 z.2.2) fun p hp => ⟨e _ _ (ap p hp) (N p (.tail _ hp)).1, (N p (.tail _ hp)).2⟩
theorem r_pair' {a b : Value} {Q : Value → Shared → Prop} (F : Fr h₀ L h m) (N : News h₀ L h news) (k : ∀ T h', Fr h₀ L h' m → News h₀ L h' ((T, prO a b) :: news) → (∀ p ∈ news, p.1 < T) → L < T → Q (.ref T) (st s h' tk)) :
    wpAny (Mo w) A (newTuple [a, b]) Q E (st s h tk) := newTuple_N (s := st s h tk) F N fun h' F' N' => k _ h' F' N' (fun p hp => Heap.lt_size (N p hp).1) F.ns.lt
/-- t[0] of a pair -/
theorem pairItem0 {T : Addr} {value slice : PySem.Expr} {a b : Value} {u : Tok} {Q : Value → Shared → Prop} (N : News h₀ L h news) (hm : (T, prO a b) ∈ news) (k : Q a (st s h tk))
    (hs : subscripted slice false (.ref T) (.int 0 u) = operate [.ref T, .int 0 u] (getItem (.ref T) (.int 0 u)) := by with_unfolding_all rfl) :
    wpAny (Mo w) A (subscriptTail value slice (.ref T) (.int 0 u)) Q E (st s h tk) :=
  tail_any (s := st s h tk) (T := "tuple") ⟨_, (N _ hm).1, rfl⟩ PySem.F.slot_tuple_getitem.lookup (getItem_tuple (j := 0) ⟨_, (N _ hm).1, rfl, _, rfl⟩ (by decide) (by decide) rfl rfl k) hs
theorem item' {l : Addr} {value slice : PySem.Expr} {vs : List Value} {n : Nat} {k : Nat} {u : Tok} {x : Value} {Q : Value → Shared → Prop}
    (N : News h₀ L h news) (hm : (l, listOf vs.toArray n) ∈ news) (hx : vs[k]? = some x) (hfit : k < 1000) (kk : Q x (st s h tk))
    (hs : subscripted slice false (.ref l) (.int k u) = operate [.ref l, .int k u] (getItem (.ref l) (.int k u)) := by with_unfolding_all rfl) (hg : ∀ r, letTemporaryGo value (.ref l) r = pure () := by intro _; with_unfolding_all rfl) :
    wpAny (Mo w) A (subscriptTail value slice (.ref l) (.int k u)) Q E (st s h tk) :=
  kim_list (s := st s h tk) N hm rfl rfl (Int.natCast_nonneg k) (by omega) (by simpa using hx) kk hs hg
theorem RT.mono {f : Nat → Int} {r₁ r₂ : List (Addr × Obj)} (hs : ∀ p ∈ r₁, p ∈ r₂) {v : Value} {d : Nat} (h : RT f r₁ v d) : RT f r₂ v d :=
  let ⟨a, b, c, e, r, q⟩ := h; ⟨a, b, c, e, r, hs _ q⟩
theorem Rel2.mono {D : Type} {R R' : Value → D → Prop} {vs : List Value} {ds : List D} (h : Rel2 R vs ds) (hr : ∀ v d, R v d → R' v d) : Rel2 R' vs ds := ⟨h.1, fun k v d a b => hr v d (h.2 k v d a b)⟩
theorem Cmp.sub {D : Type} {r₁ r₂ : List (Addr × Obj)} {R : Value → D → Prop} {lt : D → D → Bool} (c : Cmp w r₁ R lt) (hs : ∀ p ∈ r₁, p ∈ r₂) : Cmp w r₂ R lt :=
  ⟨fun N u ra rb k => c.ok (fun q hq => N q (hs q hq)) u ra rb k⟩
theorem r_lenD {Q : Value → Shared → Prop} (X : (hd.heap_39 w.params).In h) (k : ∀ t tk', Q (.int 48 t) (st s h tk')) : wpAny (Mo w) A (call (.builtin "len") [.ref 97]) Q E (st s h tk) := by
  exact call_len_dict (s := st s h tk) (knd := PySem.strKind Challenge.rw_mj0271_01.row.prog w) (kvs := kvOf tabRows) (by decide) (tabAt X).dictOf (by rw [kv_len]; decide) (k _ _)
end
end

section
open PySem PySem.W PyProof.Rows PySem.Calls
set_option maxRecDepth 100000
set_option maxHeartbeats 8000000
theorem buildLoop {w : World} {A : Around} {s : Shared} {g : Heap} {L C D z TI TO i1 i2 : Addr} {oL oi : Obj} {h₃ : Heap} {tk₃ n : Nat} {c : Int} {mC : Str → Option Value} {base : List (Addr × Obj)} {scope : Scope} {cl : List (Str × Addr)} {env : Env} {iter : PySem.Expr} {pos tp pa pb tp2 pa2 pb2 : Pos} {kk kk2 : Nat}
    {R : Result → Shared → Prop}
    (hh : A.handled = none) (X : (hd.heap_39 w.params).In g) (hk : (compEnvC scope cl C env).scope.kind = .function) (hi : (compEnvC scope cl C env).kindOf "i" = some .local) (he : (compEnvC scope cl C env).kindOf "elem" = some .local)
    (hp : ((compEnvC scope cl C env).scope.kind == .class || ((compEnvC scope cl C env).scope.kind == .module && (compEnvC scope cl C env).locals != (compEnvC scope cl C env).globals)) = false)
    (F : Fr g C h₃ mC) (Z : ZA z TI TO i1 i2) (hoi : KdkIter oi 97 0 48 48) (hn : n ≤ 48)
    (N : News g C h₃ ((D, listOf ([] : List Value).toArray 0) :: (L, oL) :: (z, zpO .none TI TO) :: (TO, prO .none .none) :: (i1, rgIt 0 n c) :: (i2, oi) :: (TI, prO (.ref i1) (.ref i2)) :: base))
    (hbase : ∀ p ∈ base, @LT.lt Nat _ p.1 i2) (o1 : @LT.lt Nat _ i2 i1) (o2 : @LT.lt Nat _ i1 TI) (o3 : @LT.lt Nat _ TI TO) (o4 : @LT.lt Nat _ TO z) (o5 : @LT.lt Nat _ z D) (o6 : @LT.lt Nat _ D C) (oL6 : @LT.lt Nat _ L i2)
    (fin : ∀ h' tk' m' vs e oi' tups, Fr g C h' m' → News g C h' ((L, oL) :: (D, listOf vs.toArray e) :: (i2, oi') :: (tups ++ base)) → KdkIter oi' 97 n 48 48 → Rel2 (RT (fun i => (i : Int) * c) tups) vs (List.range n) → (∀ p ∈ tups, @LT.lt Nat _ C p.1) → R (.ok .next) (st s h' tk')) :
    codeAny (Mo w) A (.compLoop (.ListComp (.Tuple [.Name "elem" pa2, .Name "i" pb2] kk2 tp2) [⟨.Tuple [.Name "i" pa, .Name "elem" pb] kk tp, iter, [], 0⟩] scope pos) 0 (.ref z) (.ref D) (compEnvC scope cl C env)) R (st s h₃ tk₃) := by
  obtain ⟨J, hJ⟩ := hide (fun (k : Nat) (s' : Shared) => ∃ i h' tk' m' vs e oi' a b tups, i ≤ n ∧ k = n + 1 - i ∧ s' = st s h' tk' ∧ Fr g C h' m' ∧
    News g C h' ((z, zpO .none TI TO) :: (TO, prO a b) :: (i1, rgIt ((i : Int) * c) ((n - i : Nat) : Int) c) :: (i2, oi') :: (TI, prO (.ref i1) (.ref i2)) :: (D, listOf vs.toArray e) :: (L, oL) :: (tups ++ base)) ∧
    KdkIter oi' 97 i 48 48 ∧ Rel2 (RT (fun i => (i : Int) * c) tups) vs (List.range i) ∧ (∀ p ∈ tups, @LT.lt Nat _ C p.1))
  refine kcp_loop J ?_ (n + 1) ?_
  · rintro k s' j
    rw [hJ] at j
    obtain ⟨i, h', tk', m', vs, e, oi', a, b, tups, hin, rfl, rfl, F', N', hoi', hv, htups⟩ := j
    have hlv := hv.1
    rw [List.length_range] at hlv
    by_cases hlt : i < n
    · refine r_nextZ X F' Z N' (by walk_at "apart") (.head _) (by omega) hoi' (Nat.lt_of_lt_of_le hlt hn) fun T t key oi2 h₄ tk₄ hkey hoi2 F₄ N₄ t1 t2 t3 t4 t5 => ?_
      have u1 : @LT.lt Nat _ z T := t1
      have u2 : ∀ p ∈ tups, @LT.lt Nat _ p.1 T := fun p hp => t5 p (by simp [hp])
      have u3 : @LT.lt Nat _ D T := t5 (D, listOf vs.toArray e) (by simp)
      have hT : ∀ q ∈ ((T, prO (.int ((i : Int) * c) t) key) :: (TO, prO (.int ((i : Int) * c) t) key) :: (i1, rgIt ((i : Int) * c + c) (((n - i : Nat) : Int) - 1) c) :: (i2, oi2) :: (TI, prO (.ref i1) (.ref i2)) :: (D, listOf vs.toArray e) :: (L, oL) :: (tups ++ base)), q.1 ≠ z := by
        walk_at "apart"
      refine r_letGoZ (TI := TI) (TO := TO) F₄ (Mine.News.sub N₄ (by walk_at "sub")) hT fun h₅ F₅ N₅ => ?_
      refine c_store2 hh F₅ N₅ (.tail _ (.head _)) (fun h₆ tk₆ F₆ N₆ => ?_) hi he hp
      refine Tuple_ (args_cons (c_name F₆ put_eq (args_cons (c_name F₆ (put_ne (by decide) put_eq) (args_nil ?_) hk hi (by decide))) hk he (by decide)))
      refine r_pair' F₆ N₆ fun T2 h₇ F₇ N₇ v1 v2 => ?_
      have hDs : ∀ q ∈ ((T2, prO key (.int ((i : Int) * c) t)) :: (z, zpO .none TI TO) :: (TO, prO (.int ((i : Int) * c) t) key) :: (i1, rgIt ((i : Int) * c + c) (((n - i : Nat) : Int) - 1) c) :: (i2, oi2) :: (TI, prO (.ref i1) (.ref i2)) :: (L, oL) :: (tups ++ base)), q.1 ≠ D := by
        have v3 : @LT.lt Nat _ C T2 := v2
        walk_at "apart"
      refine r_append (vs := vs) (n := e) F₇ (Mine.News.sub N₇ (by walk_at "sub")) hDs (by rw [hlv]; exact Nat.le_trans (Nat.le_of_lt hlt) (Nat.le_trans hn (by decide))) fun h₈ F₈ N₈ => ?_
      obtain ⟨t', rfl⟩ := hkey.2
      refine ⟨n + 1 - (i + 1), Nat.sub_lt_sub_left (Nat.lt_succ_of_lt hlt) (Nat.lt_succ_self i), ?_⟩
      rw [hJ]
      refine ⟨i + 1, h₈, _, _, vs ++ [.ref T2], e + 1, oi2, .int ((i : Int) * c) t, .str (sgn i) t', (T2, prO (.str (sgn i) t') (.int ((i : Int) * c) t)) :: tups, hlt, rfl, rfl, F₈, ?_, hoi2, ?_, ?_⟩
      · refine Mine.News.sub N₈ ?_
        rw [show ((i + 1 : Nat) : Int) * c = (i : Int) * c + c from by rw [Int.natCast_add, Int.add_mul]; simp, show ((n - (i + 1) : Nat) : Int) = ((n - i : Nat) : Int) - 1 from by omega]
        walk_at "sub"
      · rw [List.range_succ]
        exact (hv.mono fun v d h => RT.mono (fun p hp => .tail _ hp) h).snoc ⟨hkey.1, T2, t', t, rfl, .head _⟩
      · intro p hp
        rcases List.mem_cons.mp hp with rfl | hp
        · exact v2
        · exact htups p hp
    · have hie : i = n := Nat.le_antisymm hin (Nat.not_lt.mp hlt)
      subst hie
      refine r_nextZ_end (i2 := i2) hh F' Z N' (by walk_at "apart") (.tail _ (.head _)) (by omega) fun h₄ tk₄ F₄ N₄ => ?_
      exact fin h₄ tk₄ m' vs e oi' tups F₄ (Mine.News.sub N₄ (by walk_at "sub")) hoi' hv htups
  · rw [hJ]
    refine ⟨0, h₃, tk₃, mC, [], 0, oi, .none, .none, [], Nat.zero_le _, rfl, rfl, F, ?_, hoi, Rel2.nil, fun _ h => nomatch h⟩
    refine Mine.News.sub N ?_
    rw [show ((0 : Nat) : Int) * c = 0 from by simp, Nat.sub_zero, List.nil_append]
    walk_at "sub"
end

section
open PySem PySem.W PyProof.Rows PySem.Calls
set_option maxRecDepth 100000
set_option maxHeartbeats 8000000
section
variable {w : World} {A : Around} {E : Value → Shared → Prop} {s : Shared} {h : Heap} {tk : Nat} {L : Addr} {h₀ : Heap} {m : Str → Option Value} {news : List (Addr × Obj)}
theorem r_letGoL {it l T : Addr} {i : Nat} {oI : Obj} {elts : List PySem.Expr} {kk : Nat} {pos : Pos} {Q : Unit → Shared → Prop} (hit : h.get? it = some oI) (ho : LiIt oI l i) (k : Q () (st s h tk)) :
    wpAny (Mo w) A (letOwnedTupleGo (.Tuple elts kk pos) (.ref it) (.ref T)) Q E (st s h tk) := by
  unfold letOwnedTupleGo
  refine wpAny_bind (wpAny_load (s := st s h tk) hit ?_)
  obtain ⟨hc, hd⟩ := ho
  rw [hc, hd]
  show wpAny _ _ (if (["enumerate", "zip", "dict_itemiterator", "dict_reverseitemiterator", "odict_iterator", "itertools.zip_longest", "itertools.pairwise"].contains "list_iterator" && _) = true then _ else _) Q E _
  rw [if_neg (by simp)]
  exact wpAny_pure k
/-- [elem for elem, order in xs], xs of the table's pairs -/
theorem unpackLoop {g : Heap} {C D it l : Addr} {oI : Obj} {f : Nat → Int} {h₃ : Heap} {tk₃ e₀ : Nat} {mC : Str → Option Value} {base : List (Addr × Obj)} {vs : List Value} {ds : List Nat} {scope : Scope} {cl : List (Str × Addr)} {env : Env} {iter elt : PySem.Expr} {pos tp pa pb : Pos} {kk : Nat} {xa xb : Str}
    {R : Result → Shared → Prop} {R' : Value → Nat → Prop}
    (hh : A.handled = none) (ha : (compEnvC scope cl C env).kindOf xa = some .local) (hb : (compEnvC scope cl C env).kindOf xb = some .local)
    (hp : ((compEnvC scope cl C env).scope.kind == .class || ((compEnvC scope cl C env).scope.kind == .module && (compEnvC scope cl C env).locals != (compEnvC scope cl C env).globals)) = false)
    (F : Fr g C h₃ mC) (hoI : LiIt oI l 0) (hl : (l, listOf vs.toArray e₀) ∈ base) (hv : Rel2 (RT f base) vs ds) (hsz : ds.length < 1000)
    (N : News g C h₃ ((D, listOf ([] : List Value).toArray 0) :: (it, oI) :: base)) (hitD : it ≠ D) (apD : ∀ p ∈ base, p.1 ≠ D) (apI : ∀ p ∈ base, p.1 ≠ it)
    (elem : ∀ {h : Heap} {tk : Nat} {m : Str → Option Value} {i : Nat} {d : Nat} {t u : Tok} {oI' : Obj} {us : List Value} {e : Nat} {Q : Value → Shared → Prop}, ds[i]? = some d → d < 48 → Fr g C h (put (put m xa (.str (sgn d) t)) xb (.int (f d) u)) → News g C h ((D, listOf us.toArray e) :: (it, oI') :: base) →
      (∀ v tk', R' v d → Q v (st s h tk')) → wpAny (Mo w) A (eval elt (compEnvC scope cl C env)) Q (notedBy (Mo w) A (compEnvC scope cl C env) fun e s' => R (.error e) s') (st s h tk))
    (fin : ∀ h' tk' m' us e, Fr g C h' m' → News g C h' ((D, listOf us.toArray e) :: base) → Rel2 R' us ds → R (.ok .next) (st s h' tk')) :
    codeAny (Mo w) A (.compLoop (.ListComp elt [⟨.Tuple [.Name xa pa, .Name xb pb] kk tp, iter, [], 0⟩] scope pos) 0 (.ref it) (.ref D) (compEnvC scope cl C env)) R (st s h₃ tk₃) := by
  have hlen := hv.1
  obtain ⟨J, hJ⟩ := hide (fun (k : Nat) (s' : Shared) => ∃ i h' tk' m' us e oI', i ≤ ds.length ∧ k = ds.length + 1 - i ∧ s' = st s h' tk' ∧ Fr g C h' m' ∧ News g C h' ((D, listOf us.toArray e) :: (it, oI') :: base) ∧ LiIt oI' l i ∧ Rel2 R' us (ds.take i))
  refine kcp_loop J ?_ (ds.length + 1)
    (by rw [hJ]; exact ⟨0, h₃, tk₃, mC, [], 0, oI, Nat.zero_le _, rfl, rfl, F, N, hoI, Rel2.nil⟩)
  rintro k s' j
  rw [hJ] at j
  obtain ⟨i, h', tk', m', us, e, oI', hin, rfl, rfl, F', N', ho', hu⟩ := j
  have hlu := hu.1
  rw [List.length_take] at hlu
  have apI' : ∀ q ∈ (D, listOf us.toArray e) :: base, q.1 ≠ it := fun q hq => by
    rcases List.mem_cons.mp hq with rfl | hq
    · exact Ne.symm hitD
    · exact apI q hq
  have apD' : ∀ (o : Obj), ∀ q ∈ (it, o) :: base, q.1 ≠ D := fun o q hq => by
    rcases List.mem_cons.mp hq with rfl | hq
    · exact hitD
    · exact apD q hq
  by_cases hlt : i < ds.length
  · obtain ⟨v, hvi, hr⟩ := hv.get hlt
    have hdi : ds[i]? = some (ds.getD i default) := by simp [List.getD, List.getElem?_eq_getElem hlt]
    generalize ds.getD i default = d at hr hdi
    obtain ⟨hd48, T, t, u, rfl, hT⟩ := hr
    refine r_nextL F' (Mine.News.sub N' (by walk_at "sub")) apI' (.tail _ hl) ho' hvi fun h₄ oI2 F₄ N₄ ho2 => ?_
    refine r_letGoL (N₄ _ (.head _)).1 ho2 ?_
    refine c_store2 hh F₄ N₄ (.tail _ (.tail _ hT)) (fun h₅ tk₅ F₅ N₅ => ?_) ha hb hp
    have N₅' : News g C h₅ ((D, listOf us.toArray e) :: (it, oI2) :: base) := Mine.News.sub N₅ (by walk_at "sub")
    refine elem hdi hd48 F₅ N₅' fun v tk₆ hR' => ?_
    refine r_append F₅ N₅' (apD' _) (by rw [hlu]; exact Nat.le_of_lt (Nat.lt_of_le_of_lt (Nat.min_le_right _ _) hsz)) fun h₈ F₈ N₈ => ?_
    refine ⟨ds.length + 1 - (i + 1), Nat.sub_lt_sub_left (Nat.lt_succ_of_lt hlt) (Nat.lt_succ_self i), ?_⟩
    rw [hJ]
    refine ⟨i + 1, h₈, _, _, us ++ [v], e + 1, oI2, hlt, rfl, rfl, F₈, N₈, ho2, ?_⟩
    rw [List.take_add_one, hdi]
    exact hu.snoc hR'
  · have hie : i = ds.length := Nat.le_antisymm hin (Nat.not_lt.mp hlt)
    subst hie
    refine r_nextL_end hh F' (Mine.News.sub N' (by walk_at "sub")) apI' (.tail _ hl) ho' (Nat.le_of_eq hlen) fun h₄ F₄ N₄ => ?_
    exact fin h₄ _ m' us e F₄ N₄ (by rw [List.take_length] at hu; exact hu)
end
end

section
open PySem PySem.W PyProof.Rows PySem.Calls
set_option maxRecDepth 100000
set_option maxHeartbeats 8000000
noncomputable def gtN (a b : Nat) : Bool := ltN b a
/-- what sort makes of places ds, as a plain computation -/
noncomputable def chk (ds want : List Nat) : Bool := match runO (fun i j => ltN (ds.getD i default) (ds.getD j default)) ds.length (kas_sort ds.length) with
  | some p => (p.toList.all fun i => decide (i < ds.length)) && decide (p.toList.map (fun i => ds.getD i default) = want)
  | none => false
theorem chk_spec {ds want : List Nat} (h : chk ds want = true) : ∃ p, runO (fun i j => ltN (ds.getD i default) (ds.getD j default)) ds.length (kas_sort ds.length) = some p ∧ (∀ i ∈ p.toList, i < ds.length) ∧ p.toList.map (fun i => ds.getD i default) = want := by
  unfold chk at h
  split at h
  · rename_i p hp
    rw [Bool.and_eq_true, List.all_eq_true] at h
    exact ⟨p, hp, fun i hi => of_decide_eq_true (h.1 i hi), of_decide_eq_true h.2⟩
  · cases h
noncomputable def nsD (n : Nat) : List Nat := hpfy (fun a b => ltN b a) (List.range n)
noncomputable def nlD (n k : Nat) : List Nat := (List.range k).foldl (fun ds j => su ltN (ds.set 0 (n + j)) 0) (hpfy ltN (List.range n))
noncomputable def nsOk (n : Nat) : Bool := decide ((nsD n).length = n) && decide ((nsD n).getD 0 default = n - 1) && chk (nsD n) (List.range n)
noncomputable def nlOk (n : Nat) : Bool := decide ((hpfy ltN (List.range n)).length = n) && ((List.range (48 - n)).all fun k => decide ((nlD n k).getD 0 default < n + k) && decide ((nlD n k).length = n)) && decide ((nlD n (48 - n)).length = n) && chk (nlD n (48 - n)).reverse ((List.range n).map fun i => 48 - n + i)
theorem ns_all : ([4, 5, 6, 7, 8, 9, 10, 11, 12].all nsOk) = true := by decide +kernel
theorem nl_all : ([4, 5, 6, 7, 8, 9, 10, 11, 12].all nlOk) = true := by decide +kernel
theorem mem412 {n : Nat} (h4 : 4 ≤ n) (h12 : n ≤ 12) : n ∈ [4, 5, 6, 7, 8, 9, 10, 11, 12] :=
  (by decide : ∀ n < 13, 4 ≤ n → n ∈ [4, 5, 6, 7, 8, 9, 10, 11, 12]) n (Nat.lt_succ_of_le h12) h4
theorem ns_facts {n : Nat} (h4 : 4 ≤ n) (h12 : n ≤ 12) : (nsD n).length = n ∧ (nsD n).getD 0 default = n - 1 ∧ chk (nsD n) (List.range n) = true := by
  have := List.all_eq_true.mp ns_all n (mem412 h4 h12)
  unfold nsOk at this
  rw [Bool.and_eq_true, Bool.and_eq_true] at this
  exact ⟨of_decide_eq_true this.1.1, of_decide_eq_true this.1.2, this.2⟩
theorem nl_facts {n : Nat} (h4 : 4 ≤ n) (h12 : n ≤ 12) : (hpfy ltN (List.range n)).length = n ∧ (∀ k < 48 - n, (nlD n k).getD 0 default < n + k ∧ (nlD n k).length = n) ∧ (nlD n (48 - n)).length = n ∧ chk (nlD n (48 - n)).reverse ((List.range n).map fun i => 48 - n + i) = true := by
  have := List.all_eq_true.mp nl_all n (mem412 h4 h12)
  unfold nlOk at this
  rw [Bool.and_eq_true, Bool.and_eq_true, Bool.and_eq_true] at this
  refine ⟨of_decide_eq_true this.1.1.1, fun k hk => ?_, of_decide_eq_true this.1.2, this.2⟩
  have q := List.all_eq_true.mp this.1.1.2 k (by simpa using hk)
  rw [Bool.and_eq_true] at q
  exact ⟨of_decide_eq_true q.1, of_decide_eq_true q.2⟩
theorem nlD_succ (n k : Nat) : nlD n (k + 1) = su ltN ((nlD n k).set 0 (n + k)) 0 := by
  unfold nlD
  rw [List.range_succ, List.foldl_append]
  rfl
end

section

open PySem PySem.W PyProof.Rows PySem.Calls
set_option maxRecDepth 100000
set_option maxHeartbeats 8000000
theorem ns_iter (w : World) : nsIn (hd.heap_39 w.params) mainGlobals "iter" = some none := rfl
theorem ns_zip (w : World) : nsIn (hd.heap_39 w.params) mainGlobals "zip" = some none := rfl
theorem kp56 (w : World) : keepIn (hd.heap_39 w.params) (.ref 56) = true := rfl
theorem kp42 (w : World) : keepIn (hd.heap_39 w.params) (.ref 42) = true := rfl
theorem kp35 (w : World) : keepIn (hd.heap_39 w.params) (.ref 35) = true := rfl
theorem ns_heapify_max (w : World) : nsIn (hd.heap_39 w.params) mainGlobals "_heapify_max" = some (some (.ref 56)) := rfl
theorem ns_heapreplace_max (w : World) : nsIn (hd.heap_39 w.params) mainGlobals "_heapreplace_max" = some (some (.ref 49)) := rfl
theorem ns_heapify (w : World) : nsIn (hd.heap_39 w.params) mainGlobals "heapify" = some (some (.ref 42)) := rfl
theorem ns_heapreplace (w : World) : nsIn (hd.heap_39 w.params) mainGlobals "heapreplace" = some (some (.ref 35)) := rfl

theorem nsmallest_call {w : World} {A : Around} {E : Value → Shared → Prop} {s : Shared} {h : Heap} {tk : Nat} {L : Addr} {h₀ : Heap} {m : Str → Option Value} {news : List (Addr × Obj)} {Q : Value → Shared → Prop} {n : Nat} {t : Tok}
    (C : At w A h₀ L) (hh : A.handled = none) (F : Fr h₀ L h m) (N : News h₀ L h news) (hdp : A.depth + 5 < recursionLimit) (hu : A.units + 100 < cLine) (h4 : 4 ≤ n) (h12 : n ≤ 12)
    (k : ∀ l vs e h' tk', Fr h₀ L h' m → News h₀ L h' ((l, listOf vs.toArray e) :: news) → (∀ p ∈ news, p.1 < l) → Rel2 RS vs (List.range n) → Q (.ref l) (st s h' tk')) :
    wpAny (Mo w) A (call (.ref 90) [.int n t, .ref 97]) Q E (st s h tk) := by
  refine' enterC [("n", .int n t), ("iterable", .ref 97), ("key", .none)] C F N ?k6 ?k7 (lessBy0 hdp) ?k9 ?kB ?kD ?c2 ?c3 ?c4 ?_
  case k6 => exact rfl
  case k7 => exact rfl
  case k9 => exact binds_K (T := 85) (C.kin F) rfl rfl rfl rfl rfl
  case kB => exact rfl
  case kD => decide +kernel
  case c2 => exact rfl
  case c3 => exact rfl
  case c4 => exact rfl
  intro g L' h₁ tk₁ cells F₁ N₁ Y C' lt₁ Qx hQx
  obtain ⟨oK, rfl, dK⟩ := CellsAre.one Y
  have dK' : oK.data = .cell (some .none) := dK
  clear Y dK
  -- n == 1
  refine wpAny_execs_cons (wpAny_If (wpAny_isTrue_Compare1 (x_name F₁ (show _ = some (Value.int n t) from rfl) (r_int fun t1 _ => PyProof.Rows.eq_int (wpAny_truthy_bool ?_)))))
  rw [if_neg (by simp; omega)]
  refine wpAny_execs_nil ?_
  -- the try
  refine wpAny_execs_cons (wpAny_Try_except (x_assignK fun K hK => (r_callB (x_bname C' F₁ (ns_len w) boot_len ⟨rfl, args_cons (x_name F₁ (show _ = some (Value.ref 97) from rfl) (args_nil (r_lenD (C'.kin F₁) fun t2 _ => x_storeK hK F₁ N₁ fun h₂ tk₂ F₂ N₂ => wpAny_execs_nil ?_)))⟩))))
  refine wpAny_execs_cons (wpAny_If (wpAny_isTrue_Compare1 (x_name F₂ (show _ = some (Value.int n t) from rfl) (x_name F₂ put_eq (PyProof.Rows.ge_int (wpAny_truthy_bool ?_))))))
  rw [if_neg (by simp; omega)]
  refine wpAny_execs_nil (wpAny_execs_nil ?_)
  clear F₁ N₁
  -- key is None
  refine wpAny_execs_cons (wpAny_If (wpAny_isTrue_Compare1 (x_cell N₂ (.head _) dK' (wpAny_Constant_none (PyProof.Rows.is_none_none (wpAny_truthy_bool ?_))))))
  rw [if_pos rfl]
  -- it
  refine x_assignK fun K hK => (r_callB (x_bname C' F₂ (ns_iter w) boot_iter ⟨rfl, args_cons (x_name F₂ (show _ = some (Value.ref 97) from rfl) (args_nil (r_iterD (C'.kin F₂) F₂ N₂ fun I h₃ oI F₃ N₃ ltI hoI => x_storeK hK F₃ N₃ fun h₄ tk₄ F₄ N₄ => ?_)))⟩))
  obtain ⟨m₄, F₄, mn, mit⟩ : ∃ m₄, Fr g L' h₄ m₄ ∧ m₄ "n" = some (.int n t) ∧ m₄ "it" = some (.ref I) := ⟨_, F₄, rfl, rfl⟩
  clear F₂ N₂ F₃ N₃
  have hbaseF : ∀ p ∈ (L' + 1, oK) :: news, @LT.lt Nat _ p.1 I := ltI
  have hbase : ∀ p ∈ news, @LT.lt Nat _ p.1 I := fun p hp => ltI p (.tail _ hp)
  have hLI2 : @LT.lt Nat _ (L' + 1) I := ltI (L' + 1, oK) (.head _)
  have hLI : @LT.lt Nat _ L' I := Nat.lt_of_succ_lt (ltI (L' + 1, oK) (.head _))
  -- result
  refine r_assignComp (h₀ := g) (L := L') (r_callT (x_bname C' F₄ (ns_zip w) boot_zip ⟨rfl, args_cons (r_callT (x_bname C' F₄ (ns_range w) boot_range ⟨rfl, args_cons (x_name F₄ mn (args_nil ?_))⟩))⟩))
  refine r_range1 F₄ N₄ fun r h₅ t₁ u₁ v₁ F₅ N₅ ltr tk₅ => args_cons (x_name F₅ mit (args_nil ?_))
  refine r_zip (i := 0) (n := n) (small_one (by decide) (by decide) (by omega) (by omega)) (by rw [rangeSize_nat]; omega) F₅ N₅ hoI fun z TI TO i1 h₆ F₆ Z N₆ o1 o1' o2 o3 o4 => ?_
  refine wpAny_pyIter_zip (s := st s h₆ _) (N₆ _ (.head _)).1 ?_
  refine ⟨h₆, _, m₄, _, rfl, F₆, N₆, (fun h' tk' Q' E' up q => wpAny_pyIter_zip (s := st s h' tk') (up _ _ (N₆ _ (.head _)).1) q), ?_⟩
  intro D C₂ oL h₇ tk₇ mC hoL lLD lDC ltD neL F₇ N₇
  have o5 : @LT.lt Nat _ z D := ltD _ (.head _)
  refine buildLoop (c := 1) (base := (L' + 1, oK) :: news) hh (C'.kin F₆ |> fun _ => C'.kinAt fun _ _ e => e) rfl rfl rfl rfl F₇ Z hoI (Nat.le_trans h12 (by decide)) N₇ hbaseF o1 o2 o3 o4 o5 lDC hLI ?_
  clear N₇ F₇ N₆ F₆ N₅ F₅ N₄ F₄
  intro h₈ tk₈ m₈ vs e oi' tups F₈ N₈ hoi' hv htups
  refine ⟨h₈, tk₈, m₈, _, rfl, F₈, N₈, ?_, fun oC F₉ N₉ apC => ?_⟩
  · have neB : ∀ p ∈ (L' + 1, oK) :: news, p.1 ≠ L' := fun p hp => neL p (.tail _ (.tail _ (.tail _ (.tail _ (.tail _ hp)))))
    intro p hp
    simp only [List.mem_cons, List.mem_append] at hp
    rcases hp with rfl | rfl | hp | hp
    · exact Nat.ne_of_gt lLD
    · exact Nat.ne_of_gt hLI
    · exact Nat.ne_of_gt (Nat.lt_trans (Nat.lt_trans lLD lDC) (htups p hp))
    · exact neB p (by simpa using hp)
  refine x_store F₉ N₉ fun h₁₀ tk₁₀ F₁₀ N₁₀ => ⟨h₁₀, tk₁₀, _, _, rfl, F₁₀, N₁₀, apC, fun h₁₁ F₁₁ N₁₁ => ?_⟩
  clear F₁₀ N₁₀ F₉ N₉ F₈ N₈
  obtain ⟨m₅, F₁₁, mn, mit, mre⟩ : ∃ m₅, Fr g L' h₁₁ m₅ ∧ m₅ "n" = some (.int n t) ∧ m₅ "it" = some (.ref I) ∧ m₅ "result" = some (.ref D) := ⟨_, F₁₁, put_ne (by decide) mn, put_ne (by decide) mit, put_eq⟩
  have oD : @LT.lt Nat _ I D := Nat.lt_trans (Nat.lt_trans (Nat.lt_trans o1 o2) (Nat.lt_trans o3 o4)) o5
  have hD : ∀ o, ∀ p ∈ (I, o) :: (tups ++ (L' + 1, oK) :: news), p.1 ≠ D := fun o => by
    have lDC' : @LT.lt Nat _ D C₂ := lDC
    walk_at "apart"
  have hI : ∀ o, ∀ p ∈ (D, o) :: (tups ++ (L' + 1, oK) :: news), p.1 ≠ I := fun o => by
    have lDC' : @LT.lt Nat _ D C₂ := lDC
    walk_at "apart"
  have hvl := hv.1
  rw [List.length_range] at hvl
  -- not result
  refine wpAny_execs_cons (wpAny_If (isTrue_not (isTrue_plain (x_name F₁₁ mre (r_truthy N₁₁ (by omega) fun _ => ?_)))))
  rw [decide_eq_true (by omega), if_neg (by decide)]
  refine wpAny_execs_nil ?_
  -- _heapify_max(result)
  obtain ⟨nsl, nst, nsc⟩ := ns_facts h4 h12
  refine wpAny_execs_cons (wpAny_Expr (r_callK C' (kp56 w) (x_gname C' F₁₁ (ns_heapify_max w) ⟨rfl, args_cons (x_name F₁₁ mre (args_nil ⟨C'.kin F₁₁, ?_⟩))⟩)))
  refine heapify_max_call C' hh F₁₁ N₁₁ (hD _) (show A.depth + 3 < _ from lessBy hdp (by decide)) (show A.units + 43 < _ from lessBy hu (by decide)) ((cmpT w _ tups).sub fun p hp => .tail _ (List.mem_append_left _ hp)) hv (by simp; omega) fun vs₂ h₁₂ tk₁₂ F₁₂ N₁₂ hv₂ => ?_
  clear F₁₁ N₁₁ hv hvl
  change Rel2 _ vs₂ (nsD n) at hv₂
  have hvl₂ := hv₂.1
  rw [nsl] at hvl₂
  -- top = result[0][0]
  obtain ⟨v0, hv0, hr0⟩ := hv₂.get (k := 0) (by omega)
  rw [nst] at hr0
  obtain ⟨h480, T0, t0, u0, rfl, hT0⟩ := hr0
  refine x_assignK fun K hK => (Subscript_ (Subscript_ (x_name F₁₂ mre (r_int fun _ _ => item (k := 0) N₁₂ hv0 (by decide) (r_int fun _ _ => pairItem0 N₁₂ (.tail _ (.tail _ (List.mem_append_left _ hT0))) (x_storeK hK F₁₂ N₁₂ fun h₁₃ tk₁₃ F₁₃ N₁₃ => ?_))))))
  -- order = n
  refine x_assignK fun K hK => (x_name F₁₃ (put_ne (by decide) mn) (x_storeK hK F₁₃ N₁₃ fun h₁₄ tk₁₄ F₁₄ N₁₄ => ?_))
  refine x_assignK fun K hK => (x_gname C' F₁₄ (ns_heapreplace_max w) (x_storeK hK F₁₄ N₁₄ fun h₁₅ tk₁₅ F₁₅ N₁₅ => ?_))
  obtain ⟨m₆, F₁₅, mit₆, mre₆, mto₆⟩ : ∃ m₆, Fr g L' h₁₅ m₆ ∧ m₆ "it" = some (.ref I) ∧ m₆ "result" = some (.ref D) ∧ m₆ "top" = some (.str (sgn (n - 1)) t0) := ⟨_, F₁₅, put_ne (by decide) (put_ne (by decide) (put_ne (by decide) mit)), put_ne (by decide) (put_ne (by decide) (put_ne (by decide) mre)), put_ne (by decide) (put_ne (by decide) put_eq)⟩
  clear F₁₃ N₁₃ F₁₄ N₁₄ F₁₂ N₁₂
  -- the loop
  refine r_for (h₀ := g) (L := L') (x_name F₁₅ mit₆ (r_iterK hoi' (N₁₅ _ (.tail _ (.head _))).1 ?_))
  obtain ⟨J, hJ⟩ := hide (fun (k : Nat) (m₁ : Str → Option Value) (nw : List (Addr × Obj)) => ∃ (i : Nat) (oi : Obj), k = 48 - i ∧ n ≤ i ∧ i ≤ 48 ∧ KdkIter oi 97 i 48 48 ∧ nw = (I, oi) :: (D, listOf vs₂.toArray e) :: (tups ++ (L' + 1, oK) :: news) ∧ m₁ "result" = some (.ref D) ∧ m₁ "top" = some (.str (sgn (n - 1)) t0))
  refine ⟨J,
    h₁₅, _, m₆, _, 48 - n, rfl, F₁₅, Mine.News.sub N₁₅ ?_, (by rw [hJ]; exact ⟨n, oi', rfl, Nat.le_refl _, Nat.le_trans h12 (by decide), hoi', rfl, mre₆, mto₆⟩), ?_⟩
  · walk_at "sub"
  clear F₁₅ N₁₅ mit₆ mre₆ mto₆ hoi'
  rintro kk m₁ nw h₁₆ tk₁₆ F₁₆ N₁₆ j
  rw [hJ] at j
  obtain ⟨i, oi, rfl, hni, hi48, hoi, rfl, mre, mto⟩ := j
  by_cases hlt : i < 48
  · refine r_nextK (C'.kin F₁₆) F₁₆ N₁₆ (hI _) hoi hlt fun key h₁₇ oi2 hkey hoi2 F₁₇ N₁₇ => x_store F₁₇ N₁₇ fun h₁₈ tk₁₈ F₁₈ N₁₈ => ?_
    obtain ⟨_, tk', rfl⟩ := hkey
    refine wpAny_execs_cons (wpAny_If (wpAny_isTrue_Compare1 (x_name F₁₈ put_eq (x_name F₁₈ (put_ne (by decide) mto) (PyProof.Rows.lt_str (s := st s h₁₈ tk₁₈) (wpAny_truthy_bool ?_))))))
    rw [sgn_lt i hlt (n - 1) h480, decide_eq_false (by omega), if_neg (by decide)]
    refine wpAny_execs_nil (wpAny_execs_nil ?_)
    exact r_again (.inl rfl) F₁₈ N₁₈ (n' := 48 - (i + 1)) (Nat.sub_lt_sub_left hlt (Nat.lt_succ_self i)) (by rw [hJ]; exact ⟨i + 1, oi2, rfl, Nat.le_succ_of_le hni, hlt, hoi2, rfl, put_ne (by decide) mre, put_ne (by decide) mto⟩)
  have hi : i = 48 := Nat.le_antisymm hi48 (Nat.not_lt.mp hlt)
  subst hi
  refine r_nextK_end hh (C'.kin F₁₆) F₁₆ N₁₆ (hI _) hoi fun h₁₇ F₁₇ N₁₇ => ?_
  have hD' : ∀ p ∈ tups ++ (L' + 1, oK) :: news, p.1 ≠ D := fun p hp => hD oi p (.tail _ hp)
  -- result.sort()
  obtain ⟨p, hrun, hpl, hpm⟩ := chk_spec nsc
  have hv₃ : Rel2 (RT (fun i => (i : Int) * 1) (tups ++ (L' + 1, oK) :: news)) vs₂ (nsD n) := hv₂.mono fun v d r => RT.mono (fun p hp => List.mem_append_left _ hp) r
  refine wpAny_execs_cons (wpAny_Expr (MethodCall_ (x_name F₁₇ mre (kl_method (s := st s h₁₇ _) N₁₇ (.head _) slot_list_sort PySem.F.type_list_sort (callWith_method0 ?_)))))
  refine r_sortT F₁₇ N₁₇ hD' hv₃ (by omega) (by omega) hrun hpl fun vs₄ e₄ h₁₈ tk₁₈ F₁₈ N₁₈ hv₄ => ?_
  rw [hpm] at hv₄
  -- return [elem for elem, order in result]
  refine wpAny_execs_cons (wpAny_Return_some (r_comp (h₀ := g) (L := L') (x_name F₁₈ mre (r_iterL F₁₈ N₁₈ (.head _) fun it h₁₉ oIt F₁₉ N₁₉ ltIt lLIt hoIt => ?_))))
  refine ⟨h₁₉, _, _, _, rfl, F₁₉, N₁₉, (fun h' tk' Q' E' up q => r_selfL (up _ _ (N₁₉ _ (.head _)).1) hoIt q), ?_⟩
  intro D2 C3 oL2 h₂₀ tk₂₀ mC2 hoL2 lLD2 lDC2 ltD2 neL2 F₂₀ N₂₀
  have ltB : ∀ p ∈ (L', oL2) :: (D, listOf vs₄.toArray e₄) :: (tups ++ (L' + 1, oK) :: news), p.1 ≠ it := fun p hp => by
    rcases List.mem_cons.mp hp with rfl | hp
    · exact Nat.ne_of_lt lLIt
    · exact Nat.ne_of_lt (ltIt p hp)
  have ltB2 : ∀ p ∈ (L', oL2) :: (D, listOf vs₄.toArray e₄) :: (tups ++ (L' + 1, oK) :: news), p.1 ≠ D2 := fun p hp => by
    rcases List.mem_cons.mp hp with rfl | hp
    · exact Nat.ne_of_lt lLD2
    · exact Nat.ne_of_lt (ltD2 p (.tail _ hp))
  refine unpackLoop (R' := RS) (base := (L', oL2) :: (D, listOf vs₄.toArray e₄) :: (tups ++ (L' + 1, oK) :: news)) (vs := vs₄) (ds := List.range n) hh rfl rfl rfl F₂₀ hoIt (.tail _ (.head _)) (hv₄.mono fun v d r => RT.mono (fun p hp => .tail _ (.tail _ hp)) r) (by simp; omega) (Mine.News.sub N₂₀ (by walk_at "sub")) (Nat.ne_of_lt (ltD2 _ (.head _))) ltB2 ltB ?_ ?_
  · intro h tk m i d t u oI' us e Q' hdi hd48 F' N' k'
    exact c_name F' (put_ne (by decide) put_eq) (k' _ _ ⟨hd48, t, rfl⟩)
  · intro h' tk' m' us e F' N' hus
    refine ⟨h', tk', m', (D2, listOf us.toArray e) :: (D, listOf vs₄.toArray e₄) :: (tups ++ (L' + 1, oK) :: news), rfl, F', Mine.News.sub N' (by walk_at "sub"), fun p hp => ?_, fun h'' F'' N'' => ?_⟩
    · rcases List.mem_cons.mp hp with rfl | hp
      · exact Nat.ne_of_gt lLD2
      · exact neL2 p (.tail _ hp)
    · refine leaveB hQx F'' N'' fun F N => k _ us e _ _ F (Mine.News.sub N (by walk_at "sub")) (fun p hp => ?_) hus
      exact ltD2 p (.tail _ (.tail _ (List.mem_append_right _ (.tail _ hp))))
end

section

open PySem PySem.W PyProof.Rows PySem.Calls
set_option maxRecDepth 100000
set_option maxHeartbeats 8000000
section
variable {w : World} {A : Around} {E : Value → Shared → Prop} {s : Shared} {h : Heap} {tk : Nat} {L : Addr} {h₀ : Heap} {m : Str → Option Value} {news : List (Addr × Obj)}
theorem r_neg {a : Int} {t : Tok} {Q : Value → Shared → Prop} (k : ∀ t' tk', Q (.int (-a) t') (st s h tk')) : wpAny (Mo w) A (unaryOp .USub (.int a t)) Q E (st s h tk) := PyProof.Rows.neg_int (k _ _)
theorem r_isub {a b : Int} {t u : Tok} {Q : Value → Shared → Prop} (k : ∀ t' tk', Q (.int (a - b) t') (st s h tk')) : wpAny (Mo w) A (inplaceOp .Sub (.int a t) (.int b u)) Q E (st s h tk) := PyProof.Rows.isub_int (k _ _)
theorem r_range3 {a b c : Int} {t u v : Tok} {Q : Value → Shared → Prop} (hc : c ≠ 0) (F : Fr h₀ L h m) (N : News h₀ L h news) (hp : Builtin.divisionGoesByPylong (b - a) c = false ∨ PySem.PylongRoom (Mo w) A (st s h tk))
    (k : ∀ r h' t₁ u₁ v₁, Fr h₀ L h' m → News h₀ L h' ((r, rgOb a b c t₁ u₁ v₁) :: news) → (∀ p ∈ news, p.1 < r) → ∀ tk', Q (.ref r) (st s h' tk')) :
    wpAny (Mo w) A (call (.type "range") [.int a t, .int b u, .int c v]) Q E (st s h tk) :=
  call_range_3 (s := st s h tk) hc (k _ _ _ _ _ (F.push _) (N.push F _) (fun p hp => Heap.lt_size (N p hp).1) _) hp
theorem x_load {qual : Str} {scope : Scope} {f : Addr} {cdv : Value} {cl : List (Str × Addr)} {x : Str} {v : Value} {Q : Value → Shared → Prop} (F : Fr h₀ L h m) (hv : m x = some v) (k : Q v (st s h tk))
    (hk : scope.kind = .function := by rfl) (hx : (envX qual scope L f cdv cl).kindOf x = some .local := by rfl) :
    wpAny (Mo w) A (loadName (envX qual scope L f cdv cl) x) Q E (st s h tk) := wpAny_loadName_local hk hx F.ns hv k
theorem x_store2 {qual : Str} {scope : Scope} {f : Addr} {cdv : Value} {cl : List (Str × Addr)} {a b : Str} {pa pb tp : Pos} {kk : Nat} {T : Addr} {x y : Value} {Q : Unit → Shared → Prop} (hh : A.handled = none) (F : Fr h₀ L h m) (N : News h₀ L h news) (hT : (T, prO x y) ∈ news)
    (k : ∀ h' tk', Fr h₀ L h' (put (put m a x) b y) → News h₀ L h' news → Q () (st s h' tk'))
    (ha : (envX qual scope L f cdv cl).kindOf a = some .local := by rfl) (hb : (envX qual scope L f cdv cl).kindOf b = some .local := by rfl) (hk : scope.kind = .function := by rfl) :
    wpAny (Mo w) A (assign (.Tuple [.Name a pa, .Name b pb] kk tp) (envX qual scope L f cdv cl) (.ref T)) Q E (st s h tk) := by
  refine kcp_assign (s := st s h tk) hh ⟨_, (N _ hT).1, rfl, _, rfl⟩ ha hb (by show (scope.kind == .class || (scope.kind == .module && L != mainGlobals)) = false; rw [hk]; rfl) F.ns fun h' tk' hn hk => k h' tk' ?_ fun p hp' => ⟨hk _ _ (N p hp').2.1 (N p hp').1, (N p hp').2⟩
  exact ⟨hn, fun b o e => hk b o (fun q => Nat.lt_irrefl _ (Nat.lt_of_lt_of_le (Heap.lt_size e) (by rw [q]; exact F.above))) (F.keep b o e), F.above⟩
end
theorem nl_rev {n : Nat} (h4 : 4 ≤ n) (h12 : n ≤ 12) : ((List.range n).map fun i => 48 - n + i).reverse = (List.range n).map fun i => 47 - i := by
  have : ([4, 5, 6, 7, 8, 9, 10, 11, 12].all fun n => decide (((List.range n).map fun i => 48 - n + i).reverse = (List.range n).map fun i => 47 - i)) = true := by decide +kernel
  exact of_decide_eq_true (List.all_eq_true.mp this n (mem412 h4 h12))
theorem nlargest_call {w : World} {A : Around} {E : Value → Shared → Prop} {s : Shared} {h : Heap} {tk : Nat} {L : Addr} {h₀ : Heap} {m : Str → Option Value} {news : List (Addr × Obj)} {Q : Value → Shared → Prop} {n : Nat} {t : Tok}
    (C : At w A h₀ L) (hh : A.handled = none) (F : Fr h₀ L h m) (N : News h₀ L h news) (hdp : A.depth + 5 < recursionLimit) (hu : A.units + 100 < cLine) (h4 : 4 ≤ n) (h12 : n ≤ 12)
    (k : ∀ l vs e h' tk', Fr h₀ L h' m → News h₀ L h' ((l, listOf vs.toArray e) :: news) → (∀ p ∈ news, p.1 < l) → Rel2 RS vs ((List.range n).map fun i => 47 - i) → Q (.ref l) (st s h' tk')) :
    wpAny (Mo w) A (call (.ref 96) [.int n t, .ref 97]) Q E (st s h tk) := by
  refine' enterC [("n", .int n t), ("iterable", .ref 97), ("key", .none)] C F N ?k6 ?k7 (lessBy0 hdp) ?k9 ?kB ?kD ?c2 ?c3 ?c4 ?_
  case k6 => exact rfl
  case k7 => exact rfl
  case k9 => exact binds_K (T := 91) (C.kin F) rfl rfl rfl rfl rfl
  case kB => exact rfl
  case kD => decide +kernel
  case c2 => exact rfl
  case c3 => exact rfl
  case c4 => exact rfl
  intro g L' h₁ tk₁ cells F₁ N₁ Y C' lt₁ Qx hQx
  obtain ⟨oK, rfl, dK⟩ := CellsAre.one Y
  have dK' : oK.data = .cell (some .none) := dK
  clear Y dK
  -- n == 1
  refine wpAny_execs_cons (wpAny_If (wpAny_isTrue_Compare1 (x_name F₁ (show _ = some (Value.int n t) from rfl) (r_int fun t1 _ => PyProof.Rows.eq_int (wpAny_truthy_bool ?_)))))
  rw [if_neg (by simp; omega)]
  refine wpAny_execs_nil ?_
  -- the try
  refine wpAny_execs_cons (wpAny_Try_except (x_assignK fun K hK => (r_callB (x_bname C' F₁ (ns_len w) boot_len ⟨rfl, args_cons (x_name F₁ (show _ = some (Value.ref 97) from rfl) (args_nil (r_lenD (C'.kin F₁) fun t2 _ => x_storeK hK F₁ N₁ fun h₂ tk₂ F₂ N₂ => wpAny_execs_nil ?_)))⟩))))
  refine wpAny_execs_cons (wpAny_If (wpAny_isTrue_Compare1 (x_name F₂ (show _ = some (Value.int n t) from rfl) (x_name F₂ put_eq (PyProof.Rows.ge_int (wpAny_truthy_bool ?_))))))
  rw [if_neg (by simp; omega)]
  refine wpAny_execs_nil (wpAny_execs_nil ?_)
  clear F₁ N₁
  -- key is None
  refine wpAny_execs_cons (wpAny_If (wpAny_isTrue_Compare1 (x_cell N₂ (.head _) dK' (wpAny_Constant_none (PyProof.Rows.is_none_none (wpAny_truthy_bool ?_))))))
  rw [if_pos rfl]
  -- it
  refine x_assignK fun K hK => (r_callB (x_bname C' F₂ (ns_iter w) boot_iter ⟨rfl, args_cons (x_name F₂ (show _ = some (Value.ref 97) from rfl) (args_nil (r_iterD (C'.kin F₂) F₂ N₂ fun I h₃ oI F₃ N₃ ltI hoI => x_storeK hK F₃ N₃ fun h₄ tk₄ F₄ N₄ => ?_)))⟩))
  obtain ⟨m₄, F₄, mn, mit⟩ : ∃ m₄, Fr g L' h₄ m₄ ∧ m₄ "n" = some (.int n t) ∧ m₄ "it" = some (.ref I) := ⟨_, F₄, rfl, rfl⟩
  clear F₂ N₂ F₃ N₃
  have hbaseF : ∀ p ∈ (L' + 1, oK) :: news, @LT.lt Nat _ p.1 I := ltI
  have hbase : ∀ p ∈ news, @LT.lt Nat _ p.1 I := fun p hp => ltI p (.tail _ hp)
  have hLI2 : @LT.lt Nat _ (L' + 1) I := ltI (L' + 1, oK) (.head _)
  have hLI : @LT.lt Nat _ L' I := Nat.lt_of_succ_lt (ltI (L' + 1, oK) (.head _))
  -- result
  refine r_assignComp (h₀ := g) (L := L') (r_callT (x_bname C' F₄ (ns_zip w) boot_zip ⟨rfl, args_cons (r_callT (x_bname C' F₄ (ns_range w) boot_range ⟨rfl, args_cons (r_int fun q1 _ => args_cons (UnaryOp_ (x_name F₄ mn (r_neg fun q2 _ => args_cons (UnaryOp_ (r_int fun q3 _ => r_neg fun q4 _ => args_nil ?_))))))⟩))⟩))
  refine r_range3 (by decide) F₄ N₄ (Or.inl (PyProof.noPylong_small (by omega))) fun r h₅ t₁ u₁ v₁ F₅ N₅ ltr tk₅ => args_cons (x_name F₅ mit (args_nil ?_))
  refine r_zip (i := 0) (n := n) (small_down (by decide) (by decide) (by omega) (by omega)) (by rw [rangeSize_downNat]; omega) F₅ N₅ hoI fun z TI TO i1 h₆ F₆ Z N₆ o1 o1' o2 o3 o4 => ?_
  refine wpAny_pyIter_zip (s := st s h₆ _) (N₆ _ (.head _)).1 ?_
  refine ⟨h₆, _, m₄, _, rfl, F₆, N₆, (fun h' tk' Q' E' up q => wpAny_pyIter_zip (s := st s h' tk') (up _ _ (N₆ _ (.head _)).1) q), ?_⟩
  intro D C₂ oL h₇ tk₇ mC hoL lLD lDC ltD neL F₇ N₇
  have o5 : @LT.lt Nat _ z D := ltD _ (.head _)
  refine buildLoop (c := -1) (base := (L' + 1, oK) :: news) hh (C'.kin F₆ |> fun _ => C'.kinAt fun _ _ e => e) rfl rfl rfl rfl F₇ Z hoI (Nat.le_trans h12 (by decide)) N₇ hbaseF o1 o2 o3 o4 o5 lDC hLI ?_
  clear N₇ F₇ N₆ F₆ N₅ F₅ N₄ F₄
  intro h₈ tk₈ m₈ vs e oi' tups F₈ N₈ hoi' hv htups
  refine ⟨h₈, tk₈, m₈, _, rfl, F₈, N₈, ?_, fun oC F₉ N₉ apC => ?_⟩
  · have neB : ∀ p ∈ (L' + 1, oK) :: news, p.1 ≠ L' := fun p hp => neL p (.tail _ (.tail _ (.tail _ (.tail _ (.tail _ hp)))))
    intro p hp
    simp only [List.mem_cons, List.mem_append] at hp
    rcases hp with rfl | rfl | hp | hp
    · exact Nat.ne_of_gt lLD
    · exact Nat.ne_of_gt hLI
    · exact Nat.ne_of_gt (Nat.lt_trans (Nat.lt_trans lLD lDC) (htups p hp))
    · exact neB p (by simpa using hp)
  refine x_store F₉ N₉ fun h₁₀ tk₁₀ F₁₀ N₁₀ => ⟨h₁₀, tk₁₀, _, _, rfl, F₁₀, N₁₀, apC, fun h₁₁ F₁₁ N₁₁ => ?_⟩
  clear F₁₀ N₁₀ F₉ N₉ F₈ N₈
  obtain ⟨m₅, F₁₁, mn, mit, mre⟩ : ∃ m₅, Fr g L' h₁₁ m₅ ∧ m₅ "n" = some (.int n t) ∧ m₅ "it" = some (.ref I) ∧ m₅ "result" = some (.ref D) := ⟨_, F₁₁, put_ne (by decide) mn, put_ne (by decide) mit, put_eq⟩
  have oD : @LT.lt Nat _ I D := Nat.lt_trans (Nat.lt_trans (Nat.lt_trans o1 o2) (Nat.lt_trans o3 o4)) o5
  have hD : ∀ o, ∀ p ∈ (I, o) :: (tups ++ (L' + 1, oK) :: news), p.1 ≠ D := fun o => by
    have lDC' : @LT.lt Nat _ D C₂ := lDC
    walk_at "apart"
  have hI : ∀ o, ∀ p ∈ (D, o) :: (tups ++ (L' + 1, oK) :: news), p.1 ≠ I := fun o => by
    have lDC' : @LT.lt Nat _ D C₂ := lDC
    walk_at "apart"
  have hvl := hv.1
  rw [List.length_range] at hvl
  -- not result
  refine wpAny_execs_cons (wpAny_If (isTrue_not (isTrue_plain (x_name F₁₁ mre (r_truthy N₁₁ (by omega) fun _ => ?_)))))
  rw [decide_eq_true (by omega), if_neg (by decide)]
  refine wpAny_execs_nil ?_
  -- heapify(result)
  obtain ⟨nl0, nlk, nle, nlc⟩ := nl_facts h4 h12
  refine wpAny_execs_cons (wpAny_Expr (r_callK C' (kp42 w) (x_gname C' F₁₁ (ns_heapify w) ⟨rfl, args_cons (x_name F₁₁ mre (args_nil ⟨C'.kin F₁₁, ?_⟩))⟩)))
  refine heapify_call C' hh F₁₁ N₁₁ (hD _) (show A.depth + 3 < _ from lessBy hdp (by decide)) (show A.units + 43 < _ from lessBy hu (by decide)) ((cmpT w _ tups).sub fun p hp => .tail _ (List.mem_append_left _ hp)) hv (by simp; omega) fun vs₂ h₁₂ tk₁₂ F₁₂ N₁₂ hv₂ => ?_
  clear F₁₁ N₁₁ hv hvl hI hD
  replace htups : ∀ p ∈ tups, @LT.lt Nat _ D p.1 := fun p hp => Nat.lt_trans lDC (htups p hp)
  change Rel2 _ vs₂ (nlD n 0) at hv₂
  have hvl₂ := hv₂.1
  rw [(nlk 0 (by omega)).2] at hvl₂
  -- top = result[0][0]
  obtain ⟨v0, hv0, hr0⟩ := hv₂.get (k := 0) (by rw [(nlk 0 (by omega)).2]; omega)
  obtain ⟨h480, T0, t0, u0, rfl, hT0⟩ := hr0
  refine x_assignK fun K hK => (Subscript_ (Subscript_ (x_name F₁₂ mre (r_int fun _ _ => item (k := 0) N₁₂ hv0 (by decide) (r_int fun _ _ => pairItem0 N₁₂ (.tail _ (.tail _ (List.mem_append_left _ hT0))) (x_storeK hK F₁₂ N₁₂ fun h₁₃ tk₁₃ F₁₃ N₁₃ => ?_))))))
  -- order = -n
  refine x_assignK fun K hK => (UnaryOp_ (x_name F₁₃ (put_ne (by decide) mn) (r_neg fun to _ => x_storeK hK F₁₃ N₁₃ fun h₁₄ tk₁₄ F₁₄ N₁₄ => ?_)))
  refine x_assignK fun K hK => (x_gname C' F₁₄ (ns_heapreplace w) (x_storeK hK F₁₄ N₁₄ fun h₁₅ tk₁₅ F₁₅ N₁₅ => ?_))
  obtain ⟨m₆, F₁₅, mit₆, mre₆, mto₆, mor₆, mhr₆⟩ : ∃ m₆, Fr g L' h₁₅ m₆ ∧ m₆ "it" = some (.ref I) ∧ m₆ "result" = some (.ref D) ∧ m₆ "top" = some (.str (sgn ((nlD n 0).getD 0 default)) t0) ∧ m₆ "order" = some (.int (-(n : Int)) to) ∧ m₆ "_heapreplace" = some (.ref 35) :=
    ⟨_, F₁₅, put_ne (by decide) (put_ne (by decide) (put_ne (by decide) mit)), put_ne (by decide) (put_ne (by decide) (put_ne (by decide) mre)), put_ne (by decide) (put_ne (by decide) put_eq), put_ne (by decide) put_eq, put_eq⟩
  clear F₁₃ N₁₃ F₁₄ N₁₄ F₁₂ N₁₂
  -- the loop
  refine r_for (h₀ := g) (L := L') (x_name F₁₅ mit₆ (r_iterK hoi' (N₁₅ _ (.tail _ (.head _))).1 ?_))
  obtain ⟨J, hJ⟩ := hide (fun (k : Nat) (m₁ : Str → Option Value) (nw : List (Addr × Obj)) => ∃ (i : Nat) (oi : Obj) (vs : List Value) (e : Nat) (tups : List (Addr × Obj)) (t0 to : Tok), k = 48 - i ∧ n ≤ i ∧ i ≤ 48 ∧ KdkIter oi 97 i 48 48 ∧ nw = (I, oi) :: (D, listOf vs.toArray e) :: (tups ++ (L' + 1, oK) :: news) ∧ (∀ p ∈ tups, @LT.lt Nat _ D p.1) ∧
      Rel2 (RT (fun i => (i : Int) * -1) tups) vs (nlD n (i - n)) ∧ m₁ "result" = some (.ref D) ∧ m₁ "top" = some (.str (sgn ((nlD n (i - n)).getD 0 default)) t0) ∧ m₁ "order" = some (.int (-(i : Int)) to) ∧ m₁ "_heapreplace" = some (.ref 35))
  refine ⟨J,
    h₁₅, _, m₆, _, 48 - n, rfl, F₁₅, Mine.News.sub N₁₅ ?_, (by rw [hJ]; exact ⟨n, oi', vs₂, e, tups, t0, to, rfl, Nat.le_refl _, Nat.le_trans h12 (by decide), hoi', rfl, htups, by rw [Nat.sub_self]; exact hv₂, mre₆, by rw [Nat.sub_self]; exact mto₆, mor₆, mhr₆⟩), ?_⟩
  · walk_at "sub"
  clear F₁₅ N₁₅ mit₆ mre₆ mto₆ hoi' mor₆ mhr₆ hv₂ hv0 hvl₂ hT0 htups h480
  rintro kk m₁ nw h₁₆ tk₁₆ F₁₆ N₁₆ j
  rw [hJ] at j
  obtain ⟨i, oi, vs₂, e, tups, t0, to, rfl, hni, hi48, hoi, rfl, htups, hv₂, mre, mto, mor, mhr⟩ := j
  have hI : ∀ p ∈ (D, listOf vs₂.toArray e) :: (tups ++ (L' + 1, oK) :: news), p.1 ≠ I := by walk_at "apart"
  have hD : ∀ o, ∀ p ∈ (I, o) :: (tups ++ (L' + 1, oK) :: news), p.1 ≠ D := fun o => by walk_at "apart"
  have hvl₂ := hv₂.1
  by_cases hlt : i < 48
  · obtain ⟨htop, hlenk⟩ := nlk (i - n) (by omega)
    refine r_nextK (C'.kin F₁₆) F₁₆ N₁₆ hI hoi hlt fun key h₁₇ oi2 hkey hoi2 F₁₇ N₁₇ => x_store F₁₇ N₁₇ fun h₁₈ tk₁₈ F₁₈ N₁₈ => ?_
    obtain ⟨_, tk', rfl⟩ := hkey
    refine wpAny_execs_cons (wpAny_If (wpAny_isTrue_Compare1 (x_name F₁₈ (put_ne (by decide) mto) (x_name F₁₈ put_eq (PyProof.Rows.lt_str (s := st s h₁₈ tk₁₈) (wpAny_truthy_bool ?_))))))
    rw [sgn_lt _ (by omega) i hlt, decide_eq_true (by omega), if_pos rfl]
    -- _heapreplace(result, (elem, order))
    refine wpAny_execs_cons (wpAny_Expr_any (r_callK C' (kp35 w) (x_name F₁₈ (put_ne (by decide) mhr) ⟨rfl, args_cons (x_name F₁₈ (put_ne (by decide) mre) (args_cons (Tuple_ (args_cons (x_name F₁₈ put_eq (args_cons (x_name F₁₈ (put_ne (by decide) mor) (args_nil ?_))))))))⟩)))
    refine r_pair' F₁₈ N₁₈ fun T h₁₉ F₁₉ N₁₉ ltT _ => args_nil ⟨C'.kin F₁₉, ?_⟩
    have N₁₉' : News g L' h₁₉ ((D, listOf vs₂.toArray e) :: (I, oi2) :: (((T, prO (.str (sgn i) tk') (.int (-(i : Int)) to)) :: tups) ++ (L' + 1, oK) :: news)) := Mine.News.sub N₁₉ (by walk_at "sub")
    have htups' : ∀ p ∈ (T, prO (.str (sgn i) tk') (.int (-(i : Int)) to)) :: tups, @LT.lt Nat _ D p.1 := fun p hp => by
      rcases List.mem_cons.mp hp with rfl | hp
      · exact ltT (D, listOf vs₂.toArray e) (.tail _ (.head _))
      · exact htups p hp
    have hD2 : ∀ p ∈ (I, oi2) :: (((T, prO (.str (sgn i) tk') (.int (-(i : Int)) to)) :: tups) ++ (L' + 1, oK) :: news), p.1 ≠ D := fun p hp => by
      rcases List.mem_cons.mp hp with rfl | hp
      · exact Nat.ne_of_lt oD
      · rcases List.mem_append.mp hp with hp | hp
        · exact Nat.ne_of_gt (htups' p hp)
        · exact Nat.ne_of_lt (Nat.lt_trans (hbaseF p hp) oD)
    generalize htn : (T, prO (.str (sgn i) tk') (.int (-(i : Int)) to)) :: tups = tups' at N₁₉' htups' hD2
    have hRT : RT (fun i => (i : Int) * -1) tups' (.ref T) i := by
      refine ⟨hlt, T, tk', to, rfl, ?_⟩
      have ee : (fun i : Nat => (i : Int) * -1) i = -(i : Int) := by show (i : Int) * -1 = _; omega
      rw [← htn, ee]
      exact .head _
    have hv' : Rel2 (RT (fun i => (i : Int) * -1) tups') vs₂ (nlD n (i - n)) := hv₂.mono fun v d r => RT.mono (fun p hp => by rw [← htn]; exact .tail _ hp) r
    refine heapreplace_call C' F₁₉ N₁₉' hD2 (show A.depth + 3 < _ from lessBy hdp (by decide)) (show A.units + 43 < _ from lessBy hu (by decide)) ((cmpT w _ tups').sub fun p hp => .tail _ (List.mem_append_left _ hp)) hv' hRT (by omega) (by omega) fun y vs₃ h₂₀ tk₂₀ hRy F₂₀ N₂₀ hv₃ => ?_
    obtain ⟨_, ay, ty, uy, rfl, _⟩ := hRy
    have hnl : su ltN ((nlD n (i - n)).set 0 i) 0 = nlD n (i + 1 - n) := by
      rw [show i + 1 - n = (i - n) + 1 from by omega, nlD_succ, show n + (i - n) = i from by omega]
    rw [hnl] at hv₃
    have hvl₃ : vs₃.length = n := by
      have := hv₃.1
      rw [← hnl, su_length _ _ _ (by simp; omega), List.length_set] at this
      omega
    -- top, _order = result[0]
    obtain ⟨v1, hv1, hr1⟩ := hv₃.get (k := 0) (by have := hv₃.1; omega)
    obtain ⟨h481, T1, t1, u1, rfl, hT1⟩ := hr1
    refine wpAny_execs_cons ?_
    refine Assign_Tuple ?_
    refine Subscript_ (x_name F₂₀ (put_ne (by decide) mre) (r_int fun _ _ => item (k := 0) N₂₀ hv1 (by decide) ?_))
    refine x_store2 hh F₂₀ N₂₀ (.tail _ (.tail _ (List.mem_append_left _ hT1))) fun h₂₁ tk₂₁ F₂₁ N₂₁ => ?_
    refine wpAny_execs_cons (wpAny_AugAssign_Name (x_load F₂₁ (put_ne (by decide) (put_ne (by decide) (put_ne (by decide) mor))) (r_int fun _ _ => r_isub fun t2 _ => x_store F₂₁ N₂₁ fun h₂₂ tk₂₂ F₂₂ N₂₂ => wpAny_execs_nil ?_)))
    refine wpAny_execs_nil (r_again (.inl rfl) F₂₂ (news := (I, oi2) :: (D, listOf vs₃.toArray e) :: (tups' ++ (L' + 1, oK) :: news)) (Mine.News.sub N₂₂ (by walk_at "sub")) (n' := 48 - (i + 1)) (Nat.sub_lt_sub_left hlt (Nat.lt_succ_self i))
      ?_)
    rw [hJ]
    refine ⟨i + 1, oi2, vs₃, e, tups', t1, t2, rfl, Nat.le_succ_of_le hni, hlt, hoi2, rfl, htups', hv₃, put_ne (by decide) (put_ne (by decide) (put_ne (by decide) (put_ne (by decide) mre))), put_ne (by decide) (put_ne (by decide) put_eq), ?_, put_ne (by decide) (put_ne (by decide) (put_ne (by decide) (put_ne (by decide) mhr)))⟩
    rw [show (-((i + 1 : Nat) : Int)) = -(i : Int) - 1 from by omega]
    exact put_eq
  have hi : i = 48 := Nat.le_antisymm hi48 (Nat.not_lt.mp hlt)
  subst hi
  refine r_nextK_end hh (C'.kin F₁₆) F₁₆ N₁₆ hI hoi fun h₁₇ F₁₇ N₁₇ => ?_
  have hD' : ∀ p ∈ tups ++ (L' + 1, oK) :: news, p.1 ≠ D := fun p hp => hD oi p (.tail _ hp)
  -- result.sort(reverse=True)
  obtain ⟨p, hrun, hpl, hpm⟩ := chk_spec nlc
  rw [List.length_reverse] at hrun hpl
  have hv₃ : Rel2 (RT (fun i => (i : Int) * -1) (tups ++ (L' + 1, oK) :: news)) vs₂ (nlD n (48 - n)) := hv₂.mono fun v d r => RT.mono (fun p hp => List.mem_append_left _ hp) r
  refine wpAny_execs_cons (wpAny_Expr (methodCall_KW (x_name F₁₇ mre (kl_method (s := st s h₁₇ _) N₁₇ (.head _) slot_list_sort PySem.F.type_list_sort ?_))))
  refine callWith_builtin_kwB rfl rfl (evalArgs_kw2_nil rfl (kwAll_cons (wpAny_Constant_bool (kwAll_nil ?_))))
  refine r_sortTR F₁₇ N₁₇ hD' hv₃ (by omega) (by omega) hrun hpl fun vs₄ e₄ h₁₈ tk₁₈ F₁₈ N₁₈ hv₄ => ?_
  rw [hpm, nl_rev h4 h12] at hv₄
  -- return [elem for elem, order in result]
  refine wpAny_execs_cons (wpAny_Return_some (r_comp (h₀ := g) (L := L') (x_name F₁₈ mre (r_iterL F₁₈ N₁₈ (.head _) fun it h₁₉ oIt F₁₉ N₁₉ ltIt lLIt hoIt => ?_))))
  refine ⟨h₁₉, _, _, _, rfl, F₁₉, N₁₉, (fun h' tk' Q' E' up q => r_selfL (up _ _ (N₁₉ _ (.head _)).1) hoIt q), ?_⟩
  intro D2 C3 oL2 h₂₀ tk₂₀ mC2 hoL2 lLD2 lDC2 ltD2 neL2 F₂₀ N₂₀
  have ltB : ∀ p ∈ (L', oL2) :: (D, listOf vs₄.toArray e₄) :: (tups ++ (L' + 1, oK) :: news), p.1 ≠ it := fun p hp => by
    rcases List.mem_cons.mp hp with rfl | hp
    · exact Nat.ne_of_lt lLIt
    · exact Nat.ne_of_lt (ltIt p hp)
  have ltB2 : ∀ p ∈ (L', oL2) :: (D, listOf vs₄.toArray e₄) :: (tups ++ (L' + 1, oK) :: news), p.1 ≠ D2 := fun p hp => by
    rcases List.mem_cons.mp hp with rfl | hp
    · exact Nat.ne_of_lt lLD2
    · exact Nat.ne_of_lt (ltD2 p (.tail _ hp))
  refine unpackLoop (R' := RS) (base := (L', oL2) :: (D, listOf vs₄.toArray e₄) :: (tups ++ (L' + 1, oK) :: news)) (vs := vs₄) (ds := (List.range n).map fun i => 47 - i) hh rfl rfl rfl F₂₀ hoIt (.tail _ (.head _)) (hv₄.mono fun v d r => RT.mono (fun p hp => .tail _ (.tail _ hp)) r) (by simp; omega) (Mine.News.sub N₂₀ (by walk_at "sub")) (Nat.ne_of_lt (ltD2 _ (.head _))) ltB2 ltB ?_ ?_
  · intro h tk m i d t u oI' us e Q' hdi hd48 F' N' k'
    exact c_name F' (put_ne (by decide) put_eq) (k' _ _ ⟨hd48, t, rfl⟩)
  · intro h' tk' m' us e F' N' hus
    refine ⟨h', tk', m', (D2, listOf us.toArray e) :: (D, listOf vs₄.toArray e₄) :: (tups ++ (L' + 1, oK) :: news), rfl, F', Mine.News.sub N' (by walk_at "sub"), fun p hp => ?_, fun h'' F'' N'' => ?_⟩
    · rcases List.mem_cons.mp hp with rfl | hp
      · exact Nat.ne_of_gt lLD2
      · exact neL2 p (.tail _ hp)
    · refine leaveB hQx F'' N'' fun F N => k _ us e _ _ F (Mine.News.sub N (by walk_at "sub")) (fun p hp => ?_) hus
      exact ltD2 p (.tail _ (.tail _ (List.mem_append_right _ (.tail _ hp))))
end

section
open PySem PySem.W PyProof.Rows PySem.Calls
set_option maxRecDepth 100000
set_option maxHeartbeats 8000000
noncomputable def pops : Nat → List Nat → List Nat
  | 0, _ => []
  | k + 1, h => h.getD 0 default :: pops k (hpop ltN h)
noncomputable def hsort (ds : List Nat) : List Nat := pops ds.length (ds.foldl (hpush ltN) [])
theorem hpush_length (ds : List Nat) (d : Nat) : (hpush ltN ds d).length = ds.length + 1 := by unfold hpush; rw [sd_length]; simp
theorem hpop_length (ds : List Nat) : (hpop ltN ds).length = ds.length - 1 := by
  unfold hpop
  split
  · rename_i h
    rw [su_length _ _ _ (by rw [List.length_set]; exact h), List.length_set, List.length_dropLast]
  · rename_i h
    rw [List.length_dropLast] at h
    simp; omega
theorem foldl_push_length (ds : List Nat) : ∀ h : List Nat, (ds.foldl (hpush ltN) h).length = h.length + ds.length := by
  induction ds with
  | nil => intro h; rfl
  | cons d ds ih => intro h; rw [List.foldl_cons, ih, hpush_length, List.length_cons]; omega

section
variable {w : World} {A : Around} {E : Value → Shared → Prop} {s : Shared} {h : Heap} {tk : Nat} {L : Addr} {h₀ : Heap} {m : Str → Option Value} {news : List (Addr × Obj)}
theorem r_neNil {l b : Addr} {vs : List Value} {n n' : Nat} {Q : Value → Shared → Prop} (N : News h₀ L h news) (h1 : (l, listOf vs.toArray n) ∈ news) (h2 : (b, listOf ([] : List Value).toArray n') ∈ news) (hu : A.units < cLine)
    (k : Q (.bool (decide (0 < vs.length))) (st s h tk)) : wpAny (Mo w) A (compareOp .NotEq (.ref l) (.ref b)) Q E (st s h tk) := by
  have hl := PySem.IsL.isList (n := n) (N _ h1).1
  have hb := PySem.IsL.isList (n := n') (N _ h2).1
  cases vs with
  | nil =>
    refine cmp_ofNotEq (SeqAt.RcNeAt.lists (s := st s h tk) (e := fun _ => true) hl hb rfl hu (fun j h1 h2 => absurd h1 (by simp)) _ w E Q ?_)
    exact k
  | cons v vs =>
    refine cmp_ofNotEq (SeqAt.RcNeAt.lists_lengths (s := st s h tk) hl hb (by simp) hu _ w E Q ?_)
    simpa using k
theorem r_get {d : Nat} {t : Tok} {Q : Value → Shared → Prop} (X : (hd.heap_39 w.params).In h) (hd48 : d < 48) (k : ∀ tk', Q (.int (num d) (numTok d)) (st s h tk')) : wpAny (Mo w) A (call (.builtin "dict.get") [.ref 97, .str (sgn d) t]) Q E (st s h tk) := by
  have hD := (tabAt X).dictOf
  refine call_meetsIn (s := st s h tk) PySem.F.slot_dict_get hD.typeIs PySem.F.entry_dict_get (PySem.F.args_dict_get_2 _ _) (meets_dict_get (PySem.strKind Challenge.rw_mj0271_01.row.prog w) 97 (k := sgn d) (key := .str (sgn d) t) (by show Value.isStrOf (sgn d) (.str (sgn d) t) = true; simp [Value.isStrOf]) (by decide)) ⟨_, hD.mapOf, ?_⟩
  rw [valueAt_of_get (tabAt X).nodup (kv_at hd48)]
  exact k _
theorem r_getMethod {pl : Sem Bool} {Q : Value × List Value → Shared → Prop} (X : (hd.heap_39 w.params).In h) (k : Q (.builtin "dict.get", [.ref 97]) (st s h tk)) : wpAny (Mo w) A (getMethod (.ref 97) "get" pl) Q E (st s h tk) :=
  have hD := (tabAt X).dictOf
  getMethod_builtin (s := st s h tk) hD.typeIs PySem.F.plainAttrs_dict PySem.F.slot_dict_get PySem.F.type_dict_get hD.mapOf.noDict k
theorem r_newList {Q : Value → Shared → Prop} (F : Fr h₀ L h m) (N : News h₀ L h news) (k : ∀ l h', Fr h₀ L h' m → News h₀ L h' ((l, listOf ([] : List Value).toArray 0) :: news) → (∀ p ∈ news, p.1 < l) → L < l → Q (.ref l) (st s h' tk)) :
    wpAny (Mo w) A (newList []) Q E (st s h tk) := newList_N (s := st s h tk) F N (fun h' F' N' => k _ h' F' N' (fun p hp => Heap.lt_size (N p hp).1) F.ns.lt)
end
theorem ns_heappush (w : World) : nsIn (hd.heap_39 w.params) mainGlobals "heappush" = some (some (.ref 21)) := rfl
theorem ns_heappop (w : World) : nsIn (hd.heap_39 w.params) mainGlobals "heappop" = some (some (.ref 28)) := rfl
theorem ns_tab (w : World) : nsIn (hd.heap_39 w.params) mainGlobals "EXACT_TOKEN_TYPES" = some (some (.ref 97)) := rfl

theorem law_off_call {w : World} {A : Around} {E : Value → Shared → Prop} {s : Shared} {h : Heap} {tk : Nat} {L lp : Addr} {h₀ : Heap} {m : Str → Option Value} {news : List (Addr × Obj)} {Q : Value → Shared → Prop} {vs : List Value} {ds : List Nat} {e : Nat}
    (C : At w A h₀ L) (hh : A.handled = none) (F : Fr h₀ L h m) (N : News h₀ L h news) (hdp : A.depth + 5 < recursionLimit) (hu : A.units + 100 < cLine) (hlp : (lp, listOf vs.toArray e) ∈ news) (hv : Rel2 RS vs ds) (hsz : ds.length < 900)
    (k : ∀ l us e tups h' tk', Fr h₀ L h' m → News h₀ L h' ((l, listOf us.toArray e) :: (tups ++ news)) → (∀ p ∈ news, p.1 < l) → (∀ p ∈ tups, l < p.1) → Rel2 (RT num tups) us (hsort ds) → Q (.ref l) (st s h' tk')) :
    wpAny (Mo w) A (call (.ref 113) [.ref lp]) Q E (st s h tk) := by
  have hlen := hv.1
  refine' enter [("picks", .ref lp)] C F N ?k6 ?k7 (lessBy0 hdp) ?k9 ?kB ?c2 ?c3 ?c4 ?c5 ?_
  case k6 => exact rfl
  case k7 => exact rfl
  case k9 => exact rfl
  case c5 => decide
  case kB => exact rfl
  case c2 => exact rfl
  case c3 => exact rfl
  case c4 => exact rfl
  intro g L' h₁ tk₁ F₁ N₁ C' Qx hQx
  have hbL : ∀ p ∈ news, p.1 ≠ L' := fun p hp => (N₁ p hp).2.1
  -- heap = []
  refine r_assignK fun K hK => (List_ (args_nil (r_newList F₁ N₁ fun lh h₂ F₂ N₂ ltH lLH => r_storeK hK F₂ N₂ fun h₃ tk₃ F₃ N₃ => ?_)))
  have hbase : ∀ p ∈ news, @LT.lt Nat _ p.1 lh := ltH
  have hbh : ∀ p ∈ news, p.1 ≠ lh := fun p hp => Nat.ne_of_lt (ltH p hp)
  -- for sign in picks
  refine r_for (h₀ := g) (L := L') (r_name F₃ (put_ne (by decide) (show _ = some (Value.ref lp) from rfl)) (r_iterL F₃ N₃ (.tail _ hlp) fun it h₄ oI F₄ N₄ ltI lLI hoI => ?_))
  have hIh : @LT.lt Nat _ lh it := ltI _ (.head _)
  obtain ⟨J, hJ⟩ := hide (fun (q : Nat) (m₁ : Str → Option Value) (nw : List (Addr × Obj)) => ∃ (i : Nat) (oI : Obj) (hs : List Value) (eh : Nat), q = ds.length - i ∧ i ≤ ds.length ∧ LiIt oI lp i ∧ nw = (it, oI) :: (lh, listOf hs.toArray eh) :: news ∧ Rel2 RS hs ((ds.take i).foldl (hpush ltN) []) ∧ m₁ "heap" = some (.ref lh))
  refine ⟨J,
    h₄, _, _, _, ds.length, rfl, F₄, N₄, (by rw [hJ]; exact ⟨0, oI, [], 0, rfl, Nat.zero_le _, hoI, rfl, Rel2.nil, put_eq⟩), ?_⟩
  clear F₁ N₁ F₂ N₂ F₃ N₃ F₄ N₄ hoI oI
  rintro q m₁ nw h₅ tk₅ F₅ N₅ j
  rw [hJ] at j
  obtain ⟨i, oI, hs, eh, rfl, hi, hoI, rfl, hvh, mh⟩ := j
  have apI : ∀ o, ∀ p ∈ (lh, o) :: news, p.1 ≠ it := fun o => by walk_at "apart"
  have apH : ∀ o, ∀ p ∈ (it, o) :: news, p.1 ≠ lh := fun o => by walk_at "apart"
  have hlh := hvh.1
  rw [foldl_push_length, List.length_take, List.length_nil] at hlh
  by_cases hlt : i < ds.length
  · obtain ⟨v, hvi, hr⟩ := hv.get hlt
    have hdi : ds[i]? = some (ds.getD i default) := by simp [List.getD, List.getElem?_eq_getElem hlt]
    generalize ds.getD i default = d at hr hdi
    refine r_nextL F₅ N₅ (apI _) (.tail _ hlp) hoI hvi fun h₆ oI2 F₆ N₆ ho2 => r_store F₆ N₆ fun h₇ tk₇ F₇ N₇ => ?_
    refine wpAny_execs_cons (wpAny_If (wpAny_isTrue_Compare1 (r_callK C' (kp21 w) (r_gname C' F₇ (ns_heappush w) ⟨rfl, args_cons (r_name F₇ (put_ne (by decide) mh) (args_cons (r_name F₇ put_eq (args_nil ⟨C'.kin F₇, ?_⟩))))⟩))))
    refine heappush_call (vs := hs) (n := eh) (rest := (it, oI2) :: news) C' F₇ (Mine.News.sub N₇ (by walk_at "sub")) (apH _) (show A.depth + 2 < _ from lessBy hdp (by decide)) (show A.units + 33 < _ from lessBy hu (by decide)) (cmpS w _) hvh hr (by rw [foldl_push_length, List.length_take, List.length_nil]; omega) fun hs' eh' h₈ tk₈ F₈ N₈ hvh' => ?_
    refine wpAny_Constant_none (PyProof.Rows.isnot_none_none (wpAny_truthy_bool ?_))
    rw [if_neg (by decide)]
    refine wpAny_execs_nil (wpAny_execs_nil ?_)
    refine r_again (.inl rfl) F₈ (news := (it, oI2) :: (lh, listOf hs'.toArray eh') :: news) (Mine.News.sub N₈ (by walk_at "sub")) (n' := ds.length - (i + 1)) (Nat.sub_lt_sub_left hlt (Nat.lt_succ_self i)) ?_
    rw [hJ]
    refine ⟨i + 1, oI2, hs', eh', rfl, hlt, ho2, rfl, ?_, put_ne (by decide) mh⟩
    rw [List.take_add_one, hdi, Option.toList_some, List.foldl_append]
    exact hvh'
  have hie : i = ds.length := Nat.le_antisymm hi (Nat.not_lt.mp hlt)
  subst hie
  rw [List.take_length] at hvh
  refine r_nextL_end hh F₅ N₅ (apI _) (.tail _ hlp) hoI (Nat.le_of_eq hlen) fun h₆ F₆ N₆ => ?_
  clear F₅ N₅ apI apH hIh hoI oI
  -- off = []
  refine r_assignK fun K hK => (List_ (args_nil (r_newList F₆ N₆ fun lo h₇ F₇ N₇ ltO lLO => r_storeK hK F₇ N₇ fun h₈ tk₈ F₈ N₈ => ?_)))
  have oh : @LT.lt Nat _ lh lo := ltO _ (.head _)
  -- while heap != []
  have hfl : (ds.foldl (hpush ltN) []).length = ds.length := by rw [foldl_push_length]; simp
  obtain ⟨J, hJ⟩ := hide (fun (q : Nat) (m₁ : Str → Option Value) (nw : List (Addr × Obj)) => ∃ (hs us : List Value) (eh eo : Nat) (tups : List (Addr × Obj)) (H U : List Nat), q = H.length ∧ H.length ≤ ds.length ∧ nw = (lo, listOf us.toArray eo) :: (lh, listOf hs.toArray eh) :: (tups ++ news) ∧ (∀ p ∈ tups, @LT.lt Nat _ lo p.1) ∧ Rel2 RS hs H ∧ Rel2 (RT num tups) us U ∧
    U ++ pops H.length H = hsort ds ∧ U.length + H.length = ds.length ∧ m₁ "heap" = some (.ref lh) ∧ m₁ "off" = some (.ref lo))
  refine r_while J F₈ N₈ (by rw [hJ]; exact ⟨hs, [], eh, 0, [], _, [], rfl, by omega, rfl, (fun _ h => nomatch h), hvh, Rel2.nil, by unfold hsort; rw [hfl]; rfl, by rw [hfl]; simp, put_ne (by decide) mh, put_eq⟩) ?_
  clear F₆ N₆ F₇ N₇ F₈ N₈ hvh mh hlh
  rintro q m₁ nw h₉ tk₉ F₉ N₉ j
  rw [hJ] at j
  obtain ⟨hs, us, eh, eo, tups, H, U, rfl, hHl, rfl, htups, hvh, hvu, heq, hUl, mh, mo⟩ := j
  have hlh := hvh.1
  have hlu := hvu.1
  refine wpAny_isTrue_Compare1 (r_name F₉ mh (List_ (args_nil (r_newList F₉ N₉ fun ln h₁₀ F₁₀ N₁₀ _ _ => r_neNil N₁₀ (.tail _ (.tail _ (.head _))) (.head _) (show A.units + 3 < _ from lessBy hu (by decide)) (wpAny_truthy_bool ?_)))))
  have N₁₀' : News g L' h₁₀ ((lo, listOf us.toArray eo) :: (lh, listOf hs.toArray eh) :: (tups ++ news)) := fun p hp => N₁₀ p (.tail _ hp)
  clear F₉ N₉ N₁₀
  refine ifBool (fun hb => ?_) (fun hb => ?_)
  · have hb' : 0 < H.length := by have := of_decide_eq_true hb; omega
    clear hb
    obtain ⟨v, hv0, hr0⟩ := hvh.get hb'
    refine r_assignK fun K hK => (Subscript_ (r_name F₁₀ mh (r_int fun _ _ => item' (k := 0) N₁₀' (.tail _ (.head _)) hv0 (by decide) (r_storeK hK F₁₀ N₁₀' fun h₁₁ tk₁₁ F₁₁ N₁₁ => ?_))))
    refine wpAny_execs_cons (wpAny_If (wpAny_isTrue_Compare1 (r_callK C' (kp28 w) (r_gname C' F₁₁ (ns_heappop w) ⟨rfl, args_cons (r_name F₁₁ (put_ne (by decide) mh) (args_nil ⟨C'.kin F₁₁, ?_⟩))⟩))))
    refine heappop_call (vs := hs) (n := eh) (rest := (lo, listOf us.toArray eo) :: (tups ++ news)) C' F₁₁ (Mine.News.sub N₁₁ (by walk_at "sub")) (by walk_at "apart") (show A.depth + 3 < _ from lessBy hdp (by decide)) (show A.units + 43 < _ from lessBy hu (by decide)) (cmpS w _) hvh hb' (by omega) fun x hs' eh' h₁₂ tk₁₂ hrx F₁₂ N₁₂ hvh' => ?_
    obtain ⟨hd48, tv, rfl⟩ := hr0
    obtain ⟨_, tx, rfl⟩ := hrx
    refine r_name F₁₂ put_eq (PyProof.Rows.ne_str (s := st s h₁₂ tk₁₂) (wpAny_truthy_bool ?_))
    rw [if_neg (by simp)]
    refine wpAny_execs_nil ?_
    obtain ⟨d, hd0⟩ : ∃ d, H.getD 0 default = d := ⟨_, rfl⟩
    rw [hd0] at F₁₂ hd48
    -- off.append((top, EXACT_TOKEN_TYPES.get(top)))
    refine wpAny_execs_cons (wpAny_Expr (MethodCall_ (r_name F₁₂ (put_ne (by decide) mo) (kl_method (s := st s h₁₂ tk₁₂) N₁₂ (.tail _ (.head _)) PySem.F.slot_list_append PySem.F.type_list_append (callWith_method1 (args_cons ?_))))))
    refine Tuple_ (args_cons (r_name F₁₂ put_eq (args_cons (MethodCall_ (r_gname C' F₁₂ (ns_tab w) (r_getMethod (C'.kin F₁₂) (callWith_method1 (args_cons (r_name F₁₂ put_eq (args_nil ?_)))))))))) 
    refine r_get (C'.kin F₁₂) hd48 fun tk₁₃ => args_nil (r_pair' F₁₂ N₁₂ fun T h₁₃ F₁₃ N₁₃ ltT _ => args_nil ?_)
    have lT : @LT.lt Nat _ lo T := ltT (lo, listOf us.toArray eo) (.tail _ (.head _))
    have lT2 : @LT.lt Nat _ lh T := ltT (lh, listOf hs'.toArray eh') (.head _)
    refine r_append (vs := us) (n := eo) (rest := (lh, listOf hs'.toArray eh') :: (((T, prO (.str (sgn d) tv) (.int (num d) (numTok d))) :: tups) ++ news)) F₁₃ (Mine.News.sub N₁₃ (by walk_at "sub")) ?_ (by omega) fun h₁₄ F₁₄ N₁₄ => ?_
    · rw [List.cons_append]
      have hbase' : ∀ p ∈ news, @LT.lt Nat _ p.1 lo := fun p hp => Nat.lt_trans (hbase p hp) oh
      walk_at "apart"
    refine wpAny_execs_nil (r_again (.inl rfl) F₁₄ N₁₄ (n' := (hpop ltN H).length) (by rw [hpop_length]; omega) ?_)
    rw [hJ]
    refine ⟨hs', us ++ [.ref T], eh', eo + 1, (T, prO (.str (sgn d) tv) (.int (num d) (numTok d))) :: tups, hpop ltN H, U ++ [d], rfl, by rw [hpop_length]; omega, rfl, ?_, hvh', ?_, ?_, ?_, put_ne (by decide) mh, put_ne (by decide) mo⟩
    · intro p hp
      rcases List.mem_cons.mp hp with rfl | hp
      · exact lT
      · exact htups p hp
    · exact (hvu.mono fun v d r => RT.mono (fun p hp => .tail _ hp) r).snoc ⟨hd48, T, tv, _, rfl, .head _⟩
    · rw [← heq, hpop_length]
      obtain ⟨c, hc⟩ : ∃ c, H.length = c + 1 := ⟨H.length - 1, by omega⟩
      rw [hc]
      show U ++ [d] ++ pops (c + 1 - 1) (hpop ltN H) = U ++ (H.getD 0 default :: pops c (hpop ltN H))
      rw [hd0]; simp
    · rw [hpop_length]; simp; omega
  · have hb' : H = [] := by
      have := of_decide_eq_false hb
      exact List.length_eq_zero_iff.mp (by omega)
    subst hb'
    refine wpAny_execs_cons (wpAny_Return_some (r_name F₁₀ mo ?_))
    refine leaveB hQx F₁₀ N₁₀' fun F N => k lo us eo tups _ _ F (Mine.News.sub N (by walk_at "sub")) (fun p hp => ltO p (.tail _ hp)) htups ?_
    have : U = hsort ds := by rw [← heq]; simp [pops]
    rw [← this]; exact hvu
end

section
set_option maxRecDepth 10000
theorem getD_set (ds : List Nat) (i j x : Nat) : (ds.set i x).getD j 0 = if i = j ∧ i < ds.length then x else ds.getD j 0 := by
  simp only [List.getD, List.getElem?_set]
  by_cases h : i = j
  · subst h
    by_cases h2 : i < ds.length
    · simp [h2]
    · simp [h2]
  · simp [h]
theorem hne {p i n : Nat} (h0 : 0 < i) (e : p = (i - 1) / 2) : ¬ (p = i ∧ p < n) := by omega
theorem kid {p c : Nat} (h : c = 2 * p + 1 ∨ c = 2 * p + 2) : 0 < c ∧ (c - 1) / 2 = p ∧ p < c := by omega
theorem upNe {i c p : Nat} (e : (i - 1) / 2 = c) (h : p < c) : i ≠ p := by omega
theorem getD_def (ds : List Nat) (i : Nat) : ds.getD i default = ds.getD i 0 := rfl
def IsHeap (ds : List Nat) : Prop := ∀ i, 0 < i → i < ds.length → ds.getD ((i - 1) / 2) 0 ≤ ds.getD i 0
/-- all edges that do not touch p -/
def Off (ds : List Nat) (p : Nat) : Prop := ∀ i, 0 < i → i < ds.length → i ≠ p → (i - 1) / 2 ≠ p → ds.getD ((i - 1) / 2) 0 ≤ ds.getD i 0
/-- the grandparent's word -/
def Gp (ds : List Nat) (p : Nat) : Prop := 0 < p → ∀ i, 0 < i → i < ds.length → (i - 1) / 2 = p → ds.getD ((p - 1) / 2) 0 ≤ ds.getD i 0
theorem sdGo_heap (x : Nat) : ∀ (f : Nat) (ds : List Nat) (p : Nat), p ≤ f → p < ds.length → Off ds p → Gp ds p → (∀ i, 0 < i → i < ds.length → (i - 1) / 2 = p → x ≤ ds.getD i 0) → IsHeap (sdGo ltN x 0 f ds p) := by
  have done : ∀ (ds : List Nat) (p : Nat), p < ds.length → Off ds p → (∀ i, 0 < i → i < ds.length → (i - 1) / 2 = p → x ≤ ds.getD i 0) → (0 < p → ds.getD ((p - 1) / 2) 0 ≤ x) → IsHeap (ds.set p x) := by
    intro ds p hp off ch pa i h0 hi
    rw [List.length_set] at hi
    rw [getD_set, getD_set]
    by_cases e1 : p = (i - 1) / 2
    · rw [if_pos ⟨e1, hp⟩, if_neg (hne h0 e1)]
      exact ch i h0 hi e1.symm
    · rw [if_neg fun q => e1 q.1]
      by_cases e2 : p = i
      · rw [if_pos ⟨e2, hp⟩]
        subst e2; exact pa h0
      · rw [if_neg fun q => e2 q.1]
        exact off i h0 hi (fun q => e2 q.symm) (fun q => e1 q.symm)
  intro f
  induction f with
  | zero =>
    intro ds p hpf hp off gp ch
    have : p = 0 := by omega
    subst this
    exact done ds 0 hp off ch (by omega)
  | succ f ih =>
    intro ds p hpf hp off gp ch
    unfold sdGo
    by_cases hp0 : 0 < p
    · rw [if_pos hp0, getD_def]
      by_cases hl : ltN x (ds.getD ((p - 1) / 2) 0) = true
      · rw [if_pos hl]
        have hl' : x < ds.getD ((p - 1) / 2) 0 := of_decide_eq_true hl
        have hq : (p - 1) / 2 < p := by omega
        refine ih _ _ (by omega) (by rw [List.length_set]; omega) ?_ ?_ ?_
        · intro i h0 hi n1 n2
          rw [List.length_set] at hi
          rw [getD_set, getD_set]
          by_cases e1 : p = (i - 1) / 2
          · rw [if_pos ⟨e1, hp⟩, if_neg (hne h0 e1)]
            exact gp hp0 i h0 hi e1.symm
          · rw [if_neg fun q => e1 q.1]
            by_cases e2 : p = i
            · subst e2; omega
            · rw [if_neg fun q => e2 q.1]
              exact off i h0 hi (fun q => e2 q.symm) (fun q => e1 q.symm)
        · intro hq0 i h0 hi e
          rw [List.length_set] at hi
          rw [getD_set, getD_set, if_neg (by omega)]
          have g1 := off ((p - 1) / 2) hq0 (by omega) (by omega) (by omega)
          by_cases e2 : p = i
          · rw [if_pos ⟨e2, hp⟩]; exact g1
          · rw [if_neg fun q => e2 q.1]
            have g2 := off i h0 hi (fun q => e2 q.symm) (by rw [e]; exact Nat.ne_of_lt hq)
            rw [e] at g2
            omega
        · intro i h0 hi e
          rw [List.length_set] at hi
          rw [getD_set]
          by_cases e2 : p = i
          · rw [if_pos ⟨e2, hp⟩]; omega
          · rw [if_neg fun q => e2 q.1]
            have g2 := off i h0 hi (fun q => e2 q.symm) (by rw [e]; exact Nat.ne_of_lt hq)
            rw [e] at g2
            omega
      · rw [if_neg hl]
        have hl' : ¬ x < ds.getD ((p - 1) / 2) 0 := fun h => hl (decide_eq_true h)
        exact done ds p hp off ch fun _ => by omega
    · rw [if_neg hp0]
      exact done ds p hp off ch (by omega)

theorem suGo_off : ∀ (f : Nat) (ds : List Nat) (p : Nat), ds.length - p ≤ f → p < ds.length → Off ds p → Gp ds p →
    Off (suGo ltN f ds p).1 (suGo ltN f ds p).2 ∧ (suGo ltN f ds p).1.length ≤ 2 * (suGo ltN f ds p).2 + 1 := by
  intro f
  induction f with
  | zero => intro ds p h1 h2; omega
  | succ f ih =>
    intro ds p hf hp off gp
    unfold suGo
    by_cases hc : 2 * p + 1 < ds.length
    · rw [if_pos hc, getD_def]
      have hpl := pick_lt ltN ds (2 * p + 1) hc
      have hpk : pick ltN ds (2 * p + 1) = 2 * p + 1 ∨ pick ltN ds (2 * p + 1) = 2 * p + 2 := by unfold pick; (repeat' split) <;> omega
      have hmin : ∀ i, 0 < i → i < ds.length → (i - 1) / 2 = p → ds.getD (pick ltN ds (2 * p + 1)) 0 ≤ ds.getD i 0 := by
        intro i h0 hi e
        have hi' : i = 2 * p + 1 ∨ i = 2 * p + 2 := by omega
        unfold pick
        by_cases hr : 2 * p + 1 + 1 < ds.length
        · rw [if_pos hr, getD_def, getD_def]
          by_cases hl : ltN (ds.getD (2 * p + 1) 0) (ds.getD (2 * p + 1 + 1) 0) = true
          · rw [if_pos hl]
            have := of_decide_eq_true hl
            rcases hi' with rfl | rfl
            · exact Nat.le_refl _
            · exact Nat.le_of_lt this
          · rw [if_neg hl]
            have : ¬ ds.getD (2 * p + 1) 0 < ds.getD (2 * p + 1 + 1) 0 := fun h => hl (decide_eq_true h)
            rcases hi' with rfl | rfl
            · omega
            · exact Nat.le_refl _
        · rw [if_neg hr]
          have : i = 2 * p + 1 := by omega
          subst this; exact Nat.le_refl _
      generalize pick ltN ds (2 * p + 1) = c at *
      refine ih _ _ (by rw [List.length_set]; omega) (by rw [List.length_set]; exact hpl) ?_ ?_
      · intro i h0 hi n1 n2
        rw [List.length_set] at hi
        rw [getD_set, getD_set]
        by_cases e1 : p = (i - 1) / 2
        · rw [if_pos ⟨e1, hp⟩, if_neg (hne h0 e1)]
          exact hmin i h0 hi e1.symm
        · rw [if_neg fun q => e1 q.1]
          by_cases e2 : p = i
          · rw [if_pos ⟨e2, hp⟩]
            subst e2
            exact gp h0 c (kid hpk).1 hpl (kid hpk).2.1
          · rw [if_neg fun q => e2 q.1]
            exact off i h0 hi (fun q => e2 q.symm) (fun q => e1 q.symm)
      · intro _ i h0 hi e
        rw [List.length_set] at hi
        rw [getD_set, getD_set, if_pos ⟨(kid hpk).2.1.symm, hp⟩, if_neg fun q => upNe e (kid hpk).2.2 q.1.symm]
        have := off i h0 hi (upNe e (kid hpk).2.2) (by rw [e]; exact Nat.ne_of_gt (kid hpk).2.2)
        rw [e] at this
        exact this
    · rw [if_neg hc]
      exact ⟨off, by show ds.length ≤ 2 * p + 1; omega⟩

/-! counts -/
theorem cnt_set (ds : List Nat) (i x b : Nat) (h : i < ds.length) : (ds.set i x).count b + (if ds.getD i 0 = b then 1 else 0) = ds.count b + (if x = b then 1 else 0) := by
  rw [List.count_set h]
  have e : ds.getD i 0 = ds[i] := by simp [h]
  have hm : ds[i] ∈ ds := List.getElem_mem h
  rw [e]
  simp only [beq_iff_eq]
  by_cases h1 : ds[i] = b
  · have : 0 < ds.count b := List.count_pos_iff.mpr (h1 ▸ hm)
    simp only [h1, if_true]; omega
  · simp only [if_neg h1]; omega
theorem cnt_move (ds : List Nat) (i j x b : Nat) (hi : i < ds.length) (hj : j < ds.length) (hij : i ≠ j) : ((ds.set i (ds.getD j 0)).set j x).count b = (ds.set i x).count b := by
  have a1 := cnt_set (ds.set i (ds.getD j 0)) j x b (by rw [List.length_set]; exact hj)
  rw [getD_set, ite_self] at a1
  have a2 := cnt_set ds i (ds.getD j 0) b hi
  have a3 := cnt_set ds i x b hi
  omega
theorem sdGo_cnt (x b : Nat) : ∀ (f : Nat) (ds : List Nat) (p : Nat), p < ds.length → (sdGo ltN x 0 f ds p).count b = (ds.set p x).count b := by
  intro f
  induction f with
  | zero => intro ds p _; rfl
  | succ f ih =>
    intro ds p hp
    unfold sdGo
    by_cases hp0 : 0 < p
    · rw [if_pos hp0, getD_def]
      split
      · rw [ih _ _ (by rw [List.length_set]; omega)]
        exact cnt_move ds p ((p - 1) / 2) x b hp (by omega) (by omega)
      · rfl
    · rw [if_neg hp0]
theorem suGo_cnt (x b : Nat) : ∀ (f : Nat) (ds : List Nat) (p : Nat), p < ds.length → ((suGo ltN f ds p).1.set (suGo ltN f ds p).2 x).count b = (ds.set p x).count b := by
  intro f
  induction f with
  | zero => intro ds p _; rfl
  | succ f ih =>
    intro ds p hp
    unfold suGo
    by_cases hc : 2 * p + 1 < ds.length
    · rw [if_pos hc, getD_def]
      have hpl := pick_lt ltN ds (2 * p + 1) hc
      have hpg := pick_ge ltN ds (2 * p + 1)
      rw [ih _ _ (by rw [List.length_set]; exact hpl)]
      exact cnt_move ds p _ x b hp hpl (by omega)
    · rw [if_neg hc]
theorem set_self (ds : List Nat) (i : Nat) : ds.set i (ds.getD i 0) = ds := by
  apply List.ext_getElem?
  intro j
  rw [List.getElem?_set]
  by_cases h : i = j
  · subst h
    rw [if_pos rfl]
    by_cases h2 : i < ds.length
    · rw [if_pos h2]; simp [h2]
    · rw [if_neg h2]; simp [List.getElem?_eq_none (Nat.not_lt.mp h2)]
  · rw [if_neg h]
theorem hpush_cnt (ds : List Nat) (d b : Nat) : (hpush ltN ds d).count b = ds.count b + (if d = b then 1 else 0) := by
  unfold hpush sd
  rw [sdGo_cnt _ _ _ _ _ (by simp), getD_def, set_self]
  rw [List.count_append, List.count_singleton]
  simp only [beq_iff_eq]
theorem hpush_heap (ds : List Nat) (d : Nat) (h : IsHeap ds) : IsHeap (hpush ltN ds d) := by
  unfold hpush sd
  have gd : ∀ i, i < ds.length → (ds ++ [d]).getD i 0 = ds.getD i 0 := fun i hi => by simp only [List.getD, List.getElem?_append_left hi]
  refine sdGo_heap _ _ _ _ (Nat.le_refl _) (by simp) ?_ ?_ ?_
  · intro i h0 hi n1 _
    have hi' : i < ds.length := by simp at hi; omega
    rw [gd _ (by omega), gd _ hi']
    exact h i h0 hi'
  · intro _ i h0 hi e
    simp at hi; omega
  · intro i h0 hi e
    simp at hi; omega
theorem su_heap (ds : List Nat) (h0 : 0 < ds.length) (off : Off ds 0) : IsHeap (su ltN ds 0) := by
  unfold su sd
  have := suGo_off (ds.length - 0) ds 0 (by omega) h0 off (by intro h; omega)
  have sp := suGo_spec ltN (ds.length - 0) ds 0 h0
  generalize suGo ltN (ds.length - 0) ds 0 = r at *
  obtain ⟨o, l⟩ := this
  refine sdGo_heap _ _ _ _ (Nat.le_refl _) (by rw [List.length_set]; omega) ?_ ?_ ?_
  · intro i h0 hi n1 n2
    rw [List.length_set] at hi
    rw [getD_set, getD_set, if_neg fun q => n2 q.1.symm, if_neg fun q => n1 q.1.symm]
    exact o i h0 hi n1 n2
  · intro _ i h0 hi e
    rw [List.length_set] at hi; omega
  · intro i h0 hi e
    rw [List.length_set] at hi; omega
theorem su_cnt (ds : List Nat) (b : Nat) (h0 : 0 < ds.length) : (su ltN ds 0).count b = ds.count b := by
  unfold su sd
  have sp := suGo_spec ltN (ds.length - 0) ds 0 h0
  rw [sdGo_cnt _ _ _ _ _ (by rw [List.length_set]; omega)]
  simp only [getD_def]
  rw [set_self, suGo_cnt _ _ _ _ _ h0, set_self]
theorem hpop_eq (ds : List Nat) (d : Nat) : hpop ltN (ds ++ [d]) = if 0 < ds.length then su ltN (ds.set 0 d) 0 else [] := by unfold hpop; simp
theorem hpop_heap (H : List Nat) (h : IsHeap H) : IsHeap (hpop ltN H) := by
  rcases List.eq_nil_or_concat H with rfl | ⟨ds, d, rfl⟩
  · intro i _ hi; simp [hpop] at hi
  · rw [List.concat_eq_append, hpop_eq]
    split
    · rename_i h0
      refine su_heap _ (by rw [List.length_set]; exact h0) ?_
      intro i i0 hi n1 n2
      rw [List.length_set] at hi
      rw [getD_set, getD_set, if_neg fun q => n2 q.1.symm, if_neg fun q => n1 q.1.symm]
      have := h i i0 (by simp; omega)
      have gd : ∀ i, i < ds.length → (ds ++ [d]).getD i 0 = ds.getD i 0 := fun i hi => by simp only [List.getD, List.getElem?_append_left hi]
      rw [List.concat_eq_append, gd _ (by omega), gd _ hi] at this
      exact this
    · intro i _ hi; simp at hi
theorem hpop_cnt (H : List Nat) (b : Nat) (h0 : 0 < H.length) : (hpop ltN H).count b + (if H.getD 0 0 = b then 1 else 0) = H.count b := by
  rcases List.eq_nil_or_concat H with rfl | ⟨ds, d, rfl⟩
  · simp at h0
  · rw [List.concat_eq_append, hpop_eq]
    by_cases hd : 0 < ds.length
    · rw [if_pos hd, su_cnt _ _ (by rw [List.length_set]; exact hd)]
      have := cnt_set ds 0 d b hd
      rw [show (ds ++ [d]).getD 0 0 = ds.getD 0 0 from by simp only [List.getD, List.getElem?_append_left hd], List.count_append, List.count_singleton]
      simp only [beq_iff_eq]
      omega
    · have : ds = [] := List.length_eq_zero_iff.mp (by omega)
      subst this
      simp [List.count_singleton]
theorem heap_min (H : List Nat) (h : IsHeap H) : ∀ i, i < H.length → H.getD 0 0 ≤ H.getD i 0 := by
  intro i
  induction i using Nat.strongRecOn with
  | ind i ih =>
    intro hi
    by_cases h0 : 0 < i
    · exact Nat.le_trans (ih ((i - 1) / 2) (by omega) (by omega)) (h i h0 hi)
    · have : i = 0 := by omega
      subst this; exact Nat.le_refl _
theorem pops_spec : ∀ (n : Nat) (H : List Nat), H.length = n → IsHeap H → (pops n H).Pairwise (· ≤ ·) ∧ ∀ b, (pops n H).count b = H.count b := by
  intro n
  induction n with
  | zero => intro H hl _; rw [List.length_eq_zero_iff.mp hl]; exact ⟨.nil, fun b => rfl⟩
  | succ n ih =>
    intro H hl hh
    obtain ⟨s1, s2⟩ := ih (hpop ltN H) (by rw [hpop_length]; omega) (hpop_heap H hh)
    have cn := fun b => hpop_cnt H b (by omega)
    refine ⟨?_, fun b => ?_⟩
    · show (H.getD 0 default :: pops n (hpop ltN H)).Pairwise _
      refine List.pairwise_cons.mpr ⟨fun y hy => ?_, s1⟩
      have hy' : 0 < H.count y := by
        have := List.count_pos_iff.mpr hy
        rw [s2] at this
        have := cn y
        omega
      obtain ⟨i, hi, e⟩ := List.getElem_of_mem (List.count_pos_iff.mp hy')
      have := heap_min H hh i hi
      rw [show H.getD i 0 = y from by simp [hi, e]] at this
      exact this
    · show (H.getD 0 default :: pops n (hpop ltN H)).count b = _
      rw [List.count_cons, s2, ← cn b, getD_def]
      simp only [beq_iff_eq]
theorem push_spec (ds : List Nat) : ∀ H, IsHeap H → IsHeap (ds.foldl (hpush ltN) H) ∧ ∀ b, (ds.foldl (hpush ltN) H).count b = H.count b + ds.count b := by
  induction ds with
  | nil => intro H h; exact ⟨h, fun b => by simp⟩
  | cons d ds ih =>
    intro H h
    obtain ⟨a, c⟩ := ih (hpush ltN H d) (hpush_heap H d h)
    refine ⟨a, fun b => ?_⟩
    rw [List.foldl_cons, c, hpush_cnt, List.count_cons]
    simp only [beq_iff_eq]; omega
theorem hsort_spec (ds : List Nat) : (hsort ds).Pairwise (· ≤ ·) ∧ (hsort ds).Perm ds := by
  obtain ⟨a, c⟩ := push_spec ds [] (fun i _ h => by simp at h)
  obtain ⟨p, q⟩ := pops_spec ds.length (ds.foldl (hpush ltN) []) (by rw [foldl_push_length]; simp) a
  refine ⟨p, List.perm_iff_count.mpr fun b => ?_⟩
  unfold hsort
  rw [q, c]; simp
end

section
open PySem PySem.W PyProof.Rows PySem.Calls
set_option maxRecDepth 100000
set_option maxHeartbeats 8000000
noncomputable def one : Str := Str.ofString "( ) [ ] : , ; + - * / | & < > = . % { } == != <= >= ~ ^ << >> ** "
noncomputable def two : Str := Str.ofString "+= -= *= /= %= &= |= ^= <<= >>= **= // //= @ @= -> ... := !"
theorem row_split : Txt.split (one ++ two) (Str.ofString " ") = rowPl.map sgn := by decide +kernel
theorem rowPl_len : rowPl.length = 48 := rfl
theorem rowPl_lt : ∀ d ∈ rowPl, d < 48 := by decide +kernel
theorem rel_strs : ∀ (l : List (Str × Tok)) (ds : List Nat), l.map (·.1) = ds.map sgn → (∀ d ∈ ds, d < 48) → Rel2 RS (strValues l) ds
  | [], [], _, _ => Rel2.nil
  | [], d :: ds, h, _ => by simp at h
  | p :: l, [], h, _ => by simp at h
  | p :: l, d :: ds, h, hd => by
    simp only [List.map_cons, List.cons.injEq] at h
    have ih := rel_strs l ds h.2 fun d hd' => hd d (.tail _ hd')
    refine ⟨by simp [strValues]; have := ih.1; simpa [strValues] using this, fun k v d' h1 h2 => ?_⟩
    cases k with
    | zero =>
      simp only [strValues, List.map_cons, List.getElem?_cons_zero, Option.some.injEq] at h1 h2
      subst h1; subst h2
      exact ⟨hd _ (.head _), p.2, by rw [← h.1]⟩
    | succ k =>
      simp only [strValues, List.map_cons, List.getElem?_cons_succ] at h1 h2
      exact ih.2 k v d' h1 h2
theorem law_row_call {w : World} {A : Around} {E : Value → Shared → Prop} {s : Shared} {h : Heap} {tk : Nat} {L : Addr} {h₀ : Heap} {m : Str → Option Value} {news : List (Addr × Obj)} {Q : Value → Shared → Prop}
    (C : At w A h₀ L) (F : Fr h₀ L h m) (N : News h₀ L h news) (hdp : A.depth + 1 < recursionLimit)
    (k : ∀ l vs e h' tk', Fr h₀ L h' m → News h₀ L h' ((l, listOf vs.toArray e) :: news) → (∀ p ∈ news, p.1 < l) → Rel2 RS vs rowPl → Q (.ref l) (st s h' tk')) :
    wpAny (Mo w) A (call (.ref 106) []) Q E (st s h tk) := by
  refine' enter [] C F N ?k6 ?k7 (lessBy0 hdp) ?k9 ?kB ?c2 ?c3 ?c4 ?c5 ?_
  case k6 => exact rfl
  case k7 => exact rfl
  case k9 => exact rfl
  case c5 => decide
  case kB => exact rfl
  case c2 => exact rfl
  case c3 => exact rfl
  case c4 => exact rfl
  intro g L' h₁ tk₁ F₁ N₁ C' Qx hQx
  refine r_assignK fun K hK => (wpAny_Constant_str (s := st s h₁ tk₁) (r_storeK hK F₁ N₁ fun h₂ tk₂ F₂ N₂ => ?_))
  refine r_assignK fun K hK => (wpAny_Constant_str (s := st s h₂ tk₂) (r_storeK hK F₂ N₂ fun h₃ tk₃ F₃ N₃ => ?_))
  refine wpAny_execs_cons (wpAny_Return_some (MethodCall_ (wpAny_BinOp (r_name F₃ (put_ne (by decide) put_eq) (r_name F₃ put_eq (PyProof.Rows.add_str (s := st s h₃ tk₃) (x := one) (y := two) (fun t4 tk4 => ?_) (by rw [sizeLine_eq]; decide +kernel)))))))
  refine getMethod_builtin (T := "str") rfl PySem.F.plainAttrs_str PySem.F.slot_str_split PySem.F.type_str_split (fun a e => nomatch e) (callWith_method1 (args_cons (wpAny_Constant_str (s := st s h₃ tk4) (args_nil ?_))))
  refine KSpl.split1 (s := st s h₃ (tk4 + 1)) (x := one ++ two) (y := Str.ofString " ") F₃ N₃ (by decide) (fun D l h' kk e a F' N' lt => ?_) (by rw [sizeLine_eq]; decide +kernel)
  rw [row_split] at e
  exact leaveB hQx F' N' fun F N => k _ _ _ _ _ F N lt (rel_strs l rowPl e rowPl_lt)
end

section
open PySem PySem.W PyProof.Rows PySem.Calls
set_option maxRecDepth 100000
set_option maxHeartbeats 8000000
section
variable {w : World} {A : Around} {E : Value → Shared → Prop} {s : Shared} {h : Heap} {tk : Nat} {L : Addr} {h₀ : Heap} {m : Str → Option Value} {news : List (Addr × Obj)}
theorem r_callK0 {env : Env} {fe : PySem.Expr} {pos : Pos} {f : Addr} {Q : Value → Shared → Prop} (hkp : keepIn (hd.heap_39 w.params) (.ref f) = true)
    (k : wpAny (Mo w) A (eval fe env) (fun v s₁ => v = .ref f ∧ (hd.heap_39 w.params).In s₁.heap ∧ wpAny (Mo w) A (call (.ref f) []) Q E s₁) E (st s h tk))
    (hc : eval (.Call fe [] [] pos) env = (do callWith pos (← eval fe env) [] (backTo pos (starEach [] env)) (backToKw pos (keywordEach [] env))) := by rfl) :
    wpAny (Mo w) A (eval (.Call fe [] [] pos) env) Q E (st s h tk) := by
  refine Call_ (wpAny_mono k (fun v s₁ hv => ?_) fun _ _ x => x) hc
  obtain ⟨rfl, X, hv⟩ := hv
  exact callWith_K0 X hkp hv
/-- a list cut: the slice's object is made, then the new list -/
theorem r_slice {value slice : PySem.Expr} {l : Addr} {its : Array Value} {vl vu vk : Value} {lo hi sp : Option Int} {Q : Value → Shared → Prop} (ops : Addr → List Value) (F : Fr h₀ L h m) (N : News h₀ L h news) (hl : h.IsList l its) (pl : IsPart vl lo) (pu : IsPart vu hi) (pk : IsPart vk sp) (h0 : sp ≠ some 0) (hz : its.size ≤ 1000)
    (k : ∀ D h', Fr h₀ L h' m → News h₀ L h' ((D, listOf (slicePick its lo hi sp) 0) :: news) → (∀ p ∈ news, p.1 < D) → L < D → Q (.ref D) (st s h' tk))
    (hs : ∀ a, subscripted slice false (.ref l) (.ref a) = operate (ops a) (getItem (.ref l) (.ref a))) :
    wpAny (Mo w) A (subscriptTail value slice (.ref l) (.ref h.objs.size)) Q E (st s (h.push { cls := .type "slice", data := .fields #[vl, vu, vk] }) tk) := by
  have hl1 : (st s (h.push { cls := .type "slice", data := .fields #[vl, vu, vk] }) tk).heap.IsList l its := hl.push _
  refine tail_any (T := "list") hl1.typeIs list_getitem_lookup (wpAny_getItem_list_slice hl1 (Heap.IsSliceOf.new ..) pl pu pk h0 ?_ (Nat.le_trans hz sizeLine_big)) (hs _)
  have F1 := F.push { cls := .type "slice", data := .fields #[vl, vu, vk] }
  have N1 : News h₀ L (h.push { cls := .type "slice", data := .fields #[vl, vu, vk] }) news := N.grown fun _ _ e => Heap.get?_push_of_some _ e
  exact k _ _ (F1.push _) (N1.push F1 _) (fun p hp => Heap.lt_size (N1 p hp).1) F1.ns.lt
theorem r_addL {l b : Addr} {vs ws : List Value} {Q : Value → Shared → Prop} (F : Fr h₀ L h m) (N : News h₀ L h news) (hl : h.IsList l vs.toArray) (hb : h.IsList b ws.toArray) (hz : vs.length + ws.length ≤ 1000)
    (k : ∀ D h', Fr h₀ L h' m → News h₀ L h' ((D, listOf (vs ++ ws).toArray 0) :: news) → (∀ p ∈ news, p.1 < D) → L < D → Q (.ref D) (st s h' tk)) :
    wpAny (Mo w) A (binaryOp .Add (.ref l) (.ref b)) Q E (st s h tk) :=
  add_lists (s := st s h tk) F N hl hb (fun h' F' N' => k _ h' F' N' (fun p hp => Heap.lt_size (N p hp).1) F.ns.lt) (Nat.le_trans hz sizeLine_big)
theorem r_newListV {vs : List Value} {Q : Value → Shared → Prop} (F : Fr h₀ L h m) (N : News h₀ L h news) (hz : vs.length ≤ 1000) (k : ∀ l h', Fr h₀ L h' m → News h₀ L h' ((l, listOf vs.toArray 0) :: news) → (∀ p ∈ news, p.1 < l) → L < l → Q (.ref l) (st s h' tk)) :
    wpAny (Mo w) A (newList vs) Q E (st s h tk) := newList_N (s := st s h tk) F N (fun h' F' N' => k _ h' F' N' (fun p hp => Heap.lt_size (N p hp).1) F.ns.lt) (Nat.le_trans hz sizeLine_big)
/-- list(EXACT_TOKEN_TYPES) -/
theorem r_listD {Q : Value → Shared → Prop} (hh : A.handled = none) (X : (hd.heap_39 w.params).In h) (F : Fr h₀ L h m) (N : News h₀ L h news)
    (k : ∀ D c h' tk' vs, Fr h₀ L h' m → News h₀ L h' ((D, listOf vs.toArray c) :: news) → (∀ q ∈ news, q.1 < D) → Rel2 RS vs (List.range 48) → Q (.ref D) (st s h' tk')) :
    wpAny (Mo w) A (call (.type "list") [.ref 97]) Q E (st s h tk) := by
  refine kdl_N (s := st s h tk) (kdl_dict (knd := PySem.strKind Challenge.rw_mj0271_01.row.prog w) (d := 97) (kvs := kvOf tabRows) (ep := 48) (by decide)) hh F N (tabAt X) (by rw [kv_len, sizeLine_eq]; decide) fun D c h' tk' vs F' N' lt hl hp => k D c h' tk' vs F' N' lt ⟨by rw [hl, kv_len, List.length_range], fun j v d h1 h2 => ?_⟩
  have hj : j < 48 := by
    rcases Nat.lt_or_ge j 48 with q | q
    · exact q
    · rw [List.getElem?_eq_none (by simpa using q)] at h2; cases h2
  rw [List.getElem?_range hj] at h2
  cases h2
  obtain ⟨kk, x, e, hk⟩ := hp j v h1
  rw [kv_at hj] at e
  cases e
  exact ⟨hj, Value.isStrOf_shape hk⟩
/-- eqBool of the table's signs -/
theorem eqRS {a b : Value} {x y : Nat} (ra : RS a x) (rb : RS b y) {B : Around} {t : Shared} : SeqAt.EqAt B t a b (decide (x = y)) := fun prog w E Q hq => by
  obtain ⟨hx, u, rfl⟩ := ra
  obtain ⟨hy, v, rfl⟩ := rb
  refine wpAny_eqBool_str ?_
  rw [show decide (sgn x = sgn y) = decide (x = y) from by
    by_cases e : x = y
    · subst e; simp
    · rw [decide_eq_false e, decide_eq_false (sgn_ne hx hy e)]]
  exact hq
/-- xs.index(sign), the signs of xs different ones -/
theorem r_index {l : Addr} {vs : List Value} {ds : List Nat} {n : Nat} {v : Value} {d j : Nat} {Q : Value → Shared → Prop} (N : News h₀ L h news) (hm : (l, listOf vs.toArray n) ∈ news) (hv : Rel2 RS vs ds) (hr : RS v d) (hj : ds[j]? = some d) (hno : ∀ i < j, ds[i]? ≠ some d) (hsz : ds.length < 1000)
    (k : ∀ t tk', Q (.int j t) (st s h tk')) : wpAny (Mo w) A (call (.builtin "list.index") [.ref l, v]) Q E (st s h tk) := by
  have hlen := hv.1
  have hjl : j < ds.length := by
    rcases Nat.lt_or_ge j ds.length with q | q
    · exact q
    · rw [List.getElem?_eq_none q] at hj; cases hj
  have hz := (N _ hm).1
  obtain ⟨_, tv, rfl⟩ := hr
  -- the places of vs
  have rel : ∀ i (hi : i < vs.toArray.size), RS vs.toArray[i] (ds.getD i default) := fun i hi => by
    obtain ⟨v', e, r⟩ := hv.get (k := i) (by rw [← hlen]; simpa using hi)
    have hi' : i < vs.length := by simpa using hi
    have : vs.toArray[i] = v' := by
      rw [List.getElem?_eq_getElem hi'] at e
      simpa using e
    rw [this]; exact r
  let e : Value → Bool := fun y => match y with | .str x _ => decide (x = sgn d) | _ => false
  have hd48 : d < 48 := by
    obtain ⟨v', e', r⟩ := hv.get hjl
    rw [show ds.getD j default = d from by simp [List.getD, hj]] at r
    exact r.1
  have ee : ∀ i (hi : i < vs.toArray.size), e vs.toArray[i] = decide (ds.getD i default = d) := fun i hi => by
    obtain ⟨h48, t, q⟩ := rel i hi
    rw [q]
    show decide (sgn (ds.getD i default) = sgn d) = _
    by_cases c : ds.getD i default = d
    · rw [c]; simp
    · rw [decide_eq_false c, decide_eq_false (sgn_ne h48 hd48 c)]
  refine call_meets (s := st s h tk) PySem.F.slot_list_index ⟨_, hz, rfl⟩ PySem.F.entry_list_index (PySem.F.args_list_index_2 _ _)
    (SeqAt.list_indexAt l vs.toArray n none #[] (.str (sgn d) tv) e j (by rw [List.size_toArray]; omega) (by omega) ?_ ?_) ⟨hz, ?_, k _ _⟩
  · rw [ee]; simp [List.getD, hj]
  · intro i hi hij
    rw [ee]
    refine decide_eq_false fun c => hno i hij ?_
    have : i < ds.length := by omega
    rw [List.getElem?_eq_getElem this]
    rw [← c]; simp [List.getD, List.getElem?_eq_getElem this]
  · intro y hy
    obtain ⟨i, hi, rfl⟩ := Array.getElem_of_mem hy
    rw [ee i hi]
    exact eqRS (rel i hi) ⟨hd48, tv, rfl⟩
/-- sign in xs -/
theorem r_in {l : Addr} {vs : List Value} {ds : List Nat} {n : Nat} {v : Value} {d : Nat} {Q : Value → Shared → Prop} (N : News h₀ L h news) (hm : (l, listOf vs.toArray n) ∈ news) (hv : Rel2 RS vs ds) (hr : RS v d)
    (k : Q (.bool (decide (d ∈ ds))) (st s h tk)) : wpAny (Mo w) A (compareOp .In v (.ref l)) Q E (st s h tk) := by
  have hlen := hv.1
  obtain ⟨hd48, tv, rfl⟩ := hr
  have rel : ∀ i (hi : i < vs.length), RS vs[i] (ds.getD i default) := fun i hi => by
    obtain ⟨v', e, r⟩ := hv.get (k := i) (by omega)
    rw [List.getElem?_eq_getElem hi] at e
    cases e; exact r
  let e : Value → Bool := fun y => match y with | .str x _ => decide (x = sgn d) | _ => false
  have ee : ∀ i (hi : i < vs.length), e vs[i] = decide (ds.getD i default = d) := fun i hi => by
    obtain ⟨h48, t, q⟩ := rel i hi
    rw [q]
    show decide (sgn (ds.getD i default) = sgn d) = _
    by_cases c : ds.getD i default = d
    · rw [c]; simp
    · rw [decide_eq_false c, decide_eq_false (sgn_ne h48 hd48 c)]
  refine SeqAt.in_listAt (s := st s h tk) e (PySem.IsL.isList (n := n) (N _ hm).1) (fun y hy => ?_) ?_
  · obtain ⟨i, hi, rfl⟩ := Array.getElem_of_mem hy
    have hi' : i < vs.length := by simpa using hi
    have q : vs.toArray[i] = vs[i] := by simp
    rw [q, ee i hi']
    exact eqRS (rel i hi') ⟨hd48, tv, rfl⟩
  · have : (vs.toArray.any e) = decide (d ∈ ds) := by
      rw [List.any_toArray, Bool.eq_iff_iff, List.any_eq_true, decide_eq_true_iff]
      constructor
      · rintro ⟨y, hy, h⟩
        obtain ⟨i, hi, rfl⟩ := List.getElem_of_mem hy
        rw [ee i hi] at h
        have c := of_decide_eq_true h
        rw [← c]
        have : i < ds.length := by omega
        simp [List.getD, List.getElem?_eq_getElem this]
      · intro h
        obtain ⟨i, hi, rfl⟩ := List.getElem_of_mem h
        have hi' : i < vs.length := by omega
        refine ⟨vs[i], List.getElem_mem hi', ?_⟩
        rw [ee i hi']
        simp [List.getD, List.getElem?_eq_getElem hi]
    rw [this]; exact k
/-- two lists of signs, the same ones -/
theorem r_eqS {l b : Addr} {vs us : List Value} {ds : List Nat} {n n' : Nat} {Q : Value → Shared → Prop} (N : News h₀ L h news) (h1 : (l, listOf vs.toArray n) ∈ news) (h2 : (b, listOf us.toArray n') ∈ news) (hv : Rel2 RS vs ds) (hw : Rel2 RS us ds) (hu : A.units < cLine)
    (k : Q (.bool true) (st s h tk)) : wpAny (Mo w) A (compareOp .Eq (.ref l) (.ref b)) Q E (st s h tk) := by
  have a1 := hv.1
  have a2 := hw.1
  refine SeqAt.eq_listAt (s := st s h tk) (e := fun _ => true) (PySem.IsL.isList (n := n) (N _ h1).1) (PySem.IsL.isList (n := n') (N _ h2).1) (by simp; omega) hu (fun j q1 q2 => ?_) ?_
  · have j1 : j < vs.length := by simpa using q1
    have j2 : j < us.length := by simpa using q2
    obtain ⟨v', e, r⟩ := hv.get (k := j) (by omega)
    obtain ⟨u', e', r'⟩ := hw.get (k := j) (by omega)
    rw [List.getElem?_eq_getElem j1] at e
    rw [List.getElem?_eq_getElem j2] at e'
    cases e; cases e'
    have := eqRS (B := A.in1) (t := st s h tk) r r'
    rw [decide_eq_true rfl] at this
    simpa using this
  · rw [show ((List.range vs.toArray.size).all fun _ => true) = true from by simp]; exact k
end
end

section
open PySem PySem.W PyProof.Rows PySem.Calls
set_option maxRecDepth 100000
set_option maxHeartbeats 8000000
section
variable {w : World} {A : Around} {E : Value → Shared → Prop} {s : Shared} {h : Heap} {tk : Nat} {L : Addr} {h₀ : Heap} {m : Str → Option Value} {news : List (Addr × Obj)}
/-- [elt for x in xs] -/
theorem nameLoop {D' : Type} [Inhabited D'] {g : Heap} {C D it l : Addr} {oI : Obj} {h₃ : Heap} {tk₃ e₀ : Nat} {mC : Str → Option Value} {base : List (Addr × Obj)} {vs : List Value} {ds : List D'} {RI : Value → D' → Prop} {scope : Scope} {cl : List (Str × Addr)} {env : Env} {iter elt : PySem.Expr} {pos px : Pos} {x : Str}
    {R : Result → Shared → Prop} {R' : List (Addr × Obj) → Value → D' → Prop}
    (mono : ∀ a b v d, R' b v d → R' (a ++ b) v d)
    (hh : A.handled = none) (hx : (compEnvC scope cl C env).kindOf x = some .local)
    (hp : ((compEnvC scope cl C env).scope.kind == .class || ((compEnvC scope cl C env).scope.kind == .module && (compEnvC scope cl C env).locals != (compEnvC scope cl C env).globals)) = false)
    (F : Fr g C h₃ mC) (hoI : LiIt oI l 0) (hl : (l, listOf vs.toArray e₀) ∈ base) (hv : Rel2 RI vs ds) (hsz : ds.length < 1000)
    (N : News g C h₃ ((D, listOf ([] : List Value).toArray 0) :: (it, oI) :: base)) (lDC : @LT.lt Nat _ D C) (hitD : @LT.lt Nat _ it D) (apD : ∀ p ∈ base, p.1 ≠ D) (apI : ∀ p ∈ base, p.1 ≠ it)
    (elem : ∀ {h : Heap} {tk : Nat} {m : Str → Option Value} {d : D'} {v : Value} {oI' : Obj} {us : List Value} {e : Nat} {tups : List (Addr × Obj)} {Q : Value → Shared → Prop}, d ∈ ds → RI v d → Fr g C h (put m x v) → News g C h ((D, listOf us.toArray e) :: (it, oI') :: (tups ++ base)) →
      (∀ v' h' tk' new, Fr g C h' (put m x v) → News g C h' ((D, listOf us.toArray e) :: (it, oI') :: ((new ++ tups) ++ base)) → (∀ p ∈ new, @LT.lt Nat _ C p.1) → R' (new ++ tups) v' d → Q v' (st s h' tk')) →
      wpAny (Mo w) A (eval elt (compEnvC scope cl C env)) Q (notedBy (Mo w) A (compEnvC scope cl C env) fun e s' => R (.error e) s') (st s h tk))
    (fin : ∀ h' tk' m' us e tups, Fr g C h' m' → News g C h' ((D, listOf us.toArray e) :: (tups ++ base)) → (∀ p ∈ tups, @LT.lt Nat _ C p.1) → Rel2 (R' tups) us ds → R (.ok .next) (st s h' tk')) :
    codeAny (Mo w) A (.compLoop (.ListComp elt [⟨.Name x px, iter, [], 0⟩] scope pos) 0 (.ref it) (.ref D) (compEnvC scope cl C env)) R (st s h₃ tk₃) := by
  have hlen := hv.1
  obtain ⟨J, hJ⟩ := hide (fun (k : Nat) (s' : Shared) => ∃ i h' tk' m' us e oI' tups, i ≤ ds.length ∧ k = ds.length + 1 - i ∧ s' = st s h' tk' ∧ Fr g C h' m' ∧ News g C h' ((D, listOf us.toArray e) :: (it, oI') :: (tups ++ base)) ∧ (∀ p ∈ tups, @LT.lt Nat _ C p.1) ∧ LiIt oI' l i ∧ Rel2 (R' tups) us (ds.take i))
  refine codeAny_compLoop_list J ?_ (ds.length + 1)
    (by rw [hJ]; exact ⟨0, h₃, tk₃, mC, [], 0, oI, [], Nat.zero_le _, rfl, rfl, F, N, (fun _ h => nomatch h), hoI, Rel2.nil⟩)
  rintro k s' j
  rw [hJ] at j
  obtain ⟨i, h', tk', m', us, e, oI', tups, hin, rfl, rfl, F', N', htups, ho', hu⟩ := j
  have hlu := hu.1
  rw [List.length_take] at hlu
  have apI' : ∀ q ∈ (D, listOf us.toArray e) :: (tups ++ base), q.1 ≠ it := fun q hq => by
    rcases List.mem_cons.mp hq with rfl | hq
    · exact Nat.ne_of_gt hitD
    · rcases List.mem_append.mp hq with hq | hq
      · exact Nat.ne_of_gt (Nat.lt_trans hitD (Nat.lt_trans lDC (htups q hq)))
      · exact apI q hq
  by_cases hlt : i < ds.length
  · obtain ⟨v, hvi, hr⟩ := hv.get hlt
    have hdi : ds[i]? = some (ds.getD i default) := by simp [List.getD, List.getElem?_eq_getElem hlt]
    generalize ds.getD i default = d at hr hdi
    refine r_nextL F' (Mine.News.sub N' (by walk_at "sub")) apI' (.tail _ (List.mem_append_right _ hl)) ho' hvi fun h₄ oI2 F₄ N₄ ho2 => ?_
    refine c_store F₄ N₄ (fun h₅ tk₅ F₅ N₅ => ?_) hx hp
    have N₅' : News g C h₅ ((D, listOf us.toArray e) :: (it, oI2) :: (tups ++ base)) := Mine.News.sub N₅ (by walk_at "sub")
    refine elem (List.mem_of_getElem? hdi) hr F₅ N₅' fun v' h₆ tk₆ new F₆ N₆ hnew hR' => ?_
    have apD' : ∀ q ∈ (it, oI2) :: ((new ++ tups) ++ base), q.1 ≠ D := fun q hq => by
      rcases List.mem_cons.mp hq with rfl | hq
      · exact Nat.ne_of_lt hitD
      · rcases List.mem_append.mp hq with hq | hq
        · rcases List.mem_append.mp hq with hq | hq
          · exact Nat.ne_of_gt (Nat.lt_trans lDC (hnew q hq))
          · exact Nat.ne_of_gt (Nat.lt_trans lDC (htups q hq))
        · exact apD q hq
    refine r_append F₆ N₆ apD' (by rw [hlu]; exact Nat.le_of_lt (Nat.lt_of_le_of_lt (Nat.min_le_right _ _) hsz)) fun h₈ F₈ N₈ => ?_
    refine ⟨ds.length + 1 - (i + 1), Nat.sub_lt_sub_left (Nat.lt_succ_of_lt hlt) (Nat.lt_succ_self i), ?_⟩
    rw [hJ]
    refine ⟨i + 1, h₈, _, _, us ++ [v'], e + 1, oI2, new ++ tups, hlt, rfl, rfl, F₈, N₈, (fun p hp => ?_), ho2, ?_⟩
    · rcases List.mem_append.mp hp with hp | hp
      · exact hnew p hp
      · exact htups p hp
    · rw [List.take_add_one, hdi]
      exact (hu.mono fun v d r => mono new tups v d r).snoc hR'
  · have hie : i = ds.length := Nat.le_antisymm hin (Nat.not_lt.mp hlt)
    subst hie
    refine r_nextL_end hh F' (Mine.News.sub N' (by walk_at "sub")) apI' (.tail _ (List.mem_append_right _ hl)) ho' (Nat.le_of_eq hlen) fun h₄ F₄ N₄ => ?_
    exact fin h₄ _ m' us e tups F₄ N₄ htups (by rw [List.take_length] at hu; exact hu)
/-- [sign for sign in row if sign in picks] -/
theorem filterLoop {g : Heap} {C D it l : Addr} {oI : Obj} {h₃ : Heap} {tk₃ e₀ : Nat} {mC : Str → Option Value} {base : List (Addr × Obj)} {vs : List Value} {ds : List Nat} {p : Nat → Bool} {scope : Scope} {cl : List (Str × Addr)} {env : Env} {iter c : PySem.Expr} {pos px pe : Pos} {x : Str}
    {R : Result → Shared → Prop}
    (hh : A.handled = none) (hk : (compEnvC scope cl C env).scope.kind = .function) (hx : (compEnvC scope cl C env).kindOf x = some .local) (hd : (x == ("__debug__" : Str)) = false)
    (hp : ((compEnvC scope cl C env).scope.kind == .class || ((compEnvC scope cl C env).scope.kind == .module && (compEnvC scope cl C env).locals != (compEnvC scope cl C env).globals)) = false)
    (F : Fr g C h₃ mC) (hoI : LiIt oI l 0) (hl : (l, listOf vs.toArray e₀) ∈ base) (hv : Rel2 RS vs ds) (hsz : ds.length < 1000)
    (N : News g C h₃ ((D, listOf ([] : List Value).toArray 0) :: (it, oI) :: base)) (hitD : it ≠ D) (apD : ∀ q ∈ base, q.1 ≠ D) (apI : ∀ q ∈ base, q.1 ≠ it)
    (test : ∀ {h : Heap} {tk : Nat} {m : Str → Option Value} {d : Nat} {v : Value} {oI' : Obj} {us : List Value} {e : Nat} {Q : Bool → Shared → Prop}, RS v d → Fr g C h (put m x v) → News g C h ((D, listOf us.toArray e) :: (it, oI') :: base) →
      (∀ tk', Q (p d) (st s h tk')) → wpAny (Mo w) A (isTrue c (compEnvC scope cl C env) (eval c (compEnvC scope cl C env))) Q (notedBy (Mo w) A (compEnvC scope cl C env) fun e s' => R (.error e) s') (st s h tk))
    (fin : ∀ h' tk' m' us e, Fr g C h' m' → News g C h' ((D, listOf us.toArray e) :: base) → Rel2 RS us (ds.filter p) → R (.ok .next) (st s h' tk')) :
    codeAny (Mo w) A (.compLoop (.ListComp (.Name x pe) [⟨.Name x px, iter, [c], 0⟩] scope pos) 0 (.ref it) (.ref D) (compEnvC scope cl C env)) R (st s h₃ tk₃) := by
  have hlen := hv.1
  obtain ⟨J, hJ⟩ := hide (fun (k : Nat) (s' : Shared) => ∃ i h' tk' m' us e oI', i ≤ ds.length ∧ k = ds.length + 1 - i ∧ s' = st s h' tk' ∧ Fr g C h' m' ∧ News g C h' ((D, listOf us.toArray e) :: (it, oI') :: base) ∧ LiIt oI' l i ∧ Rel2 RS us ((ds.take i).filter p))
  refine codeAny_compLoop_tests J ?_ (ds.length + 1)
    (by rw [hJ]; exact ⟨0, h₃, tk₃, mC, [], 0, oI, Nat.zero_le _, rfl, rfl, F, N, hoI, Rel2.nil⟩)
  rintro k s' j
  rw [hJ] at j
  obtain ⟨i, h', tk', m', us, e, oI', hin, rfl, rfl, F', N', ho', hu⟩ := j
  have hlu := hu.1
  have hfl : ((ds.take i).filter p).length ≤ i := Nat.le_trans (List.length_filter_le ..) (by rw [List.length_take]; omega)
  have apI' : ∀ q ∈ (D, listOf us.toArray e) :: base, q.1 ≠ it := fun q hq => by
    rcases List.mem_cons.mp hq with rfl | hq
    · exact Ne.symm hitD
    · exact apI q hq
  by_cases hlt : i < ds.length
  · obtain ⟨v, hvi, hr⟩ := hv.get hlt
    have hdi : ds[i]? = some (ds.getD i default) := by simp [List.getD, List.getElem?_eq_getElem hlt]
    generalize ds.getD i default = d at hr hdi
    refine r_nextL F' (Mine.News.sub N' (by walk_at "sub")) apI' (.tail _ hl) ho' hvi fun h₄ oI2 F₄ N₄ ho2 => ?_
    refine c_store F₄ N₄ (fun h₅ tk₅ F₅ N₅ => ?_) hx hp
    have N₅' : News g C h₅ ((D, listOf us.toArray e) :: (it, oI2) :: base) := Mine.News.sub N₅ (by walk_at "sub")
    have apD' : ∀ q ∈ (it, oI2) :: base, q.1 ≠ D := fun q hq => by
      rcases List.mem_cons.mp hq with rfl | hq
      · exact hitD
      · exact apD q hq
    refine wpAny_tests_one (test hr F₅ N₅' fun tk₆ => ?_)
    have htk : (ds.take (i + 1)).filter p = (ds.take i).filter p ++ (if p d then [d] else []) := take_succ_filter p ds i d hdi
    refine ifBool (fun hb => ?_) (fun hb => ?_)
    · refine c_name F₅ put_eq (r_append F₅ N₅' apD' (by omega) fun h₈ F₈ N₈ => ?_) hk hx hd
      refine ⟨ds.length + 1 - (i + 1), Nat.sub_lt_sub_left (Nat.lt_succ_of_lt hlt) (Nat.lt_succ_self i), ?_⟩
      rw [hJ]
      refine ⟨i + 1, h₈, _, _, us ++ [v], e + 1, oI2, hlt, rfl, rfl, F₈, N₈, ho2, ?_⟩
      rw [htk, if_pos hb]
      exact hu.snoc hr
    · refine ⟨ds.length + 1 - (i + 1), Nat.sub_lt_sub_left (Nat.lt_succ_of_lt hlt) (Nat.lt_succ_self i), ?_⟩
      rw [hJ]
      refine ⟨i + 1, h₅, _, _, us, e, oI2, hlt, rfl, rfl, F₅, N₅', ho2, ?_⟩
      rw [htk, if_neg (by rw [hb]; decide), List.append_nil]
      exact hu
  · have hie : i = ds.length := Nat.le_antisymm hin (Nat.not_lt.mp hlt)
    subst hie
    refine r_nextL_end hh F' (Mine.News.sub N' (by walk_at "sub")) apI' (.tail _ hl) ho' (Nat.le_of_eq hlen) fun h₄ F₄ N₄ => ?_
    exact fin h₄ _ m' us e F₄ N₄ (by rw [List.take_length] at hu; exact hu)
/-- off != pairs, the same ones -/
theorem r_neT {l b : Addr} {vs us : List Value} {ds : List Nat} {n n' : Nat} {f : Nat → Int} {Q : Value → Shared → Prop} (N : News h₀ L h news) (h1 : (l, listOf vs.toArray n) ∈ news) (h2 : (b, listOf us.toArray n') ∈ news) (hv : Rel2 (RT f news) vs ds) (hw : Rel2 (RT f news) us ds) (hu : A.units + 10 < cLine)
    (k : Q (.bool false) (st s h tk)) : wpAny (Mo w) A (compareOp .NotEq (.ref l) (.ref b)) Q E (st s h tk) := by
  have a1 := hv.1
  have a2 := hw.1
  refine cmp_ofNotEq (SeqAt.RcNeAt.lists (s := st s h tk) (e := fun _ => true) (PySem.IsL.isList (n := n) (N _ h1).1) (PySem.IsL.isList (n := n') (N _ h2).1) (by simp; omega) (by omega) (fun j q1 q2 => ?_) _ w E Q ?_)
  · have j1 : j < vs.length := by simpa using q1
    have j2 : j < us.length := by simpa using q2
    obtain ⟨v', e, r⟩ := hv.get (k := j) (by omega)
    obtain ⟨u', e', r'⟩ := hw.get (k := j) (by omega)
    rw [List.getElem?_eq_getElem j1] at e
    rw [List.getElem?_eq_getElem j2] at e'
    have w1 : vs.toArray[j] = v' := by simpa using e
    have w2 : us.toArray[j] = u' := by simpa using e'
    rw [w1, w2]
    generalize ds.getD j default = d at r r'
    obtain ⟨hd48, x, t, u, rfl, hx⟩ := r
    obtain ⟨_, y, t', u', rfl, hy⟩ := r'
    by_cases exy : x = y
    · subst exy; exact SeqAt.EqAt.same _
    · have ex : (st s h tk).heap.IsTuple x #[.str (sgn d) t, .int (f d) u] := ⟨_, (N _ hx).1, rfl, _, rfl⟩
      have ey : (st s h tk).heap.IsTuple y #[.str (sgn d) t', .int (f d) u'] := ⟨_, (N _ hy).1, rfl, _, rfl⟩
      refine SeqAt.EqAt.of_refs exy (SeqAt.RcAt.tuples (e := fun _ => true) ex ey (by show A.units + 1 < cLine; omega) fun i i1 i2 => ?_)
      have hi : i = 0 ∨ i = 1 := by simp at i1; omega
      rcases hi with rfl | rfl
      · exact fun prog w E Q hq => wpAny_eqBool_str (by rw [decide_eq_true rfl]; exact hq)
      · exact fun prog w E Q hq => wpAny_eqBool_int (by rw [beq_self_eq_true]; exact hq)
  · rw [show ((List.range vs.toArray.size).all fun _ => true) = true from by simp]; exact k
end
end

section
set_option maxRecDepth 100000
open PySem PySem.W PyProof.Rows PySem.Calls PySem.Spec
noncomputable def pk (x : Int) : Nat := rowPl.getD (x.fmod 48).toNat 0
noncomputable def psOf (ns : List Int) : List Nat := (ns.take 8 ++ [47, 20, 33, 0]).map pk
theorem pk_lt (x : Int) : (x.fmod 48).toNat < 48 ∧ pk x < 48 ∧ rowPl[(x.fmod 48).toNat]? = some (pk x) := by
  have h1 : 0 ≤ x.fmod 48 := Int.fmod_nonneg_of_pos x (by decide)
  have h2 : x.fmod 48 < 48 := Int.fmod_lt_of_pos x (by decide)
  have h3 : (x.fmod 48).toNat < 48 := by omega
  have h4 : (x.fmod 48).toNat < rowPl.length := h3
  refine ⟨h3, ?_, ?_⟩
  · unfold pk
    have : rowPl.getD (x.fmod 48).toNat 0 = rowPl[(x.fmod 48).toNat] := by simp [List.getD, List.getElem?_eq_getElem h4]
    rw [this]
    exact rowPl_lt _ (List.getElem_mem h4)
  · unfold pk
    simp [List.getD, List.getElem?_eq_getElem h4]
theorem psOf_lt (ns : List Int) : ∀ d ∈ psOf ns, d < 48 := fun d hd => by
  obtain ⟨x, _, rfl⟩ := List.mem_map.mp hd
  exact (pk_lt x).2.1
theorem psOf_len (ns : List Int) : (psOf ns).length ≤ 12 ∧ 4 ≤ (psOf ns).length := by
  unfold psOf
  rw [List.length_map, List.length_append, List.length_take]
  simp; omega
theorem len_le_of_sub : ∀ (l m : List Nat), l.Nodup → (∀ x ∈ l, x ∈ m) → l.length ≤ m.length
  | [], _, _, _ => Nat.zero_le _
  | a :: l, m, hn, hs => by
    have ha := hs a (.head _)
    have hn' := List.nodup_cons.mp hn
    have := len_le_of_sub l (m.erase a) hn'.2 fun x hx => (List.mem_erase_of_ne (fun e : x = a => hn'.1 (e ▸ hx))).mpr (hs x (.tail _ hx))
    rw [List.length_erase_of_mem ha] at this
    have hp := List.length_pos_of_mem ha
    rw [List.length_cons]; omega
theorem rowPl_nodup : rowPl.Nodup := by decide +kernel
noncomputable def many (ns : List Int) : Nat := (rowPl.filter fun d => decide (d ∈ psOf ns)).length
theorem many_le (ns : List Int) : many ns ≤ 12 := by
  refine Nat.le_trans (len_le_of_sub _ (psOf ns) (List.Pairwise.filter _ rowPl_nodup) fun x hx => ?_) (psOf_len ns).1
  exact of_decide_eq_true (List.mem_filter.mp hx).2
theorem four_nodup : [pk 47, pk 20, pk 33, pk 0].Nodup ∧ ∀ x ∈ [pk 47, pk 20, pk 33, pk 0], x ∈ rowPl := by decide +kernel
theorem many_ge (ns : List Int) : 4 ≤ many ns := by
  refine len_le_of_sub [pk 47, pk 20, pk 33, pk 0] _ four_nodup.1 fun x hx => List.mem_filter.mpr ⟨four_nodup.2 x hx, decide_eq_true ?_⟩
  unfold psOf
  rw [List.map_append]
  exact List.mem_append_right _ hx
theorem num_row : ∀ d < 48, rowPl[rowPl.findIdx (· == d)]? = some d ∧ (∀ i < rowPl.findIdx (· == d), rowPl[i]? ≠ some d) ∧ (7 : Int) + (rowPl.findIdx (· == d) : Nat) = num d := by decide +kernel
theorem take_range {n : Nat} (h12 : n ≤ 12) : (List.range 48).take n = List.range n := by
  rw [List.take_range]; congr 1; omega
theorem rev_take {n : Nat} (h4 : 4 ≤ n) (h12 : n ≤ 12) : (List.range 48).reverse.take n = (List.range n).map fun i => 47 - i := by
  have : ([4, 5, 6, 7, 8, 9, 10, 11, 12].all fun n => decide ((List.range 48).reverse.take n = (List.range n).map fun i => 47 - i)) = true := by decide +kernel
  exact of_decide_eq_true (List.all_eq_true.mp this n (mem412 h4 h12))
/-! signs sorted as texts are places sorted -/
theorem nat_uniq {a b : List Nat} (p : a.Perm b) (ha : a.Pairwise (· ≤ ·)) (hb : b.Pairwise (· ≤ ·)) : a = b := by
  have key : (a.map fun (n : Nat) => (n : Int)) = b.map fun (n : Nat) => (n : Int) := by
    refine lks_uniq (p.map _) ?_ ?_
    · rw [List.pairwise_map]; exact ha.imp fun h => by omega
    · rw [List.pairwise_map]; exact hb.imp fun h => by omega
  have inj : ∀ (a b : List Nat), (a.map fun (n : Nat) => (n : Int)) = (b.map fun (n : Nat) => (n : Int)) → a = b := by
    intro a
    induction a with
    | nil => intro b h; cases b with | nil => rfl | cons => simp at h
    | cons x a ih =>
      intro b h
      cases b with
      | nil => simp at h
      | cons y b =>
        simp only [List.map_cons, List.cons.injEq] at h
        rw [ih b h.2, show x = y from by omega]
  exact inj a b key
noncomputable def ix (x : Str) : Nat := tabS.findIdx (· == x)
theorem ix_sgn : ∀ d < 48, ix (sgn d) = d := by decide +kernel
theorem lt_cps : ∀ a < 48, ∀ b < 48, ltCps (sgn a).cps.toList (sgn b).cps.toList = decide (a < b) := by decide +kernel
theorem rising_sorted : ∀ (ds : List Nat) (p : Nat), p < 48 → (∀ d ∈ ds, d < 48) → risingS (sgn p) (ds.map sgn) = true → (p :: ds).Pairwise (· ≤ ·)
  | [], p, _, _, _ => List.pairwise_singleton ..
  | d :: ds, p, hp, hd, h => by
    have hd48 := hd d (.head _)
    simp only [List.map_cons, risingS, Bool.and_eq_true, Bool.not_eq_true'] at h
    rw [lt_cps d hd48 p hp] at h
    have h1 : ¬ d < p := of_decide_eq_false h.1
    have ih := rising_sorted ds d hd48 (fun x hx => hd x (.tail _ hx)) h.2
    refine List.pairwise_cons.mpr ⟨fun x hx => ?_, ih⟩
    rcases List.mem_cons.mp hx with rfl | hx
    · omega
    · have := (List.pairwise_cons.mp ih).1 x hx
      omega
theorem sorted_places {ss : List Str} {ps : List Nat} (hp : ss.Perm (ps.map sgn)) (hps : ∀ d ∈ ps, d < 48) (hs : sortedS ss = true) : ss = (hsort ps).map sgn := by
  have e1 : (ss.map ix).map sgn = ss := by
    rw [List.map_map]
    conv => rhs; rw [← List.map_id ss]
    refine List.map_congr_left fun x hx => ?_
    obtain ⟨d, hd, rfl⟩ := List.mem_map.mp (hp.mem_iff.mp hx)
    show sgn (ix (sgn d)) = sgn d
    rw [ix_sgn d (hps d hd)]
  have e2 : (ss.map ix).Perm ps := by
    have := hp.map ix
    rw [List.map_map] at this
    have e3 : ps.map (ix ∘ sgn) = ps := by
      conv => rhs; rw [← List.map_id ps]
      exact List.map_congr_left fun d hd => ix_sgn d (hps d hd)
    rwa [e3] at this
  have h48 : ∀ d ∈ ss.map ix, d < 48 := fun d hd => hps d (e2.mem_iff.mp hd)
  have e4 : (ss.map ix).Pairwise (· ≤ ·) := by
    rw [← e1] at hs
    cases hq : ss.map ix with
    | nil => exact .nil
    | cons p ds =>
      rw [hq] at hs h48
      exact rising_sorted ds p (h48 p (.head _)) (fun d hd => h48 d (.tail _ hd)) hs
  obtain ⟨a, b⟩ := hsort_spec ps
  rw [← e1, nat_uniq (e2.trans b.symm) e4 a]
theorem pick_upto (vs : List Value) (y : Nat) : slicePick vs.toArray none (some (y : Int)) none = (vs.take y).toArray := by
  have e : sliceBounds none (some (y : Int)) none vs.toArray.size = (((0 : Nat) : Int), ((min y vs.toArray.size : Nat) : Int), 1) := by
    simp only [sliceBounds, Option.getD_none, show (1 : Int) > 0 by decide, if_true, if_neg (show ¬ ((y : Int) < 0) by omega)]
    congr 1
    congr 1
    omega
  rw [kmk_pick_nat _ e]
  show List.toArray ((vs.drop 0).take (min y vs.toArray.size - 0)) = _
  rw [List.drop_zero, Nat.sub_zero, List.size_toArray, kmk_take_min]
theorem Rel2.take {D : Type} {R : Value → D → Prop} {vs : List Value} {ds : List D} (h : Rel2 R vs ds) (n : Nat) : Rel2 R (vs.take n) (ds.take n) := by
  refine ⟨by rw [List.length_take, List.length_take, h.1], fun k v d h1 h2 => ?_⟩
  rw [List.getElem?_take] at h1 h2
  split at h1
  · rename_i q; rw [if_pos q] at h2; exact h.2 k v d h1 h2
  · cases h1
end

section
open PySem PySem.W PyProof.Rows PySem.Calls
set_option maxRecDepth 100000
set_option maxHeartbeats 8000000
theorem kp106 (w : World) : keepIn (hd.heap_39 w.params) (.ref 106) = true := rfl
theorem kp113 (w : World) : keepIn (hd.heap_39 w.params) (.ref 113) = true := rfl
theorem kp90 (w : World) : keepIn (hd.heap_39 w.params) (.ref 90) = true := rfl
theorem kp96 (w : World) : keepIn (hd.heap_39 w.params) (.ref 96) = true := rfl
theorem ns_law_row (w : World) : nsIn (hd.heap_39 w.params) mainGlobals "_law_row" = some (some (.ref 106)) := rfl
theorem ns_law_off (w : World) : nsIn (hd.heap_39 w.params) mainGlobals "_law_off" = some (some (.ref 113)) := rfl
theorem ns_list (w : World) : nsIn (hd.heap_39 w.params) mainGlobals "list" = some none := rfl
theorem ns_sorted (w : World) : nsIn (hd.heap_39 w.params) mainGlobals "sorted" = some none := rfl
theorem ns_nsmallest (w : World) : nsIn (hd.heap_39 w.params) mainGlobals "nsmallest" = some (some (.ref 90)) := rfl
theorem ns_nlargest (w : World) : nsIn (hd.heap_39 w.params) mainGlobals "nlargest" = some (some (.ref 96)) := rfl
/-- the law's body and its names, out of the program -/
noncomputable def lawParts : List Stmt × Scope := match Challenge.pw_mj0271_01.main.body.getLast? with | some (.FunctionDef _ _ body _ _ _ scope _ _ _) => (body, scope) | _ => ([], { kind := .function, names := [], isGenerator := false, isCoroutine := false, more := [] })
noncomputable def lawB (k : Nat) : List Stmt := lawParts.1.drop k
noncomputable abbrev lawEnv (L f : Addr) (cdv : Value) : Env := envX "law" lawParts.2 L f cdv (cellsFrom (L + 1) lawParts.2.names [])
/-- the law's end -/
def Qend (s : Shared) (h₀ : Heap) (L : Addr) : Flow → Shared → Prop := fun fl s' => fl = .ret (.bool true) ∧ ∃ h' tk' m', s' = st s h' tk' ∧ Fr h₀ L h' m'
/-- a cell of the ledger that holds v -/
def Cel (news : List (Addr × Obj)) (c : Addr) (v : Value) : Prop := ∃ o, (c, o) ∈ news ∧ o.data = .cell (some v)
theorem Cel.sub {n₁ n₂ : List (Addr × Obj)} {c : Addr} {v : Value} (h : Cel n₁ c v) (hs : ∀ p ∈ n₁, p ∈ n₂) : Cel n₂ c v := let ⟨o, a, b⟩ := h; ⟨o, hs _ a, b⟩
section
variable {w : World} {A : Around} {s : Shared} {h : Heap} {tk : Nat} {L : Addr} {h₀ : Heap} {m : Str → Option Value} {news : List (Addr × Obj)} {f : Addr} {cdv : Value}
theorem law_ret {n : Nat} {t : Tok} {lO : Addr} {vO : List Value} {eO : Nat} (C : At w A h₀ L) (hh : A.handled = none) (hdp : A.depth + 5 < recursionLimit) (hu : A.units + 100 < cLine) (F : Fr h₀ L h m) (N : News h₀ L h news)
    (hm : m "many" = some (.int n t)) (h4 : 4 ≤ n) (h12 : n ≤ 12) (cO : Cel news (L + 1 + 1 + 1) (.ref lO)) (hO : (lO, listOf vO.toArray eO) ∈ news) (rO : Rel2 RS vO (List.range 48)) :
    wpAny (Mo w) A (execs (lawB 8) (lawEnv L f cdv)) (Qend s h₀ L) (fun _ _ => False) (st s h tk) := by
  obtain ⟨oC, hC, dC⟩ := cO
  have lenO : vO.length = 48 := by rw [rO.1]; simp
  refine wpAny_execs_cons (wpAny_Return_some (BoolOp_and (wpAny_Compare1 (r_callK C (kp90 w) (x_gname C F (ns_nsmallest w) ⟨rfl, args_cons (x_name F hm (args_cons (x_gname C F (ns_tab w) (args_nil ⟨C.kin F, ?_⟩))))⟩)))))
  refine nsmallest_call C hh F N hdp hu h4 h12 fun l1 v1 e1 h₁ tk₁ F₁ N₁ lt₁ r1 => ?_
  refine Subscript_ (x_cell N₁ (.tail _ hC) dC (wpAny_Slice (evalPart_none_step (evalPart_some_step (x_name F₁ hm (evalPart_none_step ?_))))))
  refine r_slice (fun a => [.ref a, .ref lO]) F₁ N₁ (PySem.IsL.isList (N₁ _ (.tail _ hO)).1) .none (.int n t) .none (by simp) (by rw [List.size_toArray]; omega) (fun D1 h₂ F₂ N₂ lt₂ _ => ?_) (by intro a; with_unfolding_all rfl)
  rw [pick_upto vO n] at N₂
  refine r_eqS N₂ (.tail _ (.head _)) (.head _) r1 (by rw [← take_range h12]; exact rO.take n) (by omega) (wpAny_truthy_bool ?_)
  rw [if_pos rfl]
  refine BoolOp_one (wpAny_Compare1 (r_callK C (kp96 w) (x_gname C F₂ (ns_nlargest w) ⟨rfl, args_cons (x_name F₂ hm (args_cons (x_gname C F₂ (ns_tab w) (args_nil ⟨C.kin F₂, ?_⟩))))⟩)))
  refine nlargest_call C hh F₂ N₂ hdp hu h4 h12 fun l2 v2 e2 h₃ tk₃ F₃ N₃ lt₃ r2 => ?_
  refine Subscript_ (Subscript_ (x_cell N₃ (.tail _ (.tail _ (.tail _ hC))) dC (wpAny_Slice (evalPart_none_step (evalPart_none_step (evalPart_some_step (wpAny_UnaryOp (r_int fun q1 tk₄ => PyProof.Rows.neg_int (s := st s h₃ tk₄) ?_))))))))
  refine r_slice (tk := tk₄ + 1) (fun a => [.ref lO, .ref a]) F₃ N₃ (PySem.IsL.isList (N₃ _ (.tail _ (.tail _ (.tail _ hO)))).1) .none .none (.int (-1) tk₄) (by simp) (by rw [List.size_toArray]; omega) (fun D2 h₄ F₄ N₄ lt₄ _ => ?_) (by intro a; with_unfolding_all rfl)
  rw [krv_pick] at N₄
  refine wpAny_Slice (evalPart_none_step (evalPart_some_step (x_name F₄ hm (evalPart_none_step ?_))))
  refine r_slice (fun a => [.ref a, .ref D2]) F₄ N₄ (PySem.IsL.isList (N₄ _ (.head _)).1) .none (.int n t) .none (by simp) (by simp; omega) (fun D3 h₅ F₅ N₅ lt₅ _ => ?_) (by intro a; with_unfolding_all rfl)
  rw [pick_upto _ n] at N₅
  refine r_eqS N₅ (.tail _ (.tail _ (.head _))) (.head _) r2 (by rw [← rev_take h4 h12]; exact rO.reverse.take n) (by omega) ?_
  exact ⟨rfl, _, _, _, rfl, F₅⟩
end
end

section
open PySem PySem.W PyProof.Rows PySem.Calls
set_option maxRecDepth 100000
set_option maxHeartbeats 8000000
section
variable {w : World} {A : Around} {s : Shared} {h : Heap} {tk : Nat} {L : Addr} {h₀ : Heap} {m : Str → Option Value} {news : List (Addr × Obj)} {f : Addr} {cdv : Value}
theorem law_many {ns : List Int} {lO lP lR : Addr} {vO vP vR : List Value} {eO eP eR : Nat} (C : At w A h₀ L) (hh : A.handled = none) (hdp : A.depth + 5 < recursionLimit) (hu : A.units + 100 < cLine) (F : Fr h₀ L h m) (N : News h₀ L h news)
    (cO : Cel news (L + 1 + 1 + 1) (.ref lO)) (hO : (lO, listOf vO.toArray eO) ∈ news) (rO : Rel2 RS vO (List.range 48))
    (cP : Cel news (L + 1 + 1) (.ref lP)) (hP : (lP, listOf vP.toArray eP) ∈ news) (rP : Rel2 RS vP (psOf ns))
    (cR : Cel news (L + 1) (.ref lR)) (hR : (lR, listOf vR.toArray eR) ∈ news) (rR : Rel2 RS vR rowPl) :
    wpAny (Mo w) A (execs (lawB 7) (lawEnv L f cdv)) (Qend s h₀ L) (fun _ _ => False) (st s h tk) := by
  obtain ⟨oCR, hCR, dCR⟩ := cR
  obtain ⟨oCP, hCP, dCP⟩ := cP
  refine x_assign (r_callB (x_bname C F (ns_len w) boot_len ⟨rfl, args_cons (r_comp (h₀ := h₀) (L := L) (x_cell N hCR dCR (r_iterL F N hR fun it h₁ oIt F₁ N₁ ltIt lLIt hoIt => ⟨h₁, _, _, _, rfl, F₁, N₁, (fun h' tk' Q' E' up q => r_selfL (up _ _ (N₁ _ (.head _)).1) hoIt q), ?_⟩)))⟩))
  intro D C₂ oL h₈ tk₈ mC hoL lLD lDC ltD neL F₈ N₈
  have apI : ∀ p ∈ (L, oL) :: news, p.1 ≠ it := fun p hp => by
    rcases List.mem_cons.mp hp with rfl | hp
    · exact Nat.ne_of_lt lLIt
    · exact Nat.ne_of_lt (ltIt p hp)
  have apD : ∀ p ∈ (L, oL) :: news, p.1 ≠ D := fun p hp => by
    rcases List.mem_cons.mp hp with rfl | hp
    · exact Nat.ne_of_lt lLD
    · exact Nat.ne_of_lt (ltD p (.tail _ hp))
  refine filterLoop (p := fun d => decide (d ∈ psOf ns)) (base := (L, oL) :: news) hh rfl rfl (by decide) rfl F₈ hoIt (.tail _ hR) rR (by rw [rowPl_len]; decide) (Mine.News.sub N₈ (by walk_at "sub")) (Nat.ne_of_lt (ltD _ (.head _))) apD apI ?_ ?_
  · intro h tk m d v oI' us e Q hr F' N' k'
    exact wpAny_isTrue_Compare1 (c_name F' put_eq (c_cell N' (.tail _ (.tail _ (.tail _ hCP))) dCP (r_in N' (.tail _ (.tail _ (.tail _ hP))) rP hr (wpAny_truthy_bool (k' _)))))
  · intro h' tk' m' us e F' N' hr'
    have hlen : us.length = many ns := hr'.1
    have := many_ge ns
    have := many_le ns
    refine ⟨_, _, _, (D, listOf us.toArray e) :: news, rfl, F', Mine.News.sub N' (by walk_at "sub"), fun p hp => ?_, fun h₉ F₉ N₉ => ?_⟩
    · rcases List.mem_cons.mp hp with rfl | hp
      · exact Nat.ne_of_gt lLD
      · exact neL p (.tail _ hp)
    · refine args_nil (r_len N₉ (by omega) fun t tk => x_store F₉ N₉ fun h₁₀ tk₁₀ F₁₀ N₁₀ => ?_)
      exact law_ret (n := us.length) C hh hdp hu F₁₀ N₁₀ put_eq (by omega) (by omega) (cO.sub fun _ => .tail _) (.tail _ hO) rO
end
end

section
open PySem PySem.W PyProof.Rows PySem.Calls
set_option maxRecDepth 100000
set_option maxHeartbeats 8000000
theorem boot_sorted : bootBuiltins "sorted" = some (.builtin "sorted") := by decide +kernel
theorem ints_of_rel : ∀ {vs : List Value} {ds : List Nat}, Rel2 (fun v (d : Nat) => ∃ t, v = Value.int d t) vs ds → IntsAre vs (ds.map fun (d : Nat) => (d : Int))
  | [], [], _ => .nil
  | [], _ :: _, h => by cases h.1
  | _ :: _, [], h => by cases h.1
  | v :: vs, d :: ds, h => by
    obtain ⟨t, rfl⟩ := h.2 0 v d rfl rfl
    exact .cons _ _ (ints_of_rel ⟨Nat.succ.inj h.1, fun k v d a b => h.2 (k + 1) v d a b⟩)
section
variable {w : World} {A : Around} {s : Shared} {h : Heap} {tk : Nat} {L : Addr} {h₀ : Heap} {m : Str → Option Value} {news : List (Addr × Obj)} {f : Addr} {cdv : Value}
theorem law_places {ns : List Int} {lO lP lR lF : Addr} {vO vP vR vF : List Value} {eO eP eR eF : Nat} (C : At w A h₀ L) (hh : A.handled = none) (hdp : A.depth + 5 < recursionLimit) (hu : A.units + 100 < cLine) (F : Fr h₀ L h m) (N : News h₀ L h news)
    (mF : m "off" = some (.ref lF)) (hF : (lF, listOf vF.toArray eF) ∈ news) (rF : Rel2 (RT num news) vF (hsort (psOf ns)))
    (cO : Cel news (L + 1 + 1 + 1) (.ref lO)) (hO : (lO, listOf vO.toArray eO) ∈ news) (rO : Rel2 RS vO (List.range 48))
    (cP : Cel news (L + 1 + 1) (.ref lP)) (hP : (lP, listOf vP.toArray eP) ∈ news) (rP : Rel2 RS vP (psOf ns))
    (cR : Cel news (L + 1) (.ref lR)) (hR : (lR, listOf vR.toArray eR) ∈ news) (rR : Rel2 RS vR rowPl) :
    wpAny (Mo w) A (execs (lawB 5) (lawEnv L f cdv)) (Qend s h₀ L) (fun _ _ => False) (st s h tk) := by
  obtain ⟨oCO, hCO, dCO⟩ := cO
  obtain ⟨sSor, sPerm⟩ := hsort_spec (psOf ns)
  have slen : (hsort (psOf ns)).length = (psOf ns).length := sPerm.length_eq
  have plen := psOf_len ns
  refine r_assignComp (h₀ := h₀) (L := L) (x_name F mF (r_iterL F N hF fun it h₁ oIt F₁ N₁ ltIt lLIt hoIt => ⟨h₁, _, _, _, rfl, F₁, N₁, (fun h' tk' Q' E' up q => r_selfL (up _ _ (N₁ _ (.head _)).1) hoIt q), ?_⟩))
  intro D C₂ oL h₈ tk₈ mC hoL lLD lDC ltD neL F₈ N₈
  have apI : ∀ p ∈ (L, oL) :: news, p.1 ≠ it := fun p hp => by
    rcases List.mem_cons.mp hp with rfl | hp
    · exact Nat.ne_of_lt lLIt
    · exact Nat.ne_of_lt (ltIt p hp)
  have apD : ∀ p ∈ (L, oL) :: news, p.1 ≠ D := fun p hp => by
    rcases List.mem_cons.mp hp with rfl | hp
    · exact Nat.ne_of_lt lLD
    · exact Nat.ne_of_lt (ltD p (.tail _ hp))
  refine unpackLoop (f := num) (R' := fun v (d : Nat) => ∃ t, v = Value.int d t) (base := (L, oL) :: news) hh rfl rfl rfl F₈ hoIt (.tail _ hF) (rF.mono fun v d r => RT.mono (fun p hp => .tail _ hp) r) (by omega) (Mine.News.sub N₈ (by walk_at "sub")) (Nat.ne_of_lt (ltD _ (.head _))) apD apI ?_ ?_
  · intro h tk m i d t u oI' us e Q hdi hd48 F' N' k'
    refine MethodCall_ (c_cell N' (.tail _ (.tail _ (.tail _ hCO))) dCO (kl_method (s := st s h tk) N' (.tail _ (.tail _ (.tail _ hO))) PySem.F.slot_list_index PySem.F.type_list_index (callWith_method1 (args_cons (c_name F' (put_ne (by decide) put_eq) (args_nil ?_))))))
    refine r_index (j := d) N' (.tail _ (.tail _ (.tail _ hO))) rO ⟨hd48, t, rfl⟩ (List.getElem?_range hd48) (fun i hi e => ?_) (by simp) fun t' tk' => k' _ _ ⟨t', rfl⟩
    rw [List.getElem?_range (by omega)] at e
    cases e
    exact Nat.lt_irrefl _ hi
  · intro h' tk' m' us e F' N' hr'
    have hlen := hr'.1
    refine ⟨_, _, _, (D, listOf us.toArray e) :: news, rfl, F', Mine.News.sub N' (by walk_at "sub"), fun p hp => ?_, fun oC F₉ N₉ hnC => x_store F₉ N₉ fun h₁₀ tk₁₀ F₁₀ N₁₀ => ⟨h₁₀, tk₁₀, _, _, rfl, F₁₀, N₁₀, hnC, fun h₁₁ F₁₁ N₁₁ => ?_⟩⟩
    · rcases List.mem_cons.mp hp with rfl | hp
      · exact Nat.ne_of_gt lLD
      · exact neL p (.tail _ hp)
    · have hi := ints_of_rel hr'
      refine wpAny_execs_cons (wpAny_If (wpAny_isTrue_Compare1 (x_name F₁₁ put_eq (r_callB (x_bname C F₁₁ (ns_sorted w) boot_sorted ⟨rfl, args_cons (x_name F₁₁ put_eq (args_nil ?_))⟩)))))
      refine kso_sorted (s := st s h₁₁ tk₁₀) F₁₁ N₁₁ (PySem.IsL.isList (N₁₁ _ (.head _)).1) hi (by rw [List.length_map]; omega) fun D' vs' ns' c h₁₂ F₁₂ N₁₂ lt hi' hl hp hs _ => ?_
      have ens : ns' = (hsort (psOf ns)).map fun (d : Nat) => (d : Int) := lks_uniq hp hs (by rw [List.pairwise_map]; exact sSor.imp fun h => by omega)
      refine ke_ne_ints (s := st s h₁₂ tk₁₀) (PySem.IsL.isList (N₁₂ _ (.tail _ (.head _))).1) (PySem.IsL.isList (N₁₂ _ (.head _)).1) hi hi' (by omega) (wpAny_truthy_bool ?_)
      rw [if_neg (by rw [ens]; simp)]
      refine wpAny_execs_nil ?_
      exact law_many C hh hdp hu F₁₂ N₁₂ (Cel.sub ⟨oCO, hCO, dCO⟩ fun _ h => .tail _ (.tail _ h)) (.tail _ (.tail _ hO)) rO (cP.sub fun _ h => .tail _ (.tail _ h)) (.tail _ (.tail _ hP)) rP (cR.sub fun _ h => .tail _ (.tail _ h)) (.tail _ (.tail _ hR)) rR
end
end

section
open PySem PySem.W PyProof.Rows PySem.Calls
set_option maxRecDepth 100000
set_option maxHeartbeats 8000000
theorem strs_of_rel : ∀ {vs : List Value} {ds : List Nat}, Rel2 RS vs ds → StrsAre vs (ds.map sgn)
  | [], [], _ => .nil
  | [], _ :: _, h => by cases h.1
  | _ :: _, [], h => by cases h.1
  | v :: vs, d :: ds, h => by
    obtain ⟨_, t, rfl⟩ := h.2 0 v d rfl rfl
    exact .cons _ _ (strs_of_rel ⟨Nat.succ.inj h.1, fun k v d a b => h.2 (k + 1) v d a b⟩)
theorem rel_of_strs : ∀ {vs : List Value} {ds : List Nat}, StrsAre vs (ds.map sgn) → (∀ d ∈ ds, d < 48) → Rel2 RS vs ds := by
  have key : ∀ {vs : List Value} {ss : List Str}, StrsAre vs ss → ∀ ds : List Nat, ss = ds.map sgn → (∀ d ∈ ds, d < 48) → Rel2 RS vs ds := by
    intro vs ss hS
    induction hS with
    | nil =>
      intro ds e _
      cases ds with
      | nil => exact Rel2.nil
      | cons => cases e
    | @cons y t vs ys _ ih =>
      intro ds e hd
      cases ds with
      | nil => cases e
      | cons d ds =>
        simp only [List.map_cons, List.cons.injEq] at e
        have r := ih ds e.2 fun x hx => hd x (.tail _ hx)
        refine ⟨by simp [r.1], fun k v d' h1 h2 => ?_⟩
        cases k with
        | zero =>
          simp only [List.getElem?_cons_zero, Option.some.injEq] at h1 h2
          subst h1; subst h2
          exact ⟨hd _ (.head _), t, by rw [e.1]⟩
        | succ k =>
          simp only [List.getElem?_cons_succ] at h1 h2
          exact r.2 k v d' h1 h2
  intro vs ds hS hd
  exact key hS ds rfl hd
section
variable {w : World} {A : Around} {s : Shared} {h : Heap} {tk : Nat} {L : Addr} {h₀ : Heap} {m : Str → Option Value} {news : List (Addr × Obj)} {f : Addr} {cdv : Value}
theorem law_if {ns : List Int} {lO lP lR lF : Addr} {vO vP vR vF : List Value} {eO eP eR eF : Nat} (C : At w A h₀ L) (hh : A.handled = none) (hdp : A.depth + 5 < recursionLimit) (hu : A.units + 100 < cLine) (F : Fr h₀ L h m) (N : News h₀ L h news)
    (mF : m "off" = some (.ref lF)) (hF : (lF, listOf vF.toArray eF) ∈ news) (rF : Rel2 (RT num news) vF (hsort (psOf ns)))
    (cO : Cel news (L + 1 + 1 + 1) (.ref lO)) (hO : (lO, listOf vO.toArray eO) ∈ news) (rO : Rel2 RS vO (List.range 48))
    (cP : Cel news (L + 1 + 1) (.ref lP)) (hP : (lP, listOf vP.toArray eP) ∈ news) (rP : Rel2 RS vP (psOf ns))
    (cR : Cel news (L + 1) (.ref lR)) (hR : (lR, listOf vR.toArray eR) ∈ news) (rR : Rel2 RS vR rowPl) :
    wpAny (Mo w) A (execs (lawB 4) (lawEnv L f cdv)) (Qend s h₀ L) (fun _ _ => False) (st s h tk) := by
  obtain ⟨oCR, hCR, dCR⟩ := cR
  obtain ⟨oCP, hCP, dCP⟩ := cP
  obtain ⟨sSor, sPerm⟩ := hsort_spec (psOf ns)
  have slen : (hsort (psOf ns)).length = (psOf ns).length := sPerm.length_eq
  have plen := psOf_len ns
  have pl := rP.1
  refine wpAny_execs_cons (wpAny_If (wpAny_isTrue_Compare1 (x_name F mF (r_comp (h₀ := h₀) (L := L) (r_callB (x_bname C F (ns_sorted w) boot_sorted ⟨rfl, args_cons (x_cell N hCP dCP (args_nil ?_))⟩))))))
  refine sorted_N_str (s := st s h tk) F N (PySem.IsL.isList (N _ hP).1) (strs_of_rel rP) (by omega) fun h₁ vs' ss' e F₁ N₁ hS hp hs => ?_
  have ess := sorted_places hp (psOf_lt ns) hs
  rw [ess] at hS
  have rS : Rel2 RS vs' (hsort (psOf ns)) := rel_of_strs hS fun d hd => psOf_lt ns d (sPerm.mem_iff.mp hd)
  refine r_iterL (tk := tk) F₁ N₁ (.head _) fun it h₂ oIt F₂ N₂ ltIt lLIt hoIt => ⟨h₂, _, _, _, rfl, F₂, N₂, (fun h' tk' Q' E' up q => r_selfL (up _ _ (N₂ _ (.head _)).1) hoIt q), ?_⟩
  intro D C₂ oL h₈ tk₈ mC hoL lLD lDC ltD neL F₈ N₈
  generalize hgS : ((st s h tk).heap.objs.size + 1, seqObj "list" vs'.toArray e) = pS at N₈ ltD neL ltIt
  have apI : ∀ p ∈ (L, oL) :: pS :: news, p.1 ≠ it := fun p hp => by
    rcases List.mem_cons.mp hp with rfl | hp
    · exact Nat.ne_of_lt lLIt
    · exact Nat.ne_of_lt (ltIt p hp)
  have apD : ∀ p ∈ (L, oL) :: pS :: news, p.1 ≠ D := fun p hp => by
    rcases List.mem_cons.mp hp with rfl | hp
    · exact Nat.ne_of_lt lLD
    · exact Nat.ne_of_lt (ltD p (.tail _ hp))
  refine nameLoop (D' := Nat) (RI := RS) (R' := fun tups v d => RT num tups v d) (base := (L, oL) :: pS :: news) (l := (st s h tk).heap.objs.size + 1) (e₀ := e) (fun a b v d r => RT.mono (fun p hp => List.mem_append_right _ hp) r) hh rfl rfl F₈ hoIt (.tail _ (by rw [← hgS]; exact .head _)) rS (by omega) (Mine.News.sub N₈ (by walk_at "sub")) lDC (ltD _ (.head _)) apD apI ?_ ?_
  · intro h tk m d v oI' us e tups Q hd hv F' N' k'
    obtain ⟨hd48, t, rfl⟩ := hv
    obtain ⟨n1, n2, n3⟩ := num_row d hd48
    have mm : ∀ p ∈ news, p ∈ (D, listOf us.toArray e) :: (it, oI') :: (tups ++ (L, oL) :: pS :: news) := fun p hp => .tail _ (.tail _ (List.mem_append_right _ (.tail _ (.tail _ hp))))
    refine Tuple_ (args_cons (c_name F' put_eq (args_cons (wpAny_BinOp (r_int fun q1 tk₁ => MethodCall_ (c_cell N' (mm _ hCR) dCR (kl_method (s := st s h tk₁) N' (mm _ hR) PySem.F.slot_list_index PySem.F.type_list_index (callWith_method1 (args_cons (c_name F' put_eq (args_nil ?_)))))))))))
    refine r_index N' (mm _ hR) rR ⟨hd48, t, rfl⟩ n1 n2 (by rw [rowPl_len]; decide) fun t2 tk₂ => r_add fun t3 tk₃ => args_nil ?_
    rw [n3]
    refine r_pair' F' N' fun T h' F'' N'' lt lCT => k' (.ref T) h' _ [(T, prO (.str (sgn d) t) (.int (num d) t3))] F'' (Mine.News.sub N'' (by walk_at "sub")) (fun p hp => ?_) ⟨hd48, T, t, t3, rfl, .head _⟩
    rcases List.mem_cons.mp hp with rfl | hp
    · exact lCT
    · cases hp
  · intro h' tk' m' us e' tups F' N' htups hr'
    refine ⟨_, _, _, (D, listOf us.toArray e') :: (tups ++ pS :: news), rfl, F', Mine.News.sub N' (by walk_at "sub"), fun p hp => ?_, fun h₉ F₉ N₉ => ?_⟩
    · rcases List.mem_cons.mp hp with rfl | hp
      · exact Nat.ne_of_gt lLD
      · rcases List.mem_append.mp hp with hp | hp
        · exact Nat.ne_of_gt (Nat.lt_trans lLD (Nat.lt_trans lDC (htups p hp)))
        · exact neL p (.tail _ hp)
    · have mm : ∀ p ∈ news, p ∈ (D, listOf us.toArray e') :: (tups ++ pS :: news) := fun p hp => .tail _ (List.mem_append_right _ (.tail _ hp))
      refine r_neT N₉ (mm _ hF) (.head _) (rF.mono fun v d r => RT.mono mm r) (hr'.mono fun v d r => RT.mono (fun p hp => .tail _ (List.mem_append_left _ hp)) r) (by omega) (wpAny_truthy_bool ?_)
      rw [if_neg (by decide)]
      refine wpAny_execs_nil ?_
      exact law_places C hh hdp hu F₉ N₉ mF (mm _ hF) (rF.mono fun v d r => RT.mono mm r) (cO.sub mm) (mm _ hO) rO (Cel.sub ⟨oCP, hCP, dCP⟩ mm) (mm _ hP) rP (Cel.sub ⟨oCR, hCR, dCR⟩ mm) (mm _ hR) rR
theorem law_off {ns : List Int} {lO lP lR : Addr} {vO vP vR : List Value} {eO eP eR : Nat} (C : At w A h₀ L) (hh : A.handled = none) (hdp : A.depth + 5 < recursionLimit) (hu : A.units + 100 < cLine) (F : Fr h₀ L h m) (N : News h₀ L h news)
    (cO : Cel news (L + 1 + 1 + 1) (.ref lO)) (hO : (lO, listOf vO.toArray eO) ∈ news) (rO : Rel2 RS vO (List.range 48))
    (cP : Cel news (L + 1 + 1) (.ref lP)) (hP : (lP, listOf vP.toArray eP) ∈ news) (rP : Rel2 RS vP (psOf ns))
    (cR : Cel news (L + 1) (.ref lR)) (hR : (lR, listOf vR.toArray eR) ∈ news) (rR : Rel2 RS vR rowPl) :
    wpAny (Mo w) A (execs (lawB 3) (lawEnv L f cdv)) (Qend s h₀ L) (fun _ _ => False) (st s h tk) := by
  obtain ⟨oCP, hCP, dCP⟩ := cP
  have plen := psOf_len ns
  refine x_assign (r_callK C (kp113 w) (x_gname C F (ns_law_off w) ⟨rfl, args_cons (x_cell N hCP dCP (args_nil ⟨C.kin F, ?_⟩))⟩))
  refine law_off_call C hh F N hdp hu hP rP (by omega) fun l us e tups h₁ tk₁ F₁ N₁ lt1 lt2 r1 => x_store F₁ N₁ fun h₂ tk₂ F₂ N₂ => ?_
  have mm : ∀ p ∈ news, p ∈ (l, listOf us.toArray e) :: (tups ++ news) := fun p hp => .tail _ (List.mem_append_right _ hp)
  exact law_if C hh hdp hu F₂ N₂ put_eq (.head _) (r1.mono fun v d r => RT.mono (fun p hp => .tail _ (List.mem_append_left _ hp)) r) (cO.sub mm) (mm _ hO) rO (Cel.sub ⟨oCP, hCP, dCP⟩ mm) (mm _ hP) rP (cR.sub mm) (mm _ hR) rR
end
end

section
open PySem PySem.W PyProof.Rows PySem.Calls
set_option maxRecDepth 100000
set_option maxHeartbeats 8000000
theorem boot_list : bootBuiltins "list" = some (.type "list") := by decide +kernel
theorem ints_rel {vs : List Value} {ns : List Int} (h : IntsAre vs ns) : Rel2 (fun v (x : Int) => ∃ t, v = Value.int x t) vs ns :=
  ⟨h.length, fun k v d h1 h2 => by obtain ⟨t, e⟩ := h.get k d h2; rw [e] at h1; exact ⟨t, (Option.some.inj h1).symm⟩⟩
section
variable {w : World} {A : Around} {s : Shared} {h : Heap} {tk : Nat} {L : Addr} {h₀ : Heap} {m : Str → Option Value} {news : List (Addr × Obj)} {f : Addr} {cdv : Value}
/-- order = list(EXACT_TOKEN_TYPES) -/
theorem law_order {ns : List Int} {lP lR : Addr} {vP vR : List Value} {eP eR : Nat} {oO : Obj} (C : At w A h₀ L) (hh : A.handled = none) (hdp : A.depth + 5 < recursionLimit) (hu : A.units + 100 < cLine) (F : Fr h₀ L h m) (N : News h₀ L h ((L + 1 + 1 + 1, oO) :: news))
    (dO : oO.data = .cell none) (ap : ∀ p ∈ news, p.1 ≠ L + 1 + 1 + 1)
    (cP : Cel news (L + 1 + 1) (.ref lP)) (hP : (lP, listOf vP.toArray eP) ∈ news) (rP : Rel2 RS vP (psOf ns))
    (cR : Cel news (L + 1) (.ref lR)) (hR : (lR, listOf vR.toArray eR) ∈ news) (rR : Rel2 RS vR rowPl) :
    wpAny (Mo w) A (execs (lawB 2) (lawEnv L f cdv)) (Qend s h₀ L) (fun _ _ => False) (st s h tk) := by
  refine x_assign (r_callT (x_bname C F (ns_list w) boot_list ⟨rfl, args_cons (x_gname C F (ns_tab w) (args_nil ?_))⟩))
  refine r_listD hh (C.kin F) F N fun D c h₁ tk₁ vs F₁ N₁ lt rO => ?_
  refine x_storeC F₁ (c := L + 1 + 1 + 1) (o := oO) (rest := (D, listOf vs.toArray c) :: news) (Mine.News.sub N₁ (by walk_at "sub")) (fun p hp => ?_) dO fun h₂ oO' F₂ N₂ dO' => ?_
  · rcases List.mem_cons.mp hp with rfl | hp
    · exact Nat.ne_of_gt (lt _ (.head _))
    · exact ap p hp
  exact law_off C hh hdp hu F₂ N₂ ⟨oO', .head _, dO'⟩ (.tail _ (.head _)) rO (cP.sub fun _ h => .tail _ (.tail _ h)) (.tail _ (.tail _ hP)) rP (cR.sub fun _ h => .tail _ (.tail _ h)) (.tail _ (.tail _ hR)) rR
/-- picks -/
theorem law_picks {ns : List Int} {vs : List Value} {lS lR : Addr} {vR : List Value} {eR : Nat} {oO oP oR : Obj} (C : At w A h₀ L) (hh : A.handled = none) (hdp : A.depth + 5 < recursionLimit) (hu : A.units + 100 < cLine) (F : Fr h₀ L h m)
    (N : News h₀ L h [(L + 1, oR), (lR, listOf vR.toArray eR), (L + 1 + 1 + 1, oO), (L + 1 + 1, oP)]) (lRL : @LT.lt Nat _ (L + 1 + 1 + 1) lR)
    (dO : oO.data = .cell none) (dP : oP.data = .cell none) (dR : oR.data = .cell (some (.ref lR))) (rR : Rel2 RS vR rowPl)
    (ms : m "script" = some (.ref lS)) (hLs : h₀.IsList lS vs.toArray) (hI : IntsAre vs ns) (hn63 : ns.length ≤ 63) :
    wpAny (Mo w) A (execs (lawB 1) (lawEnv L f cdv)) (Qend s h₀ L) (fun _ _ => False) (st s h tk) := by
  have hvl : vs.length = ns.length := hI.length
  refine x_assign (r_comp (h₀ := h₀) (L := L) (wpAny_BinOp (Subscript_ (x_name F ms (wpAny_Slice (evalPart_none_step (evalPart_some_step (r_int fun q1 tk₄ => evalPart_none_step ?_))))))))
  refine r_slice (fun a => [.ref a, .ref lS]) F N (hLs.at fun o e => F.keep _ o e) .none (.int 8 q1) .none (by simp) (by rw [List.size_toArray]; omega) (fun D1 h₄ F₄ N₄ lt1 _ => ?_) (by intro a; with_unfolding_all rfl)
  rw [show slicePick vs.toArray none (some 8) none = (vs.take 8).toArray from pick_upto vs 8] at N₄
  refine List_ (args_cons (r_int fun q2 _ => args_cons (r_int fun q3 _ => args_cons (r_int fun q4 _ => args_cons (r_int fun q5 tk₅ => args_nil ?_)))))
  refine r_newListV F₄ N₄ (by simp) fun D2 h₅ F₅ N₅ lt2 _ => ?_
  refine r_addL F₅ N₅ (PySem.IsL.isList (n := 0) (N₅ _ (.tail _ (.head _))).1) (PySem.IsL.isList (n := 0) (N₅ _ (.head _)).1) (by simp; omega) fun D3 h₆ F₆ N₆ lt3 _ => ?_
  have hI2 : IntsAre (vs.take 8 ++ [Value.int 47 q2, Value.int 20 q3, Value.int 33 q4, Value.int 0 q5]) (ns.take 8 ++ [47, 20, 33, 0]) := IntsAre.append (hI.take 8) (.cons _ _ (.cons _ _ (.cons _ _ (.cons _ _ .nil))))
  have lr1 : @LT.lt Nat _ (L + 1 + 1 + 1) D1 := lt1 _ (.tail _ (.tail _ (.head _)))
  have lr2 : @LT.lt Nat _ (L + 1 + 1 + 1) D2 := Nat.lt_trans lr1 (lt2 _ (.head _))
  have lr3 : @LT.lt Nat _ (L + 1 + 1 + 1) D3 := Nat.lt_trans lr2 (lt3 _ (.head _))
  refine r_iterL F₆ N₆ (.head _) fun it h₇ oIt F₇ N₇ ltIt lLIt hoIt => ?_
  refine ⟨h₇, _, _, _, rfl, F₇, N₇, (fun h' tk' Q' E' up q => r_selfL (up _ _ (N₇ _ (.head _)).1) hoIt q), ?_⟩
  intro D C₂ oL h₈ tk₈ mC hoL lLD lDC ltD neL F₈ N₈
  obtain ⟨rest, hrest⟩ : ∃ r, r = [(D3, PySem.W.listOf (vs.take 8 ++ [Value.int 47 q2, Value.int 20 q3, Value.int 33 q4, Value.int 0 q5]).toArray 0), (D2, PySem.W.listOf [Value.int 47 q2, Value.int 20 q3, Value.int 33 q4, Value.int 0 q5].toArray 0), (D1, PySem.W.listOf (vs.take 8).toArray 0), (L + 1, oR), (lR, PySem.W.listOf vR.toArray eR), (L + 1 + 1 + 1, oO), (L + 1 + 1, oP)] := ⟨_, rfl⟩
  rw [← hrest] at N₈ ltD neL ltIt
  have hR : (lR, listOf vR.toArray eR) ∈ rest := by rw [hrest]; exact .tail _ (.tail _ (.tail _ (.tail _ (.head _))))
  have hCR : (L + 1, oR) ∈ rest := by rw [hrest]; exact .tail _ (.tail _ (.tail _ (.head _)))
  have apI : ∀ p ∈ (L, oL) :: rest, p.1 ≠ it := fun p hp => by
    rcases List.mem_cons.mp hp with rfl | hp
    · exact Nat.ne_of_lt lLIt
    · exact Nat.ne_of_lt (ltIt p hp)
  have apD : ∀ p ∈ (L, oL) :: rest, p.1 ≠ D := fun p hp => by
    rcases List.mem_cons.mp hp with rfl | hp
    · exact Nat.ne_of_lt lLD
    · exact Nat.ne_of_lt (ltD p (.tail _ hp))
  refine nameLoop (D' := Int) (RI := fun v x => ∃ t, v = Value.int x t) (R' := fun _ v x => RS v (pk x)) (base := (L, oL) :: rest) (e₀ := 0) (fun _ _ _ _ h => h) hh rfl rfl F₈ hoIt (.tail _ (by rw [hrest]; exact .head _)) (ints_rel hI2) (by simp; omega) (Mine.News.sub N₈ (by walk_at "sub")) lDC (ltD _ (.head _)) apD apI ?_ ?_
  · intro h tk m' x v oI' us e tups Q' hx hv F' N' k'
    obtain ⟨t, rfl⟩ := hv
    obtain ⟨h48, hpk, hrow⟩ := pk_lt x
    obtain ⟨rv, hrv, hrr⟩ := rR.get (k := (x.fmod 48).toNat) h48
    rw [show rowPl.getD (x.fmod 48).toNat default = pk x from rfl] at hrr
    have mm : ∀ p ∈ rest, p ∈ (D, listOf us.toArray e) :: (it, oI') :: (tups ++ (L, oL) :: rest) := fun p hp => .tail _ (.tail _ (List.mem_append_right _ (.tail _ hp)))
    refine Subscript_ (c_cell N' (mm _ hCR) dR (wpAny_BinOp (c_name F' put_eq (r_int fun q6 tk₉ => PyProof.Rows.mod_int (s := st s h tk₉) (by decide) ?_))))
    have e48 : x.fmod 48 = (((x.fmod 48).toNat : Nat) : Int) := (Int.toNat_of_nonneg (Int.fmod_nonneg_of_pos x (by decide))).symm
    rw [e48]
    exact item' (tk := tk₉ + 1) N' (mm _ hR) hrv (by omega) (k' rv h _ [] F' N' (fun _ h => nomatch h) hrr)
  · intro h' tk' m' us e tups F' N' htups hr'
    refine ⟨_, _, _, (D, listOf us.toArray e) :: (tups ++ rest), rfl, F', Mine.News.sub N' (by walk_at "sub"), fun p hp => ?_, fun h₉ F₉ N₉ => ?_⟩
    · rcases List.mem_cons.mp hp with rfl | hp
      · exact Nat.ne_of_gt lLD
      · rcases List.mem_append.mp hp with hp | hp
        · exact Nat.ne_of_gt (Nat.lt_trans lLD (Nat.lt_trans lDC (htups p hp)))
        · exact neL p (.tail _ hp)
    · have rP : Rel2 RS us (psOf ns) := by
        refine ⟨by rw [hr'.1]; simp [psOf], fun k v d h1 h2 => ?_⟩
        unfold psOf at h2
        rw [List.getElem?_map] at h2
        obtain ⟨x, hx, rfl⟩ := Option.map_eq_some_iff.mp h2
        exact hr'.2 k v x h1 hx
      have lD : @LT.lt Nat _ (L + 1 + 1 + 1) D := Nat.lt_trans lr3 (ltD _ (.tail _ (by rw [hrest]; exact .head _)))
      refine x_storeC F₉ (c := L + 1 + 1) (o := oP) (rest := [(D, listOf us.toArray e), (L + 1, oR), (lR, listOf vR.toArray eR), (L + 1 + 1 + 1, oO)]) (Mine.News.sub N₉ fun p hp => ?_) (fun p hp => ?_) dP fun h₁₀ oP' F₁₀ N₁₀ dP' => ?_
      · simp only [List.mem_cons, List.not_mem_nil, or_false] at hp
        rcases hp with rfl | rfl | rfl | rfl | rfl
        · exact .tail _ (List.mem_append_right _ (by rw [hrest]; exact .tail _ (.tail _ (.tail _ (.tail _ (.tail _ (.tail _ (.head _))))))))
        · exact .head _
        · exact .tail _ (List.mem_append_right _ hCR)
        · exact .tail _ (List.mem_append_right _ hR)
        · exact .tail _ (List.mem_append_right _ (by rw [hrest]; exact .tail _ (.tail _ (.tail _ (.tail _ (.tail _ (.head _)))))))
      · simp only [List.mem_cons, List.not_mem_nil, or_false] at hp
        rcases hp with rfl | rfl | rfl | rfl
        · exact Nat.ne_of_gt (Nat.lt_trans (Nat.lt_succ_self _) lD)
        · exact Nat.ne_of_lt (Nat.lt_succ_self _)
        · exact Nat.ne_of_gt (Nat.lt_trans (Nat.lt_succ_self _) lRL)
        · exact Nat.ne_of_gt (Nat.lt_succ_self _)
      refine law_order (news := [(L + 1 + 1, oP'), (D, listOf us.toArray e), (L + 1, oR), (lR, listOf vR.toArray eR)]) C hh hdp hu F₁₀ (Mine.News.sub N₁₀ (by walk_at "sub")) dO (fun p hp => ?_) ⟨oP', .head _, dP'⟩ (.tail _ (.head _)) rP ⟨oR, .tail _ (.tail _ (.head _)), dR⟩ (.tail _ (.tail _ (.tail _ (.head _)))) rR
      simp only [List.mem_cons, List.not_mem_nil, or_false] at hp
      rcases hp with rfl | rfl | rfl | rfl
      · exact Nat.ne_of_lt (Nat.lt_succ_self _)
      · exact Nat.ne_of_gt lD
      · exact Nat.ne_of_lt (Nat.lt_trans (Nat.lt_succ_self _) (Nat.lt_succ_self _))
      · exact Nat.ne_of_gt lRL
/-- the whole body -/
theorem law_start {ns : List Int} {vs : List Value} {lS : Addr} {oO oP oR : Obj} (C : At w A h₀ L) (hh : A.handled = none) (hdp : A.depth + 5 < recursionLimit) (hu : A.units + 100 < cLine) (F : Fr h₀ L h m)
    (N : News h₀ L h [(L + 1 + 1 + 1, oO), (L + 1 + 1, oP), (L + 1, oR)]) (dO : oO.data = .cell none) (dP : oP.data = .cell none) (dR : oR.data = .cell none)
    (ms : m "script" = some (.ref lS)) (hLs : h₀.IsList lS vs.toArray) (hI : IntsAre vs ns) (hn63 : ns.length ≤ 63) :
    wpAny (Mo w) A (execs (lawB 0) (lawEnv L f cdv)) (Qend s h₀ L) (fun _ _ => False) (st s h tk) := by
  refine x_assign (r_callK0 (kp106 w) (x_gname C F (ns_law_row w) ⟨rfl, C.kin F, ?_⟩))
  refine law_row_call C F N (by omega) fun lR vR eR h₂ tk₂ F₂ N₂ ltR rR => ?_
  have lr : @LT.lt Nat _ (L + 1 + 1 + 1) lR := ltR _ (.head _)
  refine x_storeC F₂ (o := oR) (c := L + 1) (rest := [(lR, listOf vR.toArray eR), (L + 1 + 1 + 1, oO), (L + 1 + 1, oP)]) (Mine.News.sub N₂ (by walk_at "sub")) (fun p hp => ?_) dR fun h₃ oR' F₃ N₃ dR' => law_picks C hh hdp hu F₃ N₃ lr dO dP dR' rR ms hLs hI hn63
  simp only [List.mem_cons, List.not_mem_nil, or_false] at hp
  rcases hp with rfl | rfl | rfl
  · exact Nat.ne_of_gt (Nat.lt_trans (Nat.lt_trans (Nat.lt_succ_self _) (Nat.lt_succ_self _)) lr)
  · exact Nat.ne_of_gt (Nat.lt_trans (Nat.lt_succ_self _) (Nat.lt_succ_self _))
  · exact Nat.ne_of_gt (Nat.lt_succ_self _)
end
end

section
open PySem PySem.W PyProof.Rows PySem.Calls PyProof.Rows.LCg
set_option maxRecDepth 100000
set_option maxHeartbeats 8000000
theorem law_mono {w : World} {s : Shared} {h : Heap} {tk : Nat} {L : Addr} {env : Env} {body : List Stmt} {p : Program} {loose : List Str} {mean : ExcName → Option Value} {mg mb : Str → Option Value} {Q : Flow → Shared → Prop} {E : Value → Shared → Prop}
    (X : (hd.heap_39 w.params).In s.heap) (T : Top p loose mean mg mb s.heap) (hL : env.frame = some L) (hk : env.scope.kind = .function)
    (k : At w (callerA.deeper env) s.heap L → wpAny (Mo w) (callerA.deeper env) (execs body env) (Qend s s.heap L) (fun _ _ => False) (st s h tk))
    (hQ : ∀ h' tk' m', Fr s.heap L h' m' → Q (.ret (.bool true)) (st s h' tk')) : wpAny (Mo w) (callerA.deeper env) (execs body env) Q E { heap := h, gens := s.gens, drawn := s.drawn, toks := tk, os := s.os } := by
  refine wpAny_mono (k ⟨callerA, s.heap, [], env, p, loose, mean, mg, mb, below_caller _, X, T, rfl, hL, hk⟩) (fun fl s' hq => ?_) fun _ _ x => x.elim
  obtain ⟨rfl, h', tk', m', rfl, F⟩ := hq
  exact hQ h' tk' m' F
theorem cal_d : callerA.depth + 20 < recursionLimit := by decide +kernel
theorem cal_u : callerA.units + 300 < cLine := by decide +kernel
theorem deep_d (env : Env) : (callerA.deeper env).depth + 5 < recursionLimit := by
  have := cal_d
  show callerA.depth + 1 + 5 < recursionLimit
  omega
theorem deep_u (env : Env) : (callerA.deeper env).units + 100 < cLine := by
  have := cal_u
  rw [units_deeper]
  omega
end
end Mine

section
open PySem PySem.W PyProof.Rows PySem.Calls PyProof.Rows.LCg
set_option maxRecDepth 100000
set_option maxHeartbeats 8000000
open Mine
theorem PySem.Challenge.cw_mj0271_01_holds : PySem.Challenge.rw_mj0271_01.Holds :=
  hd (by
  k_go0
  rename World => w
  rename Fr _ _ _ _ => F
  rename IntsAre _ _ => hI
  rename News _ _ _ _ => N
  rename Frag.In _ _ => KX
  rename Top _ _ _ _ _ _ => T
  rename Heap.IsList _ _ _ => hLs
  rename ¬ _ => hc63
  rename (_ : Array GenState) = _ => hg
  rename CellsAre _ _ _ => Y
  clear Y
  rename_i s₀ s₁ mg mb G Y0 fa o pm doc ho X V GL B TE TW b1 b2 M b3 b4 hcd ns hs0 hlay0 hL0 hr0 hl20 as1 as2 lS vs as ra w1 r0 hr hct K0 hD h₁ tk₁ oO oP oR dO dP dR
  refine law_mono KX T rfl rfl (fun C => ?_) (fun h' tk' m' F' => ?_)
  rotate_left
  · refine goodW_bool F' hg (raisesW_false ?_) ?_
    · wrow_none_raised
    · wrow_post
  have dO : oO.data = .cell none := dO
  have dP : oP.data = .cell none := dP
  have dR : oR.data = .cell none := dR
  have hn63 : ns.length ≤ 63 := by omega
  refine law_start C rfl (deep_d _) (deep_u _) F N dO dP dR rfl hLs hI hn63)
end
