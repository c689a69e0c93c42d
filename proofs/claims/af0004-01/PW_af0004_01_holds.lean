import PyProof.Rows.All
import Wide.All
import OpenK.AllK
import Wide.FinOn
import PyProof.GenQ
import Lean
import PySem.Challenge.RW_af0004_01
open PySem PySem.W PyProof.Rows PySem.Calls
set_option Elab.async false
set_option maxRecDepth 100000
set_option maxHeartbeats 8000000
set_option linter.unusedVariables false
set_option pp.deepTerms.threshold 4
namespace Mine
open_top hd for PySem.Challenge.rw_af0004_01
theorem topOff : True := by w_top off; trivial
end Mine

noncomputable section
namespace Mine
noncomputable abbrev PR : Program := PySem.Challenge.rw_af0004_01.row.prog
noncomputable abbrev KH (w : World) : Frag := hd.heap_39 w.params
abbrev TopH (mean : ExcName → Option Value) (mg mb : Str → Option Value) (h : Heap) : Prop := Top hd.view_39 (looseW hd.view_39 []) mean mg mb h
def Kp (h h' : Heap) : Prop := ∀ b o, h.get? b = some o → h'.get? b = some o
abbrev NoE : Value → Shared → Prop := fun _ _ => False
def Stop (P : Prop) : Prop := P
theorem Stop.mk {P : Prop} (h : Stop P) : P := h

theorem Fr_say {h₀ h : Heap} {L : Addr} {m : Str → Option Value} (F : Fr h₀ L h m) {x : Str} {v : Value} (e : m x = some v) : Fr h₀ L h (fun z => if z = x then some v else m z) := by
  have : (fun z => if z = x then some v else m z) = m := by
    funext z
    by_cases h : z = x
    · rw [if_pos h, h, e]
    · rw [if_neg h]
  rw [this]; exact F

theorem News_add {h₀ h h' : Heap} {L D : Addr} {o : Obj} {m : Str → Option Value} {news : List (Addr × Obj)} (F : Fr h₀ L h m) (N : News h₀ L h news) (k : Kp h h') (hn : h.get? D = none) (ho : h'.get? D = some o) :
    News h₀ L h' ((D, o) :: news) := by
  obtain ⟨oL, _, _, hL, _⟩ := F.ns
  intro p hp
  rcases List.mem_cons.mp hp with rfl | hp
  · refine ⟨ho, ?_, ?_⟩
    · intro e; dsimp only at e; rw [e, hL] at hn; cases hn
    · cases hq : h₀.get? D with
      | none => rfl
      | some o' => rw [F.keep _ _ hq] at hn; cases hn
  · exact ⟨k _ _ (N p hp).1, (N p hp).2.1, (N p hp).2.2⟩

section
variable {w : World} {A : Around} {s : Shared} {mean : ExcName → Option Value} {mg mb : Str → Option Value}

theorem call_noE {f : Value} {pos : List Value} {Q : Value → Shared → Prop} {E : Value → Shared → Prop}
    (h : codeAny (model PR w) A (.call f ⟨pos, []⟩) (fun r s' => match r with | .ok (.ret v) => Q v s' | _ => False) s) :
    wpAny (model PR w) A (call f pos) Q E s :=
  wpAny_call (codeAny_mono h fun r s' h' => by
    cases r with
    | ok f => cases f <;> first | exact h' | exact h'.elim
    | error e => exact h'.elim)

theorem enter_fn {name qual : Str} {params : Arguments} {body : List Stmt} {scope : Scope} {dV kV doc pm cdv ct oc : Value} {an od : Option Addr} {osl : Array (Option Value)} {f : Addr} {args : Args} {binds : List (Str × Value)} {R : Value → Shared → Prop}
    (hroom : A.depth < recursionLimit) (X : (KH w).In s.heap) (T : TopH mean mg mb s.heap) (ho : (KH w).lookup f = some ⟨oc, od, .func (fnOf name qual params body scope dV kV doc pm an cdv ct), osl⟩)
    (hcd : codeIn (KH w) cdv qual = true) (hbind : BindsTo s (fnOf name qual params body scope dV kV doc pm an cdv ct) args binds)
    (hcell : ∀ x ∈ scope.names, x.2 ≠ .cell) (hloc : ∀ x ∈ binds, scope.names.lookup x.1 = some .local)
    (h : ∀ h₁, Fr s.heap s.heap.objs.size h₁ (fun x => binds.reverse.lookup x) → News s.heap s.heap.objs.size h₁ [] →
      wpAny (model PR w) (A.deeper (envOf qual scope s.heap.objs.size f cdv)) (execs body (envOf qual scope s.heap.objs.size f cdv)) (fun fl s' => R (match fl with | .ret v => v | _ => .none) s')
        NoE { s with heap := h₁, toks := s.toks + binds.length })
    (hco : scope.isCoroutine = false) (hgen : scope.isGenerator = false) (hk : scope.kind = .function) :
    codeAny (model PR w) A (.call (.ref f) args) (fun r s' => match r with | .ok (.ret v) => R v s' | _ => False) s :=
  codeAny_call_def (fd := fnOf name qual params body scope dV kV doc pm an cdv ct) hroom (X _ _ ho) rfl T.nolimit (codeRec_of X hcd) rfl hbind hcell hloc
    (fun h₁ hns hk₁ => wpAny_mono (h h₁ ⟨hns, hk₁, Nat.le_refl _⟩ News.nil) (fun _ _ x => x) fun _ _ x => x.elim) hco hgen hk
end
end Mine
end

noncomputable section
namespace Mine
local macro_rules | `(tactic| walk_at "exec While") => `(tactic| refine Mine.Stop.mk ?_)
local macro_rules | `(tactic| walk_at "exec While Name cons nil") => `(tactic| refine Mine.Stop.mk ?_)

theorem gcd_spec {w : World} {A : Around} {s : Shared} {mean : ExcName → Option Value} {mg mb : Str → Option Value} {a b : Int} {ta tb : Tok} {Q : Value → Shared → Prop} {E : Value → Shared → Prop}
    (hh : A.handled = none) (hroom : A.depth + 20 < recursionLimit) (hu : A.units + 100 < cLine) (X : (hd.heap_39 w.params).In s.heap) (T : Top hd.view_39 (looseW hd.view_39 []) mean mg mb s.heap)
    (h : ∀ t h' tk, Kp s.heap h' → Q (.int (Int.gcd a b) t) { s with heap := h', toks := tk }) :
    wpAny (model PySem.Challenge.rw_af0004_01.row.prog w) A (call (.ref 21) [.int a ta, .int b tb]) Q E s := by
  revert X; k_fill; intro X
  obtain ⟨hd0, dp, fr, gd, un⟩ := A
  dsimp only at hh hroom hu; subst hh
  refine call_noE ?_
  refine enter_fn (by dsimp only; omega) X T (f := 21) rfl rfl (BindsTo.of_eq rfl) (by decide) (locs rfl) (fun h₁ F N => ?_) rfl rfl rfl
  dsimp only
  k_steps
  rename Fr _ _ _ _ => F'
  rename News _ _ _ _ => N'
  have gcd0 : ∀ z : Int, (if z < 0 then -z else z) = (z.natAbs : Int) := by intro z; split <;> omega
  refine While_inv (fun n m₁ _ => ∃ x y tx ty, m₁ (Str.ofString "a") = some (.int x tx) ∧ m₁ (Str.ofString "b") = some (.int y ty) ∧ 0 ≤ x ∧ 0 ≤ y ∧ n = y.natAbs ∧ Int.gcd x y = Int.gcd a b) (n₀ := b.natAbs) F' N' ?_ ?_ PassesOwn.never
  · refine ⟨_, _, _, _, rfl, rfl, ?_, ?_, ?_, ?_⟩
    · rw [gcd0]; omega
    · rw [gcd0]; omega
    · rw [gcd0]; simp
    · rw [gcd0, gcd0]; show Nat.gcd _ _ = Nat.gcd _ _; simp
  · rintro n m₁ news₁ h₂ tk₂ F₂ N₂ ⟨x, y, tx, ty, hx, hy, x0, y0, rfl, hg⟩
    have F₃ := Fr_say (Fr_say F₂ hy) ((if_neg (by decide)).trans hx)
    clear F₂ F' N'
    k_steps
    · rename y ≠ 0 => hy0
      refine WhileStep.intro (n' := (Int.fmod x y).natAbs) (by assumption) (by assumption) ?_ ⟨_, _, _, _, rfl, rfl, y0, ?_, rfl, ?_⟩
      · have h1 := Int.fmod_nonneg x0 y0
        have h2 := Int.fmod_lt_of_pos x (show 0 < y by omega)
        omega
      · exact Int.fmod_nonneg x0 y0
      · rw [← hg, Int.fmod_eq_emod_of_nonneg _ y0]
        obtain ⟨x', rfl⟩ := Int.eq_ofNat_of_zero_le x0
        obtain ⟨y', rfl⟩ := Int.eq_ofNat_of_zero_le y0
        show Nat.gcd y' (Int.natAbs ((x' : Int) % (y' : Int))) = Nat.gcd x' y'
        rw [← Int.natCast_emod, Int.natAbs_natCast, Nat.gcd_comm x' y', Nat.gcd_comm y', ← Nat.gcd_rec]
    · rename y = 0 => hy0
      subst hy0
      have e : x = (Int.gcd a b : Int) := by rw [← hg, Int.gcd_zero_right]; omega
      dsimp only
      rw [e]
      exact h _ _ _ F₃.keep
end Mine
end

noncomputable section
namespace Mine
noncomputable def euc : Nat → Int → Int → Int × Int × Int
  | 0, a, _ => (1, 0, a)
  | n + 1, a, b => if b = 0 then (1, 0, a) else
      ((euc n b (Int.fmod a b)).2.1, (euc n b (Int.fmod a b)).1 - Int.fdiv a b * (euc n b (Int.fmod a b)).2.1, (euc n b (Int.fmod a b)).2.2)

local macro_rules | `(tactic| walk_at "call ref") => `(tactic| refine Mine.Stop.mk ?_)
local macro_rules | `(tactic| walk_at "call ref cons nil") => `(tactic| refine Mine.Stop.mk ?_)

theorem ee_spec {w : World} {mean : ExcName → Option Value} {mg mb : Str → Option Value} : ∀ (n : Nat) {A : Around} {s : Shared} {a b : Int} {ta tb : Tok} {Q : Value → Shared → Prop} {E : Value → Shared → Prop},
    A.handled = none → A.depth + n + 20 < recursionLimit → A.units + 8 * n + 100 < cLine → 0 ≤ a → a < 1000000 → 0 ≤ b → b < n → (hd.heap_39 w.params).In s.heap → Top hd.view_39 (looseW hd.view_39 []) mean mg mb s.heap →
    (∀ D t1 t2 t3 h' tk, Kp s.heap h' → s.heap.get? D = none → h'.get? D = some { cls := .type "tuple", data := .seq #[.int (euc n a b).1 t1, .int (euc n a b).2.1 t2, .int (euc n a b).2.2 t3] } → Q (.ref D) { s with heap := h', toks := tk }) →
    wpAny (model PySem.Challenge.rw_af0004_01.row.prog w) A (call (.ref 28) [.int a ta, .int b tb]) Q E s := by
  intro n
  induction n with
  | zero => intro A s a b ta tb Q E hh hroom hu a0 a1 b0 b1; omega
  | succ n ih =>
    intro A s a b ta tb Q E hh hroom hu a0 a1 b0 b1 X T h
    revert X; k_fill; intro X
    obtain ⟨hd0, dp, fr, gd, un⟩ := A
    dsimp only at hh hroom hu; subst hh
    refine call_noE ?_
    refine enter_fn (by dsimp only; omega) X T (f := 28) rfl rfl (BindsTo.of_eq rfl) (by decide) (locs rfl) (fun h₁ F N => ?_) rfl rfl rfl
    dsimp only
    k_steps
    · rename b = 0 => hb
      rename Fr _ _ _ _ => F'
      rename News _ _ _ _ => N'
      have e : euc (n + 1) a b = (1, 0, a) := by rw [euc, if_pos hb]
      rw [e] at h
      exact h _ _ _ _ _ _ F'.keep (N' _ (.head _)).2.2 (N' _ (.head _)).1
    · rename b ≠ 0 => hb
      unfold Stop
      have hm0 := Int.fmod_nonneg a0 b0
      have hr : recursionLimit = 1000 := rfl
      have hm1 := Int.fmod_lt_of_pos a (show 0 < b by omega)
      refine ih rfl (by simp only [depth_deeper]; omega) (by simp only [units_deeper]; omega) b0 (by omega) hm0 (by omega) (fun x o e => F.keep x o (X x o e)) (T.keeps F.keep) fun D t1 t2 t3 h' tk' k hn ho => ?_
      have F2 := F.kept k
      have N2 := News_add F N k hn ho
      clear F N
      have hd0 : 0 ≤ Int.fdiv a b := Int.fdiv_nonneg a0 b0
      have hd1 : Int.fdiv a b ≤ a := by
        rw [Int.fdiv_eq_ediv_of_nonneg _ b0]; exact Int.ediv_le_self b a0
      k_steps
      rename Fr _ _ _ _ => F'
      rename News _ _ _ _ => N'
      have e : euc (n + 1) a b = ((euc n b (Int.fmod a b)).2.1, (euc n b (Int.fmod a b)).1 - Int.fdiv a b * (euc n b (Int.fmod a b)).2.1, (euc n b (Int.fmod a b)).2.2) := by rw [euc, if_neg hb]
      rw [e] at h
      exact h _ _ _ _ _ _ F'.keep (N' _ (.head _)).2.2 (N' _ (.head _)).1
end Mine
end

noncomputable section
namespace Mine
section
variable {M : Model} {A : Around} {R : GenEnd} {Y : Protocol} {n : Nat} {s₀ : Shared} {c : Code} {fs : List Frame} {s : Shared} {env : Env}
  {K : Flow → Sem PySem.Fin} {H : Value → Sem PySem.Fin} {gd : Bool → Bool} {lv : List Value → List Value}

theorem sg_stmt {st : Stmt} {rest : List Stmt}
    (h : wpAny M (A.over c fs) (exec st env) (fun f s' => match f with | .next => Seg M A R Y n s₀ c ((execs rest env).wrap K H gd lv) fs s' | f => Seg M A R Y n s₀ c (K f) fs s') NoE s) :
    Seg M A R Y n s₀ c ((execs (st :: rest) env).wrap K H gd lv) fs s := by
  refine seg_execs_cons (seg_wrap (wpAny_mono h (fun f s' h' => ?_) fun _ _ h' => h'.elim))
  cases f <;> exact h'

theorem sg_if {test : Expr} {body orelse rest : List Stmt} {pos : Pos}
    (h : wpAny M (A.over c fs) (isTrue test env (eval test env)) (fun b s' =>
      if b = true then Seg M A R Y n s₀ c ((execs body env).wrap (fun f => match f with | .next => (execs rest env).wrap K H gd lv | f => K f) H gd lv) fs s'
      else Seg M A R Y n s₀ c ((execs orelse env).wrap (fun f => match f with | .next => (execs rest env).wrap K H gd lv | f => K f) H gd lv) fs s') NoE s) :
    Seg M A R Y n s₀ c ((execs (.If test body orelse pos :: rest) env).wrap K H gd lv) fs s := by
  refine seg_execs_cons ?_
  show Seg _ _ _ _ _ _ _ (.at pos fun _ => (PySem.isTrue test env (eval test env) >>= fun b => if b = true then execs body env else execs orelse env).wrap _ H gd lv) fs s
  refine seg_at ?_
  rw [Sem.bind_eq_wrap', Sem.wrap_wrap]
  refine seg_wrap (wpAny_mono h (fun b s' h' => ?_) fun _ _ h' => h'.elim)
  cases b <;> exact h'

def YPost (Y : Protocol) (n : Nat) (s₀ : Shared) (v : Value) (s' : Shared) (P : Shared → Prop) : Prop :=
  ∀ kap : Resume → Shared → Prop, (∀ s'', P s'' → kap (.send .none) s'') → Y n s₀ v s' kap

theorem sg_yield {e : Expr} {ypos pos : Pos} {rest : List Stmt} (hfs : splitAtGen fs = none) (hgd : gd false = false) (hfg : fs.any Frame.guarded = false)
    (h : wpAny M (A.over c fs) (eval e env) (fun v s' => YPost Y n s₀ v s' fun s'' => Seg M A R Y n s'' c ((execs rest env).wrap K H gd lv) fs s'') NoE s)
    (hco : env.scope.isCoroutine = false := by rfl) (hi : interactive env = false := by rfl) :
    Seg M A R Y (n + 1) s₀ c ((execs (.Expr (.Yield (some e) ypos) pos :: rest) env).wrap K H gd lv) fs s := by
  refine seg_execs_cons (seg_Expr_Yield hfs hgd hfg (wpAny_mono h (fun v s' h' => ?_) fun _ _ h' => h'.elim) hco hi)
  intro kap hk
  exact h' kap fun s'' hs => hk .none s'' hs

theorem sg_nil (h : Seg M A R Y n s₀ c (K .next) fs s) : Seg M A R Y n s₀ c ((execs [] env).wrap K H gd lv) fs s := h
end

section
variable {prog : Program} {w : World} {A : Around} {R : GenEnd} {Y : Protocol} {fs : List Frame} {env : Env}

theorem sg_while_ind {σ : Type} {test : Expr} {body : List Stmt} (Inv : σ → Shared → Shared → Prop) (rows : σ → Nat) (meas : σ → Nat)
    (turn : ∀ x s₀ s, Inv x s₀ s →
      (∀ y s₁ s₂, meas y < meas x → Inv y s₁ s₂ → Seg (model prog w) A R Y (rows y) s₁ (.whileLoop test body [] env) (.pure (.again (.whileLoop test body [] env))) fs s₂) →
      wpAny (model prog w) (A.over (.whileLoop test body [] env) fs) (isTrue test env (eval test env)) (fun b s' =>
        if b = true then Seg (model prog w) A R Y (rows x) s₀ (.whileLoop test body [] env) ((execs body env).wrap (fun f => match f with
            | .next | .cont => .pure (.again (.whileLoop test body [] env))
            | .brk => .pure (.done .next)
            | .ret v => .pure (.done (.ret v))) (fun e => (do noteFrame e env; theTreesLotGoes e : Sem Unit).wrap (fun _ => .raise e) .raise id id) id id) fs s'
        else Seg (model prog w) A R Y (rows x) s₀ (.whileLoop test body [] env) (.pure (.done .next)) fs s') NoE s) :
    ∀ x s₀ s, Inv x s₀ s → Seg (model prog w) A R Y (rows x) s₀ (.whileLoop test body [] env) ((model prog w).den (.whileLoop test body [] env)) fs s := by
  have all : ∀ N, ∀ x, meas x < N → ∀ s₀ s, Inv x s₀ s → Seg (model prog w) A R Y (rows x) s₀ (.whileLoop test body [] env) ((model prog w).den (.whileLoop test body [] env)) fs s := by
    intro N
    induction N with
    | zero => intro x h; exact absurd h (Nat.not_lt_zero _)
    | succ N ih =>
      intro x hx s₀ s hI
      refine seg_whileLoop (wpAny_mono (turn x s₀ s hI fun y s₁ s₂ hy hI' => seg_again rfl (ih y (by omega) s₁ s₂ hI')) (fun b s' hb => ?_) fun _ _ h' => h'.elim)
      cases b with
      | true => exact hb
      | false => exact hb
  exact fun x => all _ x (Nat.lt_succ_self _)
end

/-- the protocol: the m-th last of rs comes, as a fresh tuple; woken with h₀ and the own frame kept -/
def Prot (C : Addr) (h₀ : Heap) (rs : List (Int × Int)) : Protocol := fun m s₀ v s kap =>
  (∃ T t1 t2 x y, v = .ref T ∧ s.heap.get? T = some { cls := .type "tuple", data := .seq #[.int x t1, .int y t2] } ∧ s₀.heap.get? T = none ∧ rs[rs.length - 1 - m]? = some (x, y)) ∧
 (∃ o, s.heap.get? C = some o) ∧ GenSince C [] s₀ s ∧
  ∀ s'', (∀ b o, h₀.get? b = some o → s''.heap.get? b = some o) → (∀ o, s.heap.get? C = some o → s''.heap.get? C = some o) → kap (.send .none) s''
def others (h₀ h : Heap) (C : Addr) : List (Addr × Obj) :=
  (List.range h.objs.size).filterMap fun b => if b = C then none else match h₀.get? b, h.get? b with | none, some o => some (b, o) | _, _ => none
theorem others_mem {h₀ h : Heap} {C b : Addr} {o : Obj} : (b, o) ∈ others h₀ h C ↔ (b ≠ C ∧ h₀.get? b = none ∧ h.get? b = some o) := by
  unfold others
  rw [List.mem_filterMap]
  constructor
  · rintro ⟨b', _, hb⟩
    by_cases e : b' = C
    · rw [if_pos e] at hb; cases hb
    · rw [if_neg e] at hb
      split at hb
      · cases hb; exact ⟨e, by assumption, by assumption⟩
      · cases hb
  · rintro ⟨h1, h2, h3⟩
    exact ⟨b, List.mem_range.mpr (Heap.lt_size h3), by rw [if_neg h1, h2, h3]⟩

/-- what stands besides the creation heap and the own frame, as a ledger; and the way back -/
theorem gs_news {h₀ : Heap} {C : Addr} {s₀ s : Shared} {m : Str → Option Value} (F : Fr h₀ C s.heap m) (k0 : Kp h₀ s₀.heap) (g : GenSince C [] s₀ s) :
    ∃ nw, News h₀ C s.heap nw ∧ (∀ (h' : Heap) (m' : Str → Option Value) (nw' : List (Addr × Obj)) (tk : Nat), Fr h₀ C h' m' → News h₀ C h' nw' → (∀ p ∈ nw, p ∈ nw') → GenSince C [] s₀ { s with heap := h', toks := tk }) ∧
      ∀ D, h₀.get? D = none → D ≠ C → (∀ p ∈ nw, p.1 < D) → s₀.heap.get? D = none := by
  obtain ⟨h1, tk1, rfl, k1⟩ := g
  refine ⟨others h₀ s₀.heap C, ?_, ?_, ?_⟩
  · rintro ⟨b, o⟩ hp
    obtain ⟨h2, h3, h4⟩ := others_mem.mp hp
    exact ⟨k1 b o h2 (List.not_mem_nil) h4, h2, h3⟩
  · intro h' m' nw' tk F' N' hsub
    refine ⟨h', tk, rfl, fun b o hb _ e => ?_⟩
    cases hq : h₀.get? b with
    | some o' =>
      have := k0 b o' hq
      rw [e] at this
      cases this
      exact F'.keep b _ hq
    | none => exact (N' (b, o) (hsub _ (others_mem.mpr ⟨hb, hq, e⟩))).1
  · intro D h1 h2 h3
    cases hq : s₀.heap.get? D with
    | none => rfl
    | some o => exact absurd (h3 _ (others_mem.mpr ⟨h2, h1, hq⟩)) (Nat.lt_irrefl _)

theorem yp {C T : Addr} {h₀ : Heap} {rs : List (Int × Int)} {n : Nat} {s₀ s' : Shared} {P : Shared → Prop} {m' : Str → Option Value} {x y : Int} {t1 t2 : Tok} (F' : Fr h₀ C s'.heap m') (g : GenSince C [] s₀ s')
    (ho : s'.heap.get? T = some { cls := .type "tuple", data := .seq #[.int x t1, .int y t2] }) (hn : s₀.heap.get? T = none) (hi : rs[rs.length - 1 - n]? = some (x, y))
    (hP : ∀ s'', Kp h₀ s''.heap → Fr h₀ C s''.heap m' → P s'') : YPost (Prot C h₀ rs) n s₀ (.ref T) s' P :=
  fun _ hk => ⟨⟨T, t1, t2, x, y, rfl, ho, hn, hi⟩, (let ⟨o, _, _, hL, _⟩ := F'.ns; ⟨o, hL⟩), g, fun s'' k hC => hk s'' (hP s'' k ⟨F'.ns.at' hC, k, F'.above⟩)⟩
theorem idx_here {α : Type} (pre : List α) (x : α) (tl : List α) : (pre ++ x :: tl)[(pre ++ x :: tl).length - 1 - tl.length]? = some x := by
  have : (pre ++ x :: tl).length - 1 - tl.length = pre.length := by simp only [List.length_append, List.length_cons]; omega
  rw [this, List.getElem?_append_right (Nat.le_refl _), Nat.sub_self]; rfl

def REnd (C : Addr) : GenEnd := fun n s₀ r s₁ => r = .ok (.ret .none) ∧ (n = 0 ∧ GenSince C [] s₀ s₁)
end Mine
end

noncomputable section
namespace Mine
noncomputable def loopU : Nat → Int → Int → Int → Int → List (Int × Int)
  | 0, _, _, _, _ => []
  | n + 1, a, b, x, y => if 0 ≤ y then (if 0 ≤ x then (x, y) :: loopU n a b (x + b) (y - a) else loopU n a b (x + b) (y - a)) else []
noncomputable def loopD : Nat → Int → Int → Int → Int → List (Int × Int)
  | 0, _, _, _, _ => []
  | n + 1, a, b, x, y => if 0 ≤ x then (if 0 ≤ y then (x, y) :: loopD n a b (x - b) (y + a) else loopD n a b (x - b) (y + a)) else []
def bslK (a b c : Int) : List (Int × Int) :=
  if c = 0 then [(0, 0)] else
  if Int.fmod c (euc 50 a b).2.2 ≠ 0 then [] else
  if c * (euc 50 a b).1 ≤ 0 then loopU 40000 a b (c * (euc 50 a b).1) (c * (euc 50 a b).2.1)
  else loopD 40000 a b (c * (euc 50 a b).1) (c * (euc 50 a b).2.1)
def gcd3 (a b c : Int) : Int := (Int.gcd a (Int.gcd b c : Int) : Int)
def bsl (a b c : Int) : List (Int × Int) := bslK (Int.fdiv a (gcd3 a b c)) (Int.fdiv b (gcd3 a b c)) (Int.fdiv c (gcd3 a b c))

def eucOk (a b : Int) : Bool := (euc 50 a b).2.2 != 0 && decide ((euc 50 a b).1.natAbs ≤ 40) && decide ((euc 50 a b).2.1.natAbs ≤ 40)
theorem eucOk_all : ∀ a : Fin 41, ∀ b : Fin 41, (a.val = 0 ∨ b.val = 0) ∨ eucOk (a.val : Int) (b.val : Int) = true := by decide +kernel
theorem eucOk_of {a b : Int} (a0 : 1 ≤ a) (a1 : a ≤ 40) (b0 : 1 ≤ b) (b1 : b ≤ 40) : (euc 50 a b).2.2 ≠ 0 ∧ (euc 50 a b).1.natAbs ≤ 40 ∧ (euc 50 a b).2.1.natAbs ≤ 40 := by
  have h := eucOk_all ⟨a.toNat, by omega⟩ ⟨b.toNat, by omega⟩
  have h1 : ((a.toNat : Nat) : Int) = a := by omega
  have h2 : ((b.toNat : Nat) : Int) = b := by omega
  dsimp only at h
  rw [h1, h2] at h
  rcases h with h | h
  · omega
  · simp only [eucOk, Bool.and_eq_true, decide_eq_true_eq, bne_iff_ne, ne_eq] at h
    exact ⟨h.1.1, h.1.2, h.2⟩

theorem gcd3_facts {a b c : Int} (a0 : 1 ≤ a) (b0 : 1 ≤ b) (c0 : 0 ≤ c) : 1 ≤ gcd3 a b c ∧ 1 ≤ Int.fdiv a (gcd3 a b c) ∧ Int.fdiv a (gcd3 a b c) ≤ a ∧ 1 ≤ Int.fdiv b (gcd3 a b c) ∧ Int.fdiv b (gcd3 a b c) ≤ b ∧ 0 ≤ Int.fdiv c (gcd3 a b c) ∧ Int.fdiv c (gcd3 a b c) ≤ c ∧ gcd3 a b c ≤ 1000000 + a := by
  have ha : (gcd3 a b c) ∣ a := Int.gcd_dvd_left ..
  have hb' : (gcd3 a b c) ∣ (Int.gcd b c : Int) := Int.gcd_dvd_right ..
  have hb : (gcd3 a b c) ∣ b := Int.dvd_trans hb' (Int.gcd_dvd_left ..)
  have hg0 : 0 ≤ gcd3 a b c := Int.natCast_nonneg _
  have hg : 1 ≤ gcd3 a b c := by
    rcases Int.lt_or_eq_of_le hg0 with h | h
    · omega
    · rw [← h] at ha
      have := Int.zero_dvd.mp ha
      omega
  have hle : gcd3 a b c ≤ a := Int.le_of_dvd (by omega) ha
  generalize gcd3 a b c = g at *
  have key : ∀ x : Int, 1 ≤ x → g ∣ x → 1 ≤ Int.fdiv x g ∧ Int.fdiv x g ≤ x := by
    rintro x hx ⟨k, rfl⟩
    rw [Int.fdiv_eq_ediv_of_nonneg _ hg0, Int.mul_ediv_cancel_left _ (by omega)]
    have hk : 1 ≤ k := by
      rcases Int.lt_or_le 0 k with h | h
      · omega
      · have := Int.mul_nonpos_of_nonneg_of_nonpos hg0 h
        omega
    refine ⟨hk, ?_⟩
    have := Int.mul_le_mul_of_nonneg_right hg (show 0 ≤ k by omega)
    omega
  have hc0 : 0 ≤ Int.fdiv c g := Int.fdiv_nonneg c0 hg0
  have hc1 : Int.fdiv c g ≤ c := by rw [Int.fdiv_eq_ediv_of_nonneg _ hg0]; exact Int.ediv_le_self _ c0
  have := key a a0 ha
  have := key b b0 hb
  omega

def GAt (w : World) (A : Around) (G : Addr) (g : Nat) (C : Addr) (h₀ : Heap) (rs : List (Int × Int)) (j : Nat) (s : Shared) : Prop :=
  s.heap.IsGen G g ∧ s.heap.NoLimit ∧ Kp h₀ s.heap ∧ (∃ o, s.heap.get? C = some o) ∧ ∃ gs, s.gens[g]? = some gs ∧ ∀ s'', Kp h₀ s''.heap → (∀ o, s.heap.get? C = some o → s''.heap.get? C = some o) →
    gs.Goes (model PySem.Challenge.rw_af0004_01.row.prog w) A.in1 (REnd C) (Prot C h₀ rs) (rs.length - j) (.send .none) s''

local macro_rules | `(tactic| walk_at "call ref") => `(tactic| refine Mine.Stop.mk ?_)
local macro_rules | `(tactic| walk_at "call ref cons nil") => `(tactic| refine Mine.Stop.mk ?_)

theorem gen_call {w : World} {mean : ExcName → Option Value} {mg mb : Str → Option Value} {A : Around} {s : Shared} {a b c : Int} {ta tb tc : Tok} {Q : Value → Shared → Prop} {E : Value → Shared → Prop}
    (hroom : A.depth + 1 < recursionLimit) (a0 : 1 ≤ a) (a1 : a ≤ 40) (b0 : 1 ≤ b) (b1 : b ≤ 40) (c0 : 0 ≤ c) (c1 : c ≤ 500)
    (X : (hd.heap_39 w.params).In s.heap) (T : Top hd.view_39 (looseW hd.view_39 []) mean mg mb s.heap)
    (h : ∀ G g C h' tk gs, gs.bare = true → Kp s.heap h' → s.heap.get? G = none → s.heap.get? C = none → G ≠ C → g = s.gens.size →
      (∀ A' : Around, A'.handled = none → A'.depth + 100 < recursionLimit → A'.units + 600 < cLine → GAt w A' G g C s.heap (bsl a b c) 0 { s with gens := s.gens.push gs, heap := h', toks := tk }) →
      Q (.ref G) { s with gens := s.gens.push gs, heap := h', toks := tk }) :
    wpAny (model PySem.Challenge.rw_af0004_01.row.prog w) A (call (.ref 35) [.int a ta, .int b tb, .int c tc]) Q E s := by
  revert X; k_fill; intro X
  refine call_noE ?_
  refine codeAny_call_generator (by omega) (X 35 _ rfl) rfl rfl rfl rfl (codeRec_of X rfl) ?_
  refine (BindsTo.of_eq rfl : BindsTo s _ _ _) _ _ _ _ (wpAny_newFunctionEnv (by decide) (locs rfl) (fun h₁ hns hsb => ?_) rfl)
  have hk₁ : Kp s.heap h₁ := fun b o e => hsb.extBut b o (Nat.ne_of_lt (Heap.lt_size e)) (Heap.get?_push_of_some _ e)
  have hsz : h₁.objs.size = s.heap.objs.size + 1 := by rw [hsb.1, Heap.size_push]
  refine ⟨T.nolimit.keeps hk₁, ?_⟩
  refine h h₁.objs.size s.gens.size s.heap.objs.size _ _ _ rfl (fun b o e => Heap.get?_push_of_some _ (hk₁ b o e)) (Heap.get?_none_of_le (by rw [hsz]; exact Nat.le_succ _)) (Heap.get?_none_of_le (Nat.le_refl _)) (by rw [hsz]; exact Nat.succ_ne_self _) rfl fun A' hh hr hu => ?_
  refine ⟨⟨_, _, _, Heap.get?_push_size _ rfl, rfl, rfl, rfl⟩, (T.nolimit.keeps hk₁).keeps (fun b o e => Heap.get?_push_of_some _ e), (fun b o e => Heap.get?_push_of_some _ (hk₁ b o e)), (let ⟨o, _, _, hL, _⟩ := hns; ⟨o, Heap.get?_push_of_some _ hL⟩), _, Array.getElem?_push_size .., fun s'' hk2 hC => ⟨rfl, ?_⟩⟩
  rw [Nat.sub_zero]
  have F : Fr s.heap s.heap.objs.size s''.heap _ := ⟨hns.at' fun o e => hC o (Heap.get?_push_of_some _ e), hk2, Nat.le_refl _⟩
  have hs0 : GenSince s.heap.objs.size [] s'' s'' := GenSince.refl _ _ _
  clear h hns hsb hk₁ hsz hC h₁
  obtain ⟨hd0, dp, fr, gd, un⟩ := A'
  dsimp only at hh hr hu; subst hh
  generalize s.heap.objs.size = C at *
  generalize s.heap = h₀ at *
  obtain ⟨nw, N, back, new⟩ := gs_news F hk2 hs0
  refine seg_func ?_
  refine sg_if ?_
  k_steps
  refine sg_nil ?_
  refine sg_if ?_
  k_steps
  refine sg_nil ?_
  refine sg_stmt ?_
  k_steps
  refine gcd_spec rfl (by show dp + 0 + 1 + 20 < _; omega) (by show un + 1 + 0 + 3 + 100 < _; omega) (fun x o e => F.keep x o (X x o e)) (T.keeps F.keep) fun t1 h1 tk1 k1 => ?_
  have F1 := F.kept k1
  have N1 : News h₀ C h1 nw := N.grown k1
  clear F N
  k_steps
  refine gcd_spec rfl (by show dp + 0 + 1 + 20 < _; omega) (by show un + 1 + 0 + 3 + 100 < _; omega) (fun x o e => F1.keep x o (X x o e)) (T.keeps F1.keep) fun t2 h2 tk2 k2 => ?_
  have F2 := F1.kept k2
  have N2 : News h₀ C h2 nw := N1.grown k2
  obtain ⟨hg, ha1, ha2, hb1, hb2, hc1, hc2, hg2⟩ := gcd3_facts a0 b0 c0
  have hgd : (Int.gcd a (Int.gcd b c : Int) : Int) = gcd3 a b c := rfl
  rw [hgd]
  clear F1 N1
  k_steps
  refine sg_stmt ?_
  k_steps
  refine sg_stmt ?_
  k_steps
  refine sg_stmt ?_
  k_steps
  have hbs : bsl a b c = bslK (Int.fdiv a (gcd3 a b c)) (Int.fdiv b (gcd3 a b c)) (Int.fdiv c (gcd3 a b c)) := rfl
  rw [hbs]
  clear hbs hgd
  generalize Int.fdiv a (gcd3 a b c) = a' at *
  generalize Int.fdiv b (gcd3 a b c) = b' at *
  generalize Int.fdiv c (gcd3 a b c) = c' at *
  refine sg_if ?_
  k_steps
  · -- c' = 0
    rename c' = 0 => hc
    have e : bslK a' b' c' = [(0, 0)] := by unfold bslK; rw [if_pos hc]
    rw [e]
    refine sg_yield rfl rfl rfl ?_
    k_steps
    rename Fr _ _ _ _ => F3
    rename News _ _ _ _ => N3
    refine yp F3 (back _ _ _ _ F3 N3 fun p hp => .tail _ hp) (N3 _ (.head _)).1 (new _ (N3 _ (.head _)).2.2 (N3 _ (.head _)).2.1 (by assumption)) rfl fun s3 k3 F4 => ?_
    refine sg_nil (sg_nil ?_)
    exact seg_end (.ok (.ret .none)) ⟨rfl, rfl, GenSince.refl _ _ _⟩
  · rename c' ≠ 0 => hc
    have hr9 : recursionLimit = 1000 := rfl
    have hu9 : cLine = 9900 := rfl
    obtain ⟨he1, he2, he3⟩ := eucOk_of ha1 (by omega : a' ≤ 40) hb1 (by omega : b' ≤ 40)
    refine sg_stmt ?_
    k_steps
    rename Fr _ _ _ _ => F3
    rename News _ _ _ _ => N3
    refine ee_spec 50 rfl (by show dp + 0 + 1 + 50 + 20 < _; omega) (by show un + 1 + 0 + 3 + 8 * 50 + 100 < _; omega) (by omega) (by omega) (by omega) (by omega) (fun x o e => F3.keep x o (X x o e)) (T.keeps F3.keep) fun D t3 t4 t5 h3 tk3 k3 hn3 ho3 => ?_
    have F4 := F3.kept k3
    have N4 := News_add F3 N3 k3 hn3 ho3
    clear F3 N3
    k_steps
    rw [show bslK a' b' c' = if Int.fmod c' (euc 50 a' b').2.2 ≠ 0 then [] else
      if c' * (euc 50 a' b').1 ≤ 0 then loopU 40000 a' b' (c' * (euc 50 a' b').1) (c' * (euc 50 a' b').2.1)
      else loopD 40000 a' b' (c' * (euc 50 a' b').1) (c' * (euc 50 a' b').2.1) from by unfold bslK; rw [if_neg hc]]
    clear ho3 hn3 k3
    generalize (euc 50 a' b').1 = e1 at *
    generalize (euc 50 a' b').2.1 = e2 at *
    generalize (euc 50 a' b').2.2 = e3 at *
    refine sg_if ?_
    k_steps
    · rename Int.fmod c' e3 ≠ 0 => hm
      rw [if_pos hm]
      rename Fr _ _ _ _ => F5
      rename News _ _ _ _ => N5
      refine sg_stmt ?_
      k_steps
      exact seg_end (.ok (.ret .none)) ⟨rfl, rfl, back _ _ _ _ F5 N5 fun p hp => .tail _ hp⟩
    · rename Int.fmod c' e3 = 0 => hm
      rw [if_neg (fun q => q hm)]
      refine sg_nil ?_
      refine sg_stmt ?_
      k_steps
      have hy1 : c' * e2 < 40000 := by
        have h1 : c' * e2 ≤ c' * 40 := Int.mul_le_mul_of_nonneg_left (by omega) hc1
        omega
      have hx1 : c' * e1 < 40000 := by
        have h1 : c' * e1 ≤ c' * 40 := Int.mul_le_mul_of_nonneg_left (by omega) hc1
        omega
      have hx2 : -40000 < c' * e1 := by
        have h1 : c' * (-40) ≤ c' * e1 := Int.mul_le_mul_of_nonneg_left (by omega) hc1
        omega
      have hy2 : -40000 < c' * e2 := by
        have h1 : c' * (-40) ≤ c' * e2 := Int.mul_le_mul_of_nonneg_left (by omega) hc1
        omega
      generalize c' * e1 = x0 at *
      generalize c' * e2 = y0 at *
      refine sg_if ?_
      k_steps
      · rename x0 ≤ 0 => hx
        rw [if_pos hx]
        rename Fr _ _ _ _ => F6
        rename News _ _ _ _ => N6
        have g6 := fun tk => back _ _ _ tk F6 N6 (fun p hp => .tail _ (.tail _ hp))
        clear N6 back new
        refine seg_execs_cons (seg_While fun p => ?_)
        refine sg_while_ind (σ := Int × Int × Nat) (fun q s₀ s => q.2.1 < q.2.2 ∧ Kp h₀ s₀.heap ∧ GenSince C [] s₀ s ∧ (∃ pre, loopU 40000 a' b' x0 y0 = pre ++ loopU q.2.2 a' b' q.1 q.2.1) ∧
            ∃ m ta tb tx ty, Fr h₀ C s.heap m ∧ m (Str.ofString "a") = some (.int a' ta) ∧ m (Str.ofString "b") = some (.int b' tb) ∧ m (Str.ofString "x") = some (.int q.1 tx) ∧ m (Str.ofString "y") = some (.int q.2.1 ty))
          (fun q => (loopU q.2.2 a' b' q.1 q.2.1).length) (fun q => q.2.2) ?_ (x0, y0, 40000) s'' _ ⟨by dsimp only; omega, hk2, g6 _, ⟨[], (List.nil_append _).symm⟩, _, _, _, _, _, F6, rfl, rfl, rfl, rfl⟩
        clear F6 g6 hs0 hk2
        rintro ⟨x, y, N⟩ s₀ s1 ⟨hN, hk, g, ⟨pre, hpre⟩, m, sa, sb, sx, sy, F7, ma, mb', mx, my⟩ IH
        dsimp only at hN hk g hpre ma mb' mx my ⊢
        obtain ⟨nw1, N8, back1, new1⟩ := gs_news F7 hk g
        have F8 := Fr_say (Fr_say (Fr_say (Fr_say F7 ma) ((if_neg (by decide)).trans mb')) ((if_neg (by decide)).trans ((if_neg (by decide)).trans mx))) ((if_neg (by decide)).trans ((if_neg (by decide)).trans ((if_neg (by decide)).trans my)))
        clear F7 g
        k_steps
        · rename 0 ≤ y => hv
          obtain ⟨N', rfl⟩ : ∃ N', N = N' + 1 := ⟨N - 1, by omega⟩
          refine sg_if ?_
          k_steps
          · rename 0 ≤ x => ho
            have e : loopU (N' + 1) a' b' x y = (x, y) :: loopU N' a' b' (x + b') (y - a') := by rw [loopU, if_pos hv, if_pos ho]
            rw [e, List.length_cons]
            refine sg_yield rfl rfl rfl ?_
            k_steps
            rename Fr _ _ _ _ => F9
            rename News _ _ _ _ => N9
            refine yp F9 (back1 _ _ _ _ F9 N9 fun p hp => .tail _ hp) (N9 _ (.head _)).1 (new1 _ (N9 _ (.head _)).2.2 (N9 _ (.head _)).2.1 (by assumption)) (by rw [hpre, e]; exact idx_here _ _ _) fun s3 k3 F10 => ?_
            clear N9 F9 back1 new1
            obtain ⟨nw2, N10, back2, new2⟩ := gs_news F10 k3 (GenSince.refl C [] s3)
            clear new2
            refine sg_nil ?_
            refine sg_stmt ?_
            k_steps
            refine sg_stmt ?_
            k_steps
            rename Fr _ _ _ _ => F11
            rename News _ _ _ _ => N11
            exact IH (x + b', y - a', N') s3 _ (Nat.lt_succ_self _) ⟨by dsimp only; omega, k3, back2 _ _ _ _ F11 N11 (fun p hp => hp), ⟨pre ++ [(x, y)], by rw [hpre, e]; simp⟩, _, _, _, _, _, F11, rfl, rfl, rfl, rfl⟩
          · rename ¬ 0 ≤ x => ho
            have e : loopU (N' + 1) a' b' x y = loopU N' a' b' (x + b') (y - a') := by rw [loopU, if_pos hv, if_neg ho]
            rw [e]
            refine sg_nil ?_
            refine sg_stmt ?_
            k_steps
            refine sg_stmt ?_
            k_steps
            rename Fr _ _ _ _ => F11
            rename News _ _ _ _ => N11
            exact IH (x + b', y - a', N') s₀ _ (Nat.lt_succ_self _) ⟨by dsimp only; omega, hk, back1 _ _ _ _ F11 N11 (fun p hp => hp), ⟨pre, by rw [hpre, e]⟩, _, _, _, _, _, F11, rfl, rfl, rfl, rfl⟩
        · rename ¬ 0 ≤ y => hv
          have e : loopU N a' b' x y = [] := by
            cases N with
            | zero => rfl
            | succ N => rw [loopU, if_neg hv]
          rw [e]
          refine seg_leaf (.ok .next) ?_
          exact seg_end (.ok (.ret .none)) ⟨rfl, rfl, back1 _ _ _ _ F8 N8 (fun p hp => hp)⟩
      · rename ¬ x0 ≤ 0 => hx
        rw [if_neg hx]
        rename Fr _ _ _ _ => F6
        rename News _ _ _ _ => N6
        have g6 := fun tk => back _ _ _ tk F6 N6 (fun p hp => .tail _ (.tail _ hp))
        clear N6 back new
        refine seg_execs_cons (seg_While fun p => ?_)
        refine sg_while_ind (σ := Int × Int × Nat) (fun q s₀ s => q.1 < q.2.2 ∧ Kp h₀ s₀.heap ∧ GenSince C [] s₀ s ∧ (∃ pre, loopD 40000 a' b' x0 y0 = pre ++ loopD q.2.2 a' b' q.1 q.2.1) ∧
            ∃ m ta tb tx ty, Fr h₀ C s.heap m ∧ m (Str.ofString "a") = some (.int a' ta) ∧ m (Str.ofString "b") = some (.int b' tb) ∧ m (Str.ofString "x") = some (.int q.1 tx) ∧ m (Str.ofString "y") = some (.int q.2.1 ty))
          (fun q => (loopD q.2.2 a' b' q.1 q.2.1).length) (fun q => q.2.2) ?_ (x0, y0, 40000) s'' _ ⟨by dsimp only; omega, hk2, g6 _, ⟨[], (List.nil_append _).symm⟩, _, _, _, _, _, F6, rfl, rfl, rfl, rfl⟩
        clear F6 g6 hs0 hk2
        rintro ⟨x, y, N⟩ s₀ s1 ⟨hN, hk, g, ⟨pre, hpre⟩, m, sa, sb, sx, sy, F7, ma, mb', mx, my⟩ IH
        dsimp only at hN hk g hpre ma mb' mx my ⊢
        obtain ⟨nw1, N8, back1, new1⟩ := gs_news F7 hk g
        have F8 := Fr_say (Fr_say (Fr_say (Fr_say F7 ma) ((if_neg (by decide)).trans mb')) ((if_neg (by decide)).trans ((if_neg (by decide)).trans mx))) ((if_neg (by decide)).trans ((if_neg (by decide)).trans ((if_neg (by decide)).trans my)))
        clear F7 g
        k_steps
        · rename 0 ≤ x => hv
          obtain ⟨N', rfl⟩ : ∃ N', N = N' + 1 := ⟨N - 1, by omega⟩
          refine sg_if ?_
          k_steps
          · rename 0 ≤ y => ho
            have e : loopD (N' + 1) a' b' x y = (x, y) :: loopD N' a' b' (x - b') (y + a') := by rw [loopD, if_pos hv, if_pos ho]
            rw [e, List.length_cons]
            refine sg_yield rfl rfl rfl ?_
            k_steps
            rename Fr _ _ _ _ => F9
            rename News _ _ _ _ => N9
            refine yp F9 (back1 _ _ _ _ F9 N9 fun p hp => .tail _ hp) (N9 _ (.head _)).1 (new1 _ (N9 _ (.head _)).2.2 (N9 _ (.head _)).2.1 (by assumption)) (by rw [hpre, e]; exact idx_here _ _ _) fun s3 k3 F10 => ?_
            clear N9 F9 back1 new1
            obtain ⟨nw2, N10, back2, new2⟩ := gs_news F10 k3 (GenSince.refl C [] s3)
            clear new2
            refine sg_nil ?_
            refine sg_stmt ?_
            k_steps
            refine sg_stmt ?_
            k_steps
            rename Fr _ _ _ _ => F11
            rename News _ _ _ _ => N11
            exact IH (x - b', y + a', N') s3 _ (Nat.lt_succ_self _) ⟨by dsimp only; omega, k3, back2 _ _ _ _ F11 N11 (fun p hp => hp), ⟨pre ++ [(x, y)], by rw [hpre, e]; simp⟩, _, _, _, _, _, F11, rfl, rfl, rfl, rfl⟩
          · rename ¬ 0 ≤ y => ho
            have e : loopD (N' + 1) a' b' x y = loopD N' a' b' (x - b') (y + a') := by rw [loopD, if_pos hv, if_neg ho]
            rw [e]
            refine sg_nil ?_
            refine sg_stmt ?_
            k_steps
            refine sg_stmt ?_
            k_steps
            rename Fr _ _ _ _ => F11
            rename News _ _ _ _ => N11
            exact IH (x - b', y + a', N') s₀ _ (Nat.lt_succ_self _) ⟨by dsimp only; omega, hk, back1 _ _ _ _ F11 N11 (fun p hp => hp), ⟨pre, by rw [hpre, e]⟩, _, _, _, _, _, F11, rfl, rfl, rfl, rfl⟩
        · rename ¬ 0 ≤ x => hv
          have e : loopD N a' b' x y = [] := by
            cases N with
            | zero => rfl
            | succ N => rw [loopD, if_neg hv]
          rw [e]
          refine seg_leaf (.ok .next) ?_
          exact seg_end (.ok (.ret .none)) ⟨rfl, rfl, back1 _ _ _ _ F8 N8 (fun p hp => hp)⟩
end Mine
end

noncomputable section
namespace Mine
abbrev PairAt (h : Heap) (T : Addr) (x y : Int) : Prop := ∃ t1 t2, h.get? T = some ({ cls := .type "tuple", data := .seq #[.int x t1, .int y t2] } : Obj)

section
variable {w : World} {A : Around} {E : Value → Shared → Prop} {s : Shared} {G C : Addr} {g j : Nat} {h₀ : Heap} {rs : List (Int × Int)} {Q : Option Value → Shared → Prop}

theorem GAt.frame (st : GAt w A G g C h₀ rs j s) (hl : h₀.NoLimit) {h' : Heap} {tk : Nat} (k0 : Kp h₀ h') (kC : ∀ o, s.heap.get? C = some o → h'.get? C = some o) (kG : ∀ o, s.heap.get? G = some o → h'.get? G = some o) :
    GAt w A G g C h₀ rs j { s with heap := h', toks := tk } := by
  obtain ⟨⟨o, nm, qn, ho, r⟩, _, k1, ⟨oC, hoC⟩, gs, hgs, hgo⟩ := st
  exact ⟨⟨o, nm, qn, kG _ ho, r⟩, hl.keeps k0, k0, ⟨oC, kC _ hoC⟩, gs, hgs, fun s'' k2 k3 => hgo s'' k2 fun o e => k3 o (kC o e)⟩

/-- all generators but the g-th stand bare: enough while the g-th is drained, for at its end it is finished -/
def BareBut (g : Nat) (gens : Array GenState) : Prop := ∀ i y, i ≠ g → gens[i]? = some y → y.bare = true
theorem BareBut.of_all {g : Nat} {gens : Array GenState} (h : AllBare gens) : BareBut g gens := fun _ _ _ e => h _ (Array.mem_of_getElem? e)
theorem BareBut.set {g : Nat} {gens : Array GenState} {x : GenState} (h : BareBut g gens) : BareBut g (gens.setIfInBounds g x) := fun i y hi e => by
  rw [Array.getElem?_setIfInBounds_ne (Ne.symm hi)] at e
  exact h i y hi e
theorem BareBut.done {g : Nat} {gens : Array GenState} (h : BareBut g gens) : AllBare (gens.setIfInBounds g .finished) := fun y hy => by
  rcases Array.mem_iff_getElem?.mp hy with ⟨i, e⟩
  by_cases hi : i = g
  · subst hi
    rw [Array.getElem?_setIfInBounds_self] at e
    split at e
    · cases e; rfl
    · cases e
  · exact h.set i y hi e

theorem gat_item (hh : A.handled = none) (hroom : A.depth < recursionLimit) (hl : h₀.NoLimit) (hC0 : h₀.get? C = none) (hGC : G ≠ C) (hj : j < rs.length) (st : GAt w A G g C h₀ rs j s) (hb : BareBut g s.gens)
    (hQ : ∀ T x y h' tk gn, rs[j]? = some (x, y) → PairAt h' T x y → s.heap.get? T = none → T ≠ C → (∀ b o, b ≠ C → s.heap.get? b = some o → h'.get? b = some o) → BareBut g gn →
      GAt w A G g C h₀ rs (j + 1) { s with heap := h', toks := tk, gens := gn } → Q (some (.ref T)) { s with heap := h', toks := tk, gens := gn }) :
    wpAny (model PySem.Challenge.rw_af0004_01.row.prog w) A (pyNext (.ref G)) Q E s := by
  obtain ⟨hg, hl1, k0, ⟨oC, hoC⟩, gs, hgs, hgo⟩ := st
  obtain ⟨m, hm⟩ : ∃ m, rs.length - j = m + 1 := ⟨rs.length - j - 1, by omega⟩
  rw [hm] at hgo
  refine wpAny_pyNext_gen (P := fun n s₀ s₁ => n = 0 ∧ GenSince C [] s₀ s₁) hh hl1 hroom hg hgs (hgo (s.setGen g .running) k0 fun _ e => e) (fun v s₁ gs' hv => ?_) (fun s₁ hp h' hk => ?_)
  · obtain ⟨⟨T, t1, t2, x, y, rfl, hT, hTn, hi⟩, ⟨oC1, hoC1⟩, ⟨h₁, tk₁, rfl, hk₁⟩, hkap⟩ := hv
    have e1 : rs.length - 1 - (m + 1 - 1) = j := by omega
    rw [e1] at hi
    refine hQ T x y h₁ tk₁ _ hi ⟨t1, t2, hT⟩ hTn (fun e => by rw [e] at hTn; rw [show s.heap.get? C = none from hTn] at hoC; cases hoC) (fun b o hb e => hk₁ b o hb (List.not_mem_nil) e) hb.set.set ?_
    have k1 : Kp h₀ h₁ := by
      intro b o e
      by_cases hbC : b = C
      · subst hbC; rw [hC0] at e; cases e
      · exact hk₁ b o hbC (List.not_mem_nil) (k0 b o e)
    refine ⟨let ⟨o, nm, qn, ho, r⟩ := hg; ⟨o, nm, qn, hk₁ _ _ hGC (List.not_mem_nil) ho, r⟩, hl.keeps k1, k1, ⟨oC1, hoC1⟩, gs', setGen_self (gs := .running) (setGen_self hgs), fun s'' k2 k3 => ?_⟩
    have e2 : rs.length - (j + 1) = m := by omega
    rw [e2]
    exact hkap s'' k2 k3
  · exact absurd hp.1 (Nat.succ_ne_zero m)

theorem gat_done (hh : A.handled = none) (hroom : A.depth < recursionLimit) (hC0 : h₀.get? C = none) (st : GAt w A G g C h₀ rs rs.length s) (hb : BareBut g s.gens)
    (hQ : ∀ h' tk gn, (∀ b o, b ≠ C → s.heap.get? b = some o → h'.get? b = some o) → AllBare gn → Q none { s with heap := h', toks := tk, gens := gn }) :
    wpAny (model PySem.Challenge.rw_af0004_01.row.prog w) A (pyNext (.ref G)) Q E s := by
  obtain ⟨hg, hl1, k0, ⟨oC, hoC⟩, gs, hgs, hgo⟩ := st
  rw [Nat.sub_self] at hgo
  refine wpAny_pyNext_gen (P := fun n s₀ s₁ => n = 0 ∧ GenSince C [] s₀ s₁) hh hl1 hroom hg hgs (hgo (s.setGen g .running) k0 fun _ e => e) (fun v s₁ gs' hv => ?_) (fun s₁ hp h' hk => ?_)
  · obtain ⟨_, _, ⟨h₁, tk₁, rfl, hk₁⟩, hkap⟩ := hv
    exact False.elim (hkap _ (fun b o e => by
      by_cases hbC : b = C
      · subst hbC; rw [hC0] at e; cases e
      · exact hk₁ b o hbC (List.not_mem_nil) (k0 b o e)) fun _ e => e)
  · obtain ⟨_, h₁, tk₁, rfl, hk₁⟩ := hp
    exact hQ h' tk₁ _ (fun b o hb e => hk b o (hk₁ b o hb (List.not_mem_nil) e)) hb.set.done
end
end Mine
end

noncomputable section
namespace Mine

/-- list values that are references to tuples of two ints, told by a ledger -/
inductive RowsIn : List (Addr × Obj) → List Value → List (Int × Int) → Prop
  | nil {tl : List (Addr × Obj)} : RowsIn tl [] []
  | cons {tl : List (Addr × Obj)} {T : Addr} {x y : Int} {t1 t2 : Tok} {vs : List Value} {rs : List (Int × Int)} :
      (T, ({ cls := .type "tuple", data := .seq #[.int x t1, .int y t2] } : Obj)) ∈ tl → RowsIn tl vs rs → RowsIn tl (.ref T :: vs) ((x, y) :: rs)
theorem RowsIn.mono {tl tl' : List (Addr × Obj)} (h : ∀ p ∈ tl, p ∈ tl') : ∀ {vs : List Value} {rs : List (Int × Int)}, RowsIn tl vs rs → RowsIn tl' vs rs
  | _, _, .nil => .nil
  | _, _, .cons hm r => .cons (h _ hm) (RowsIn.mono h r)
theorem RowsIn.snoc {tl : List (Addr × Obj)} {T : Addr} {x y : Int} {t1 t2 : Tok} : ∀ {vs : List Value} {rs : List (Int × Int)}, RowsIn tl vs rs → (T, ({ cls := .type "tuple", data := .seq #[.int x t1, .int y t2] } : Obj)) ∈ tl →
    RowsIn tl (vs ++ [.ref T]) (rs ++ [(x, y)])
  | _, _, .nil, hm => .cons hm .nil
  | _, _, .cons hm' r, hm => .cons hm' (RowsIn.snoc r hm)
theorem RowsIn.length {tl : List (Addr × Obj)} : ∀ {vs : List Value} {rs : List (Int × Int)}, RowsIn tl vs rs → vs.length = rs.length
  | _, _, .nil => rfl
  | _, _, .cons _ r => by simp [RowsIn.length r]

/-- the promise of a generator just made, for every caller -/
def Fresh (w : World) (G : Addr) (g : Nat) (C : Addr) (h₀ : Heap) (rs : List (Int × Int)) (s : Shared) : Prop :=
  (∀ A' : Around, A'.handled = none → A'.depth + 100 < recursionLimit → A'.units + 600 < cLine → GAt w A' G g C h₀ rs 0 s) ∧ AllBare s.gens ∧ h₀.NoLimit ∧ h₀.get? C = none ∧ h₀.get? G = none ∧ G ≠ C

/-- what a drain hands on: a list, its rows, all in a ledger over the creation heap -/
def Drained (Q : Value → Shared → Prop) (s : Shared) (h₀ : Heap) (rs : List (Int × Int)) : Prop :=
  ∀ D vs n h' tk gn tl, Kp h₀ h' → h'.get? D = some (listOf (List.toArray vs) n) → h₀.get? D = none → RowsIn tl vs rs → (∀ p ∈ tl, h'.get? p.1 = some p.2 ∧ h₀.get? p.1 = none) → AllBare gn →
    Q (.ref D) { s with heap := h', toks := tk, gens := gn }

section
variable {w : World} {A : Around} {E : Value → Shared → Prop} {s : Shared} {env : Env}

theorem gen_block {elt iter : Expr} {x : Str} {px pos : Pos} {scope : Scope} {s₁ : Shared} {G g C : Addr} {h₀ : Heap} {rs : List (Int × Int)} {RR : Value → Env → Result → Shared → Prop} (f : Int × Int → Int × Int)
    (hh : A.handled = none) (hr : A.depth + 100 < recursionLimit) (hu : A.units + 600 < cLine)
    (hcell : ∀ y ∈ scope.names, y.2 ≠ .cell) (hkind : scope.kind = .function) (hx : scope.names.lookup x = some .local)
    (helt : ∀ (L : Addr) (s' : Shared) (m' : Str → Option Value) T a b (Q' : Value → Shared → Prop) (E' : Value → Shared → Prop), s'.heap.Ns L m' → m' x = some (.ref T) → PairAt s'.heap T a b →
      (∀ T' h' tk, Kp s'.heap h' → PairAt h' T' (f (a, b)).1 (f (a, b)).2 → (T' = T ∨ s'.heap.get? T' = none) → Q' (.ref T') { s' with heap := h', toks := tk }) →
      wpAny (model PySem.Challenge.rw_af0004_01.row.prog w) A (eval elt (compEnv scope L env)) Q' E' s')
    (hfr : Fresh w G g C h₀ rs s₁) (hlen : rs.length ≤ 100)
    (hRR : ∀ L m' D vs n h tk gn tl, (∀ b o, h₀.get? b = some o → b < D) → h.Ns L m' → h₀.get? L = none → D ≠ L → Kp h₀ h → h.get? D = some (listOf (List.toArray vs) n) → h₀.get? D = none → RowsIn tl vs (rs.map f) →
      (∀ p ∈ tl, h.get? p.1 = some p.2 ∧ h₀.get? p.1 = none ∧ p.1 ≠ L) → AllBare gn → RR (.ref D) (compEnv scope L env) (.ok .next) { s₁ with heap := h, toks := tk, gens := gn }) :
    wpAny (model PySem.Challenge.rw_af0004_01.row.prog w) A (pyIter (.ref G)) (fun it s₂ => wpAny (model PySem.Challenge.rw_af0004_01.row.prog w) A (newList []) (fun acc s₃ =>
      wpAny (model PySem.Challenge.rw_af0004_01.row.prog w) A (newFunctionEnv scope env.globals [] [] env.qual none .none (some env)) (fun cenv s₄ =>
        codeAny (model PySem.Challenge.rw_af0004_01.row.prog w) A (.compStart (.ListComp elt [⟨.Name x px, iter, [], 0⟩] scope pos) 0 it acc { cenv with scope := scope }) (RR acc { cenv with scope := scope }) s₄) E s₃) E s₂) E s₁ := by
  obtain ⟨hga, hbare, hl0, hC0, hG0, hGC⟩ := hfr
  have hg0 := hga A hh hr hu
  refine wpAny_pyIter_gen hg0.1 (wpAny_newObj_type (hd := by size_fits) (wpAny_newFunctionEnv hcell (by intro y hy; simp at hy) (fun h₁ hns₁ hsb₁ => ?_) hkind))
  dsimp only at hns₁ hsb₁ ⊢
  generalize hH2 : s₁.heap.push { cls := .type "list", dict := none, data := .seq ([] : List Value).toArray } = H2 at hns₁ hsb₁ ⊢
  have hC : H2.objs.size = s₁.heap.objs.size + 1 := by rw [← hH2, Heap.size_push]
  have hDC : s₁.heap.objs.size ≠ H2.objs.size := by rw [hC]; exact Nat.ne_of_lt (Nat.lt_succ_self _)
  have below : ∀ b, b < s₁.heap.objs.size → b ≠ H2.objs.size ∧ b ≠ s₁.heap.objs.size := fun b hb =>
    ⟨by rw [hC]; exact Nat.ne_of_lt (Nat.lt_succ_of_lt hb), Nat.ne_of_lt hb⟩
  have old : ∀ b o, s₁.heap.get? b = some o → h₁.get? b = some o := fun b o e =>
    hsb₁.extBut b o (below b (Heap.lt_size e)).1 (Heap.get?_push_of_some _ (hH2 ▸ Heap.get?_push_of_some _ e))
  have hacc : ∃ n, h₁.get? s₁.heap.objs.size = some (listOf #[] n) := ⟨_, hsb₁.extBut _ _ hDC (Heap.get?_push_of_some _ (hH2 ▸ Heap.get?_push_size _ rfl))⟩
  have hlo0 : ∀ b o, h₀.get? b = some o → h₁.get? b = some o := fun b o e => old b o (hg0.2.2.1 b o e)
  obtain ⟨oC, hoC⟩ := hg0.2.2.2.1
  obtain ⟨oG, _, _, hoG, _⟩ := hg0.1
  have hCl := below C (Heap.lt_size hoC)
  have hGl := below G (Heap.lt_size hoG)
  have hDn : h₀.get? s₁.heap.objs.size = none := by
    cases q : h₀.get? s₁.heap.objs.size with
    | none => rfl
    | some o => exact absurd (Heap.lt_size (hg0.2.2.1 _ _ q)) (Nat.lt_irrefl _)
  have hLn : h₀.get? H2.objs.size = none := by
    cases q : h₀.get? H2.objs.size with
    | none => rfl
    | some o => have := Heap.lt_size (hg0.2.2.1 _ _ q); rw [hC] at this; exact absurd this (Nat.not_lt.mpr (Nat.le_succ _))
  have hltD : ∀ b o, h₀.get? b = some o → b < s₁.heap.objs.size := fun b o e => Heap.lt_size (hg0.2.2.1 b o e)
  generalize hDD : s₁.heap.objs.size = D at *
  generalize hLL : H2.objs.size = L at *
  have frame0 : GAt w A G g C h₀ rs 0 { s₁ with heap := h₁, toks := s₁.toks + ([] : List (Str × Value)).length } := hg0.frame hl0 hlo0 (fun o e => old _ o e) (fun o e => old _ o e)
  have loop : ∀ s₂ : Shared, s₂ = { s₁ with heap := h₁, toks := s₁.toks + ([] : List (Str × Value)).length } →
      codeAny (model PySem.Challenge.rw_af0004_01.row.prog w) A (.compLoop (.ListComp elt [⟨.Name x px, iter, [], 0⟩] scope pos) 0 (.ref G) (.ref D) (compEnv scope L env))
        (RR (.ref D) (compEnv scope L env)) s₂ := by
    rintro s₂ rfl
    refine codeAny_compLoop_list (fun k s' => ∃ j vs n m' h tk gn tl, s' = { s₁ with heap := h, toks := tk, gens := gn } ∧ GAt w A G g C h₀ rs j s' ∧ BareBut g gn ∧ Kp h₀ h ∧ h.get? D = some (listOf (List.toArray vs) n) ∧ h.Ns L m' ∧
      RowsIn tl vs ((rs.take j).map f) ∧ (∀ p ∈ tl, h.get? p.1 = some p.2 ∧ h₀.get? p.1 = none ∧ p.1 ≠ D ∧ p.1 ≠ L ∧ p.1 ≠ C) ∧ j ≤ rs.length ∧ k = rs.length + 1 - j) ?_ (rs.length + 1)
      (let ⟨n, hn⟩ := hacc; ⟨0, [], n, _, h₁, _, s₁.gens, [], rfl, frame0, .of_all hbare, hlo0, hn, hns₁, .nil, (fun _ hp => nomatch hp), Nat.zero_le _, rfl⟩)
    rintro k s' ⟨j, vs, n, m', H, tk, gn, tl, rfl, hga', hb', hk', hD', hn', hrows, htl, hj, rfl⟩
    by_cases hlt : j < rs.length
    · refine gat_item hh (by omega) hl0 hC0 hGC hlt hga' hb' fun T a b h2 tk2 gn2 hi hT hTn hTC hk2 hb2 hga2 => ?_
      have hTD : T ≠ D := fun e => by rw [e] at hTn; rw [show H.get? D = none from hTn] at hD'; cases hD'
      have hTL : T ≠ L := fun e => by
        obtain ⟨oL, _, _, hoL, _⟩ := hn'
        rw [e] at hTn; rw [show H.get? L = none from hTn] at hoL; cases hoL
      have hk02 : Kp h₀ h2 := hga2.2.2.1
      refine wpAny_assign_Name (wpAny_storeName_local (env := compEnv scope L env) hx (hn'.at' fun o e => hk2 _ o (Ne.symm hCl.1) e) (fun h3 hn3 hs3 => ?_) (by show (scope.kind == .class || (scope.kind == .module && L != _)) = false; rw [hkind]; rfl))
      replace hs3 : Heap.SameBut L h2 h3 := hs3
      have hT3 : PairAt h3 T a b := let ⟨u1, u2, e⟩ := hT; ⟨u1, u2, hs3.extBut _ _ hTL e⟩
      refine helt L _ _ T a b _ _ hn3 (if_pos rfl) hT3 fun T' h4 tk4 hk4 hT4 hT4n => ?_
      have hT4' : T' ≠ D ∧ T' ≠ L ∧ T' ≠ C ∧ h₀.get? T' = none := by
        rcases hT4n with rfl | hq
        · refine ⟨hTD, hTL, hTC, ?_⟩
          cases q : h₀.get? T' with
          | none => rfl
          | some o => have e1 := hk' _ _ q; rw [show H.get? T' = none from hTn] at e1; cases e1
        · have q3 : h3.get? T' = none := hq
          have k23 : ∀ b o, b ≠ L → h2.get? b = some o → h3.get? b = some o := fun b o hb e => hs3.extBut b o hb e
          refine ⟨fun e => ?_, fun e => ?_, fun e => ?_, ?_⟩
          · subst e
            rw [k23 _ _ hDC (hk2 _ _ (Ne.symm hCl.2) hD')] at q3; cases q3
          · subst e
            obtain ⟨oL, _, _, hoL, _⟩ := hn3
            have hoL' : h3.get? T' = some oL := hoL
            rw [q3] at hoL'; cases hoL'
          · subst e
            obtain ⟨oC1, hoC1⟩ := hga2.2.2.2.1
            rw [k23 _ _ hCl.1 hoC1] at q3; cases q3
          · cases q : h₀.get? T' with
            | none => rfl
            | some o =>
              have e1 := hk02 _ _ q
              by_cases e2 : T' = L
              · subst e2; rw [hLn] at q; cases q
              · rw [k23 _ _ e2 e1] at q3; cases q3
      have hup : ∀ b o, b ≠ C → b ≠ L → H.get? b = some o → h4.get? b = some o := fun b o h1 h2' e => hk4 b o (hs3.extBut b o h2' (hk2 b o h1 e))
      have hD4 : h4.get? D = some (listOf (List.toArray vs) n) := hup _ _ (Ne.symm hCl.2) hDC hD'
      have hvl : vs.length ≤ 100 := by rw [hrows.length, List.length_map, List.length_take]; omega
      refine append_at (hsz := by rw [List.size_toArray, sizeLine_eq]; omega) hD4 fun h5 hs5 hD5 => ?_
      obtain ⟨u1, u2, hT4e⟩ := hT4
      have hga3 : GAt w A G g C h₀ rs (j + 1) { s₁ with heap := h5, toks := tk4, gens := gn2 } :=
        hga2.frame hl0 (fun b o e => hs5.extBut b o (fun q => by rw [q, hDn] at e; cases e) (hk4 b o (hs3.extBut b o (fun q => by rw [q, hLn] at e; cases e) (hk02 b o e))))
          (fun o e => hs5.extBut _ _ hCl.2 (hk4 _ o (hs3.extBut _ _ hCl.1 e))) (fun o e => hs5.extBut _ _ hGl.2 (hk4 _ o (hs3.extBut _ _ hGl.1 e)))
      refine ⟨rs.length + 1 - (j + 1), by omega, j + 1, vs ++ [.ref T'], _, _, h5, tk4, gn2, (T', ({ cls := .type "tuple", data := .seq #[.int (f (a, b)).1 u1, .int (f (a, b)).2 u2] } : Obj)) :: tl, rfl, hga3, hb2, hga3.2.2.1, by simpa using hD5, (hn3.keeps hk4).sameBut hs5 (Ne.symm hDC), ?_, ?_, hlt, rfl⟩
      · rw [List.take_add_one, hi, Option.toList_some, List.map_append, List.map_cons, List.map_nil]
        exact (RowsIn.mono (fun p hp => .tail _ hp) hrows).snoc (.head _)
      · intro p hp
        rcases List.mem_cons.mp hp with rfl | hp
        · exact ⟨hs5.extBut _ _ hT4'.1 hT4e, hT4'.2.2.2, hT4'.1, hT4'.2.1, hT4'.2.2.1⟩
        · obtain ⟨q1, q2, q3, q4, q5⟩ := htl p hp
          exact ⟨hs5.extBut _ _ q3 (hup _ _ q5 q4 q1), q2, q3, q4, q5⟩
    · have hjj : j = rs.length := by omega
      subst hjj
      refine gat_done hh (by omega) hC0 hga' hb' fun h2 tk2 gn2 hk2 hb2 => ?_
      rw [List.take_length] at hrows
      exact hRR L _ D vs n h2 tk2 gn2 tl hltD (hn'.at' fun o e => hk2 _ o (Ne.symm hCl.1) e) hLn hDC (fun b o e => hk2 _ _ (fun q => by rw [q, hC0] at e; cases e) (hk' b o e)) (hk2 _ _ (Ne.symm hCl.2) hD') hDn hrows
        (fun p hp => let ⟨q1, q2, q3, q4, q5⟩ := htl p hp; ⟨hk2 _ _ q5 q1, q2, q4⟩) hb2
  exact codeAny_compStart_list (loop _ rfl) (wpAny_pyIter_gen frame0.1 (loop _ rfl))

theorem comp_gen {elt iter : Expr} {x : Str} {px pos : Pos} {scope : Scope} {Q : Value → Shared → Prop} (f : Int × Int → Int × Int)
    (hh : A.handled = none) (hr : A.depth + 100 < recursionLimit) (hu : A.units + 600 < cLine)
    (hfree : ∀ y ∈ scope.names, y.2 ≠ .free) (hcell : ∀ y ∈ scope.names, y.2 ≠ .cell) (hkind : scope.kind = .function)
    (hnames : ∀ y ∈ scope.names, y.2 = .local → scope.names.lookup y.1 = some .local) (hx : scope.names.lookup x = some .local)
    (helt : ∀ (L : Addr) (s' : Shared) (m' : Str → Option Value) T a b (Q' : Value → Shared → Prop) (E' : Value → Shared → Prop), s'.heap.Ns L m' → m' x = some (.ref T) → PairAt s'.heap T a b →
      (∀ T' h' tk, Kp s'.heap h' → PairAt h' T' (f (a, b)).1 (f (a, b)).2 → (T' = T ∨ s'.heap.get? T' = none) → Q' (.ref T') { s' with heap := h', toks := tk }) →
      wpAny (model PySem.Challenge.rw_af0004_01.row.prog w) A (eval elt (compEnv scope L env)) Q' E' s')
    (h : wpAny (model PySem.Challenge.rw_af0004_01.row.prog w) A (eval iter env) (fun v s₁ => ∃ G g C h₀ rs, v = .ref G ∧ Fresh w G g C h₀ rs s₁ ∧ rs.length ≤ 100 ∧ Drained Q s₁ h₀ (rs.map f)) E s)
    (hs : ∀ x, foldedSetIterable iter env x = pure x := by intro _; rfl) :
    wpAny (model PySem.Challenge.rw_af0004_01.row.prog w) A (eval (.ListComp elt [⟨.Name x px, iter, [], 0⟩] scope pos) env) Q E s := by
  refine wpAny_ListComp hfree hkind hnames (wpAny_mono h (fun xv s₁ h₁ => ?_) fun _ _ e => e) hs
  obtain ⟨G, g, C, h₀, rs, rfl, hfr, hlen, hQ⟩ := h₁
  refine gen_block (RR := fun acc cenv r s' => ∃ m, s'.heap.Ns cenv.locals m ∧ ∀ h', Heap.SameBut cenv.locals s'.heap h' →
      match r with | .ok _ => Q acc { s' with heap := h' } | .error x => wpAny (model PySem.Challenge.rw_af0004_01.row.prog w) A (passOn "comprehension.variables-let-go" x cenv) Q E { s' with heap := h' })
    f hh hr hu hcell hkind hx helt hfr hlen fun L m' D vs n h' tk gn tl hltD hn hL hDL hk hD hD0 hrows htl hb => ?_
  refine ⟨m', hn, fun h2 hs0 => have hs' : Heap.SameBut L h' h2 := hs0; hQ D vs n h2 tk gn tl (fun b o e => hs'.extBut _ _ (fun q => by rw [q, hL] at e; cases e) (hk b o e)) (hs'.extBut _ _ hDL hD) hD0 hrows (fun p hp => let ⟨q1, q2, q3⟩ := htl p hp; ⟨hs'.extBut _ _ q3 q1, q2⟩) hb⟩

/-- the same list taken by a name of the function -/
theorem assign_comp_gen {elt iter : Expr} {x y : Str} {px py pos spos : Pos} {scope : Scope} {Q : Flow → Shared → Prop} (f : Int × Int → Int × Int)
    (hsw : swapsWith (.ListComp elt [⟨.Name x px, iter, [], 0⟩] scope pos) (some (.Name y py)) spos.line env = pure true)
    (hh : A.handled = none) (hr : A.depth + 100 < recursionLimit) (hu : A.units + 600 < cLine)
    (hfree : ∀ y ∈ scope.names, y.2 ≠ .free) (hcell : ∀ y ∈ scope.names, y.2 ≠ .cell) (hkind : scope.kind = .function)
    (hnames : ∀ y ∈ scope.names, y.2 = .local → scope.names.lookup y.1 = some .local) (hx : scope.names.lookup x = some .local)
    (hy : env.kindOf y = some .local) (hp : (env.scope.kind == .class || (env.scope.kind == .module && env.locals != env.globals)) = false)
    (helt : ∀ (L : Addr) (s' : Shared) (m' : Str → Option Value) T a b (Q' : Value → Shared → Prop) (E' : Value → Shared → Prop), s'.heap.Ns L m' → m' x = some (.ref T) → PairAt s'.heap T a b →
      (∀ T' h' tk, Kp s'.heap h' → PairAt h' T' (f (a, b)).1 (f (a, b)).2 → (T' = T ∨ s'.heap.get? T' = none) → Q' (.ref T') { s' with heap := h', toks := tk }) →
      wpAny (model PySem.Challenge.rw_af0004_01.row.prog w) A (eval elt (compEnv scope L env)) Q' E' s')
    (h : wpAny (model PySem.Challenge.rw_af0004_01.row.prog w) A (eval iter env) (fun v s₁ => ∃ G g C h₀ rs m, v = .ref G ∧ Fresh w G g C h₀ rs s₁ ∧ rs.length ≤ 100 ∧ h₀.Ns env.locals m ∧
      ∀ D vs n h' tk gn tl, (∀ b o, h₀.get? b = some o → b < D) → (∀ b o, b ≠ env.locals → h₀.get? b = some o → h'.get? b = some o) → h'.Ns env.locals (fun z => if z = y then some (.ref D) else m z) → h'.get? D = some (listOf (List.toArray vs) n) → h₀.get? D = none →
        RowsIn tl vs (rs.map f) → (∀ p ∈ tl, h'.get? p.1 = some p.2 ∧ h₀.get? p.1 = none) → AllBare gn → Q .next { s₁ with heap := h', toks := tk, gens := gn }) E s)
    (hs : ∀ x, foldedSetIterable iter env x = pure x := by intro _; rfl) :
    wpAny (model PySem.Challenge.rw_af0004_01.row.prog w) A (exec (.Assign [.Name y py] (.ListComp elt [⟨.Name x px, iter, [], 0⟩] scope pos) spos) env) Q E s := by
  rw [exec_Assign_Name_used _ _ _ _ hsw]
  refine wpAny_bind (wpAny_standAt (wpAny_bind ?_))
  show wpAny _ A (do let _ ← comprehension (.ListComp elt [⟨.Name x px, iter, [], 0⟩] scope pos) scope env _ (newList []) false (eval iter env) (some (assign (.Name y py) env))) _ _ s
  refine wpAny_bind (wpAny_mono (wpAny_comprehension_use (Q := fun _ s' => Q .next s') rfl hs hfree hkind hnames (wpAny_mono h (fun xv s₁ h₁ => ?_) fun _ _ e => e))
    (fun _ s' hq => wpAny_pure (wpAny_pure hq)) fun _ _ e => e)
  obtain ⟨G, g, C, h₀, rs, m, rfl, hfr, hlen, hn0, hQ⟩ := h₁
  refine gen_block (RR := fun acc cenv r s' => match r with
      | .ok _ => wpAny (model PySem.Challenge.rw_af0004_01.row.prog w) A (assign (.Name y py) env acc) (fun _ s'' => ∃ m, s''.heap.Ns cenv.locals m ∧ ∀ h', Heap.SameBut cenv.locals s''.heap h' → Q .next { s'' with heap := h' }) E s'
      | .error x => ∃ m, s'.heap.Ns cenv.locals m ∧ ∀ h', Heap.SameBut cenv.locals s'.heap h' → wpAny (model PySem.Challenge.rw_af0004_01.row.prog w) A (passOn "comprehension.variables-let-go" x cenv) (fun _ s' => Q .next s') E { s' with heap := h' })
    f hh hr hu hcell hkind hx helt hfr hlen fun L m' D vs n h' tk gn tl hltD hn hL hDL hk hD hD0 hrows htl hb => ?_
  have hLC : env.locals ≠ L := by rintro rfl; obtain ⟨o, _, _, ho, _⟩ := hn0; rw [hL] at ho; cases ho
  have hLD : env.locals ≠ D := by rintro rfl; obtain ⟨o, _, _, ho, _⟩ := hn0; rw [hD0] at ho; cases ho
  refine wpAny_assign_Name (wpAny_storeName_local hy (hn0.keeps hk) (fun h₂ hn₂ hs₂ => ?_) hp)
  refine ⟨m', hn.sameBut hs₂ (Ne.symm hLC), fun h₃ hs₃ => ?_⟩
  replace hs₃ : Heap.SameBut L h₂ h₃ := hs₃
  refine hQ D vs n h₃ _ gn tl hltD (fun b o hbL e => hs₃.extBut b o (by rintro rfl; rw [hL] at e; cases e) (hs₂.extBut b o hbL (hk b o e))) (hn₂.sameBut hs₃ hLC) (hs₃.extBut _ _ hDL (hs₂.extBut _ _ (Ne.symm hLD) hD)) hD0 hrows
    (fun p hp => let ⟨q1, q2, q3⟩ := htl p hp; ⟨hs₃.extBut _ _ q3 (hs₂.extBut _ _ (fun q => by obtain ⟨o, _, _, ho, _⟩ := hn0; rw [q, ho] at q2; cases q2) q1), q2⟩) hb
end
end Mine
end

noncomputable section
namespace Mine
section
variable {cmp : Nat → Nat → (Bool → Shared → Prop) → Shared → Prop} {s : Shared} {n : Nat}

theorem rg_getD {n m : Nat} (h : m < n) : (List.toArray (List.range n)).getD m 0 = m := by
  simp [Array.getD, h]

theorem asc_up (hc : ∀ i j (C : Bool → Shared → Prop), i < n → j < n → i ≠ j → C (decide (i < j)) s → cmp i j C s) {G : Nat → Shared → Prop} (hG : G n s) :
    ∀ f m, 1 ≤ m → m + f = n → (kas_asc (List.toArray (List.range n)) f m).kasWp cmp G s
  | 0, m, _, h => by
    have : m = n := by omega
    subst this; exact hG
  | f + 1, m, h1, h => by
    show cmp _ _ (fun b s' => (if b = true then KasT.ret m else kas_asc _ f (m + 1)).kasWp cmp G s') s
    rw [rg_getD (by omega), rg_getD (by omega)]
    refine hc _ _ _ (by omega) (by omega) (by omega) ?_
    rw [show decide (m < m - 1) = false from decide_eq_false (by omega)]
    exact asc_up hc hG f (m + 1) (by omega) (by omega)

theorem sort_up (hn : 1 ≤ n) (hc : ∀ i j (C : Bool → Shared → Prop), i < n → j < n → i ≠ j → C (decide (i < j)) s → cmp i j C s) {Q : Array Nat → Shared → Prop} (hQ : Q (List.toArray (List.range n)) s) :
    (kas_sort n).kasWp cmp Q s := by
  unfold kas_sort
  rw [KasT.kasWp_bind]
  unfold kas_count
  rw [KasT.kasWp_bind]
  refine asc_up hc ?_ (n - 1) 1 (Nat.le_refl _) (by omega)
  rw [if_pos (by simp)]
  show KasT.kasWp cmp (if n < n then _ else _) _ _
  rw [if_neg (by omega)]
  exact hQ

theorem desc_down (hc : ∀ i j (C : Bool → Shared → Prop), i < n → j < n → i ≠ j → C (decide (j < i)) s → cmp i j C s) {G : Array Nat × Nat × Nat → Shared → Prop} (hG : G (List.toArray (List.range n), n, 0) s) :
    ∀ f m, 1 ≤ m → m + f = n → (kas_desc f (List.toArray (List.range n)) m 0).kasWp cmp G s
  | 0, m, _, h => by
    have : m = n := by omega
    subst this; exact hG
  | f + 1, m, h1, h => by
    unfold kas_desc
    show cmp _ _ _ s
    rw [rg_getD (by omega), rg_getD (by omega)]
    refine hc _ _ _ (by omega) (by omega) (by omega) ?_
    rw [show decide (m - 1 < m) = true from decide_eq_true (by omega)]
    show KasT.kasWp cmp (if true = true then (if 0 > 0 then _ else _) else _) G s
    rw [if_pos rfl, if_neg (by omega)]
    exact desc_down hc hG f (m + 1) (by omega) (by omega)

theorem rev_all : kas_rev (List.toArray (List.range n)) 0 n = List.toArray (List.range n).reverse := by
  unfold kas_rev
  apply Array.ext_getElem?
  intro k
  rw [getElem?_mirror_all (by simp)]
  by_cases h : k < n
  · rw [if_pos ⟨Nat.zero_le _, h⟩]
    simp only [List.getElem?_toArray]
    rw [List.getElem?_reverse (by simpa using h), List.length_range]
    congr 1
    omega
  · rw [if_neg (by omega)]
    simp only [List.getElem?_toArray]
    rw [List.getElem?_eq_none (by simp; omega), List.getElem?_eq_none (by simp; omega)]

theorem sort_down (hn : 2 ≤ n) (hc : ∀ i j (C : Bool → Shared → Prop), i < n → j < n → i ≠ j → C (decide (j < i)) s → cmp i j C s) {Q : Array Nat → Shared → Prop} (hQ : Q (List.toArray (List.range n).reverse) s) :
    (kas_sort n).kasWp cmp Q s := by
  unfold kas_sort
  rw [KasT.kasWp_bind]
  unfold kas_count
  rw [KasT.kasWp_bind]
  obtain ⟨f, hf⟩ : ∃ f, n - 1 = f + 1 := ⟨n - 2, by omega⟩
  rw [hf]
  show cmp _ _ _ s
  rw [rg_getD (by omega), rg_getD (by omega)]
  refine hc _ _ _ (by omega) (by omega) (by omega) ?_
  rw [show decide (1 - 1 < 1) = true from rfl]
  show KasT.kasWp cmp (if true = true then KasT.ret 1 else _) _ s
  rw [if_pos rfl]
  show KasT.kasWp cmp (if (1 == n) = true then _ else if 1 > 1 then _ else _) _ s
  rw [if_neg (by simp; omega), if_neg (by omega)]
  unfold kas_descPart
  rw [KasT.kasWp_bind]
  refine desc_down hc ?_ (n - (1 + 1)) (1 + 1) (by omega) (by omega)
  show KasT.kasWp cmp (if 0 > 0 then _ else _) _ s
  rw [if_neg (by omega)]
  unfold kas_tail3
  rw [KasT.kasWp_bind, Nat.sub_self]
  show KasT.kasWp cmp (if n < n then _ else _) _ _
  rw [if_neg (by omega), rev_all]
  exact hQ
end
end Mine
end

noncomputable section
namespace Mine

abbrev pairObj (x y : Int) (t1 t2 : Tok) : Obj := { cls := .type "tuple", data := .seq #[.int x t1, .int y t2] }

theorem RowsIn.get {tl : List (Addr × Obj)} : ∀ {vs : List Value} {rs : List (Int × Int)} (i : Nat), RowsIn tl vs rs → i < rs.length →
    ∃ T t1 t2, vs.getD i Value.none = .ref T ∧ (T, pairObj (rs.getD i (0, 0)).1 (rs.getD i (0, 0)).2 t1 t2) ∈ tl
  | _, _, 0, .cons (T := T) (t1 := t1) (t2 := t2) hm _, _ => ⟨T, t1, t2, rfl, hm⟩
  | _, _, i + 1, .cons _ r, h => RowsIn.get i r (by simpa using h)
  | _, _, i, .nil, h => absurd h (Nat.not_lt_zero _)

section
variable {w : World} {A : Around} {E : Value → Shared → Prop} {s : Shared} {tl : List (Addr × Obj)} {vs : List Value} {rs : List (Int × Int)}

theorem ask_rows (hr : RowsIn tl vs rs) (hh : ∀ p ∈ tl, s.heap.get? p.1 = some p.2) {i j : Nat} (hi : i < rs.length) (hj : j < rs.length) (hne : (rs.getD i (0, 0)).1 ≠ (rs.getD j (0, 0)).1)
    {C : Bool → Shared → Prop} (hC : C (decide ((rs.getD i (0, 0)).1 < (rs.getD j (0, 0)).1)) s) : kas_ask PySem.Challenge.rw_af0004_01.row.prog w A (tuples' true) vs i j C s := by
  obtain ⟨T1, t1, t2, e1, m1⟩ := hr.get i hi
  obtain ⟨T2, t3, t4, e2, m2⟩ := hr.get j hj
  unfold kas_ask
  rw [e1, e2]
  refine kat_lt (hh _ m1) rfl (hh _ m2) rfl ?_
  refine kat_cons (wpAny_eqBool_int ?_)
  have e : ((rs.getD i (0, 0)).1 == (rs.getD j (0, 0)).1) = false := beq_eq_false_iff_ne.mpr hne
  rw [e]
  exact kat_no (oneLt_int hC)

theorem kind_rows (hr : RowsIn tl vs rs) (hh : ∀ p ∈ tl, s.heap.get? p.1 = some p.2) (h0 : 0 < rs.length) {Q : SortKind → Shared → Prop} (hQ : Q (tuples' true) s) :
    wpAny (model PySem.Challenge.rw_af0004_01.row.prog w) A (keyKind' vs.toArray) Q E s := by
  have key : ∀ {vs : List Value} {rs : List (Int × Int)}, RowsIn tl vs rs → ∃ fs, KatTups s.heap vs fs ∧ fs.length = rs.length ∧ ∀ v ∈ fs, ∃ x t, v = Value.int x t := by
    intro vs rs h
    induction h with
    | nil => exact ⟨[], .nil, rfl, fun _ h => nomatch h⟩
    | @cons T x y t1 t2 vs rs hm r ih =>
      obtain ⟨fs, h1, h2, h3⟩ := ih
      refine ⟨.int x t1 :: fs, KatTups.cons (hh _ hm) rfl rfl rfl h1, by simp [h2], fun v hv => ?_⟩
      rcases List.mem_cons.mp hv with rfl | hv
      · exact ⟨_, _, rfl⟩
      · exact h3 v hv
  obtain ⟨fs, h1, h2, h3⟩ := key hr
  refine kat_kind (T := .type "int") h1 (by omega) (fun v hv => ?_) rfl hQ
  obtain ⟨x, t, rfl⟩ := h3 v hv
  exact Looks.of_pure rfl
end
end Mine
end

noncomputable section
namespace Mine
def Mono (rs out : List (Int × Int)) : Prop := (rs.Pairwise (fun p q => p.1 < q.1) ∧ out = rs) ∨ (rs.Pairwise (fun p q => q.1 < p.1) ∧ out = rs.reverse)

theorem RowsIn.rev {tl : List (Addr × Obj)} : ∀ {vs : List Value} {rs : List (Int × Int)}, RowsIn tl vs rs → RowsIn tl vs.reverse rs.reverse
  | _, _, .nil => .nil
  | _, _, .cons hm r => by
    rw [List.reverse_cons, List.reverse_cons]
    exact (RowsIn.rev r).snoc hm
theorem range_getD (vs : List Value) : (List.range vs.length).map (fun i => vs.getD i Value.none) = vs := by
  apply List.ext_getElem?
  intro k
  rw [List.getElem?_map]
  by_cases h : k < vs.length
  · rw [List.getElem?_range h]; simp [h]
  · rw [List.getElem?_eq_none (by simpa using h), List.getElem?_eq_none (by omega)]; rfl

theorem mono_lt {rs : List (Int × Int)} {R : Int → Int → Prop} (h : rs.Pairwise (fun p q => R p.1 q.1)) {i j : Nat} (hij : i < j) (hj : j < rs.length) : R (rs.getD i (0, 0)).1 (rs.getD j (0, 0)).1 := by
  have hi : i < rs.length := by omega
  have := List.pairwise_iff_getElem.mp h i j hi hj hij
  simpa [hi, hj] using this

section
variable {w : World} {A : Around} {E : Value → Shared → Prop} {s : Shared} {h₀ : Heap} {L a : Addr} {m : Str → Option Value} {news : List (Addr × Obj)} {vs : List Value} {rs out : List (Int × Int)} {n : Nat}

theorem sort_rows {P : PySem.Fin → Shared → Prop} (F : Fr h₀ L s.heap m) (N : News h₀ L s.heap news) (ho : s.heap.get? a = some (seqObj "list" vs.toArray n)) (haL : a ≠ L) (ha0 : h₀.get? a = none) (hna : ∀ p ∈ news, p.1 ≠ a)
    (hr : RowsIn news vs rs) (h64 : vs.length < 64) (hm : Mono rs out)
    (h : ∀ h' c vs', Fr h₀ L h' m → News h₀ L h' ((a, listOf (List.toArray vs') c) :: news) → RowsIn news vs' out → P (.done (.ret .none)) { s with heap := h' }) :
    wpAny (model PySem.Challenge.rw_af0004_01.row.prog w) A (Builtin.«list.sort» ⟨[.ref a], []⟩) P E s := by
  have hlen := hr.length
  by_cases h2 : 2 ≤ vs.length
  · refine kat_list_sort F N ho haL ha0 hna h2 h64 fun e1 h' F' N' => ?_
    have hh : ∀ p ∈ news, h'.get? p.1 = some p.2 := fun p hp => (N' p (.tail _ hp)).1
    refine kind_rows hr hh (by omega) ?_
    have fin : ∀ (p : Array Nat) vs', (p.toList.map fun i => vs.getD i Value.none) = vs' → RowsIn news vs' out →
        KasFin h₀ L m a e1 (p.toList.map fun i => vs.getD i Value.none) (fun s3 => P (.done (.ret .none)) s3) { s with heap := h' } := fun p vs' e hv =>
      KasFin.intro (s := { s with heap := h' }) F' N' (.head hna) fun h'' c F'' N'' => h h'' c vs' F'' (by rw [← e]; exact N'') hv
    rcases hm with ⟨hp, hout⟩ | ⟨hp, hout⟩
    · refine sort_up (by omega) (fun i j C hi hj hij hC => ?_) (fin _ vs ?_ (by rw [hout]; exact hr))
      · have hne : (rs.getD i (0, 0)).1 ≠ (rs.getD j (0, 0)).1 ∧ decide ((rs.getD i (0, 0)).1 < (rs.getD j (0, 0)).1) = decide (i < j) := by
          rcases Nat.lt_or_gt_of_ne hij with h1 | h1
          · have := mono_lt (R := fun a b => a < b) hp h1 (by omega)
            exact ⟨by omega, by rw [decide_eq_true this, decide_eq_true h1]⟩
          · have := mono_lt (R := fun a b => a < b) hp h1 (by omega)
            exact ⟨by omega, by rw [decide_eq_false (by omega), decide_eq_false (by omega)]⟩
        exact ask_rows hr hh (by omega) (by omega) hne.1 (by rw [hne.2]; exact hC)
      · exact range_getD vs
    · refine sort_down h2 (fun i j C hi hj hij hC => ?_) (fin _ vs.reverse ?_ (by rw [hout]; exact hr.rev))
      · have hne : (rs.getD i (0, 0)).1 ≠ (rs.getD j (0, 0)).1 ∧ decide ((rs.getD i (0, 0)).1 < (rs.getD j (0, 0)).1) = decide (j < i) := by
          rcases Nat.lt_or_gt_of_ne hij with h1 | h1
          · have := mono_lt (R := fun a b => b < a) hp h1 (by omega)
            exact ⟨by omega, by rw [decide_eq_false (by omega), decide_eq_false (by omega)]⟩
          · have := mono_lt (R := fun a b => b < a) hp h1 (by omega)
            exact ⟨by omega, by rw [decide_eq_true this, decide_eq_true h1]⟩
        exact ask_rows hr hh (by omega) (by omega) hne.1 (by rw [hne.2]; exact hC)
      · show List.map _ (List.range vs.length).reverse = _
        rw [List.map_reverse, range_getD]
  · have hout : out = rs := by
      rcases hm with ⟨_, rfl⟩ | ⟨_, rfl⟩
      · rfl
      · match rs, hlen with
        | [], _ => rfl
        | [_], _ => rfl
        | _ :: _ :: _, hl => simp at hl; omega
    subst hout
    have ha : a < s.heap.objs.size := Heap.lt_size ho
    have s1 := Heap.SameBut.update s.heap a (Obj.mapSeq fun _ => (#[] : Array Value))
    obtain ⟨e1, ho1⟩ : ∃ e1, (s.heap.update a (Obj.mapSeq fun _ => (#[] : Array Value))).get? a = some (seqObj "list" #[] e1) := ⟨_, get?_update_seq ho fun _ => #[]⟩
    have F3 : Fr h₀ L (((s.heap.update a (Obj.mapSeq fun _ => (#[] : Array Value))).push (seqObj "tuple" vs.toArray 0)).push (seqObj "list" #[] 0)) m := ((kas_fr F s1 haL ha0).push _).push _
    have N2 : News h₀ L (((s.heap.update a (Obj.mapSeq fun _ => (#[] : Array Value))).push (seqObj "tuple" vs.toArray 0)).push (seqObj "list" #[] 0)) news :=
      (kas_news N s1 hna).grown fun b x e => Heap.get?_push_of_some _ (Heap.get?_push_of_some _ e)
    have ho6 : (((s.heap.update a (Obj.mapSeq fun _ => #[])).push (seqObj "tuple" vs.toArray 0)).push (seqObj "list" #[] 0)).get? a = some (seqObj "list" #[] e1) := Heap.get?_push_of_some _ (Heap.get?_push_of_some _ ho1)
    rw [list_sort_plain]
    refine wpAny_bind (listItems_at ho rfl ?_)
    refine wpAny_bind (listUpdate_at ho rfl ?_ (by rw [List.size_toArray, sizeLine_eq]; omega) (Nat.zero_le _))
    refine wpAny_bind (seqEpoch_at ho1 rfl ?_)
    refine wpAny_bind (wpAny_newTuple ?_ (by show vs.length ≤ _; rw [sizeLine_eq]; omega))
    refine wpAny_bind (wpAny_newList ?_ (Nat.zero_le _))
    refine wpAny_holding ?_
    show wpAny (model PySem.Challenge.rw_af0004_01.row.prog w) A _ P E { s with heap := ((s.heap.update a (Obj.mapSeq fun _ => (#[] : Array Value))).push (seqObj "tuple" vs.toArray 0)).push (seqObj "list" #[] 0) }
    dsimp only
    have hn2 : vs.toArray.size < 2 := by rw [List.size_toArray]; omega
    rw [if_pos hn2, if_pos hn2]
    refine wpAny_bind (wpAny_pure ?_)
    rw [StateT.run_pure]
    refine wpAny_bind (wpAny_pure ?_)
    dsimp only
    have hsnd : (arrOf (SortSt.mk' general' (vs.toArray.zip vs.toArray) #[] 7 none)).map (·.2) = vs.toArray := by
      show (vs.toArray.zip vs.toArray).map (·.2) = _
      apply Array.toList_inj.mp
      simp [List.map_snd_zip]
    rw [hsnd]
    refine wpAny_bind (seqEpoch_at ho6 rfl ?_)
    refine wpAny_bind (listUpdate_at ho6 rfl ?_ (Nat.zero_le _) (by rw [List.size_toArray, sizeLine_eq]; omega))
    simp only [bne_self_eq_false, Bool.false_eq_true, if_false]
    have s2 := Heap.SameBut.update (((s.heap.update a (Obj.mapSeq fun _ => #[])).push (seqObj "tuple" vs.toArray 0)).push (seqObj "list" #[] 0)) a (Obj.mapSeq fun _ => vs.toArray)
    obtain ⟨c2, hc2⟩ : ∃ c2, ((((s.heap.update a (Obj.mapSeq fun _ => (#[] : Array Value))).push (seqObj "tuple" vs.toArray 0)).push (seqObj "list" #[] 0)).update a (Obj.mapSeq fun _ => vs.toArray)).get? a = some (seqObj "list" vs.toArray c2) := ⟨_, get?_update_seq ho6 fun _ => vs.toArray⟩
    refine wpAny_pure (h _ c2 vs (kas_fr F3 s2 haL ha0) ?_ hr)
    intro p hp
    rcases List.mem_cons.mp hp with rfl | hp
    · exact ⟨hc2, haL, ha0⟩
    · exact kas_news N2 s2 hna p hp
end
end Mine
end

noncomputable section
namespace Mine
section
variable {w : World} {A : Around} {E : Value → Shared → Prop} {s : Shared} {h₀ : Heap} {L : Addr} {m : Str → Option Value} {news : List (Addr × Obj)} {vs : List Value} {rs out : List (Int × Int)} {n : Nat}

/-- the part of sorted behind the collecting -/
theorem sorted_rest {Q : Value → Shared → Prop} (F : Fr h₀ L s.heap m) (N : News h₀ L s.heap news) (hr : RowsIn news vs rs) (h64 : vs.length < 64) (hm : Mono rs out)
    (hQ : ∀ D h' c vs', Fr h₀ L h' m → News h₀ L h' ((D, listOf (List.toArray vs') c) :: news) → RowsIn news vs' out → Q (.ref D) { s with heap := h' }) :
    wpAny (model PySem.Challenge.rw_af0004_01.row.prog w) A.in1 (newList vs >>= fun l => holding [l] (call (.builtin "list.sort") [l]) >>= fun _ => ret l) (fun f s' => ∃ v, f = .done (.ret v) ∧ Q v s') E s := by
  refine wpAny_bind (wpAny_newList ?_ (by rw [sizeLine_eq]; omega))
  have hoL : (s.heap.push (seqObj "list" vs.toArray 0)).get? s.heap.objs.size = some (seqObj "list" vs.toArray 0) := Heap.get?_push_size _ rfl
  have keep : ∀ b o, s.heap.get? b = some o → (s.heap.push (seqObj "list" vs.toArray 0)).get? b = some o := fun b o q => Heap.get?_push_of_some _ q
  have hL : L < s.heap.objs.size := F.ns.lt
  refine wpAny_bind (wpAny_holding (wpAny_call_entry slot_list_sort ⟨_, hoL, rfl⟩ entry_list_sort ?body (args_list_sort _)))
  case body =>
    refine sort_rows (s := { s with heap := s.heap.push (seqObj "list" vs.toArray 0) }) (F.kept keep) (N.grown keep) hoL (Nat.ne_of_gt hL) (Heap.get?_none_of_le (Nat.le_trans F.above (Nat.le_of_lt hL)))
      (fun p hp => Nat.ne_of_lt (Heap.lt_size (N p hp).1)) hr h64 hm fun h' c vs' F' N' hr' => ?_
    exact ⟨_, rfl, wpAny_pure ⟨_, rfl, hQ _ h' c vs' F' N' hr'⟩⟩

theorem sorted_rows {l : Addr} {Q : Value → Shared → Prop} (F : Fr h₀ L s.heap m) (N : News h₀ L s.heap news) (hl : s.heap.IsList l vs.toArray) (hr : RowsIn news vs rs) (h64 : vs.length < 64) (hm : Mono rs out)
    (hQ : ∀ D h' c vs', Fr h₀ L h' m → News h₀ L h' ((D, listOf (List.toArray vs') c) :: news) → RowsIn news vs' out → Q (.ref D) { s with heap := h' }) :
    wpAny (model PySem.Challenge.rw_af0004_01.row.prog w) A (call (.builtin "sorted") [.ref l]) Q E s := by
  refine Calls.call_function_entry kind_sorted plain_sorted entry_sorted (args_sorted1 _) ?_
  unfold Builtin.«sorted»
  refine wpAny_bind (m := checkCount "sorted" 1 1 _) (wpAny_pure ?_)
  refine wpAny_bind (collect_list hl ?_ (by rw [sizeLine_eq]; omega))
  have keep : ∀ b o, s.heap.get? b = some o → ((s.heap.push (seqObj "list" #[] 0)).update s.heap.objs.size (Obj.mapSeq (· ++ vs.toArray))).get? b = some o := fun b o q => by
    have hlt : b < s.heap.objs.size := Heap.lt_size q
    rw [Heap.get?_update_ne _ _ _ _ (Nat.ne_of_lt hlt), Heap.get?_push_ne _ _ _ (Nat.ne_of_lt hlt)]
    exact q
  exact sorted_rest (F.kept keep) (N.grown keep) hr h64 hm hQ
end
end Mine
end

noncomputable section
namespace Mine
section
variable {w : World} {A : Around} {E : Value → Shared → Prop} {s : Shared} {G C : Addr} {g : Nat} {h₀ : Heap} {rs : List (Int × Int)}

theorem ext_loop {R : Result → Shared → Prop} (hh : A.handled = none) (hroom : A.depth < recursionLimit) (hl0 : h₀.NoLimit) (hC0 : h₀.get? C = none) (hGC : G ≠ C) (hlen : rs.length ≤ 100) (S : Addr) (hS0 : h₀.get? S = none) (hSC : S ≠ C) (hSG : S ≠ G) (res : Value)
    (hR : ∀ vs n h' tk gn tl, Kp h₀ h' → h'.get? S = some (listOf (List.toArray vs) n) → RowsIn tl vs rs → (∀ p ∈ tl, h'.get? p.1 = some p.2 ∧ h₀.get? p.1 = none) → AllBare gn →
      R (.ok (.ret res)) { s with heap := h', toks := tk, gens := gn }) :
    ∀ (k j : Nat) (vs : List Value) (n : Nat) (H : Heap) (tk : Nat) (gn : Array GenState) (tl : List (Addr × Obj)), rs.length - j = k → j ≤ rs.length → GAt w A.in1 G g C h₀ rs j { s with heap := H, toks := tk, gens := gn } → BareBut g gn →
      H.get? S = some (listOf (List.toArray vs) n) → RowsIn tl vs (rs.take j) → (∀ p ∈ tl, H.get? p.1 = some p.2 ∧ h₀.get? p.1 = none ∧ p.1 ≠ S ∧ p.1 ≠ C) →
      codeAny (model PySem.Challenge.rw_af0004_01.row.prog w) A (.builtin "list.extend.loop" ⟨[.ref S, .ref G, res], []⟩) R { s with heap := H, toks := tk, gens := gn } := by
  intro k
  induction k with
  | zero =>
    intro j vs n H tk gn tl hk hj hga hb hS hr htl
    have hin : j = rs.length := by omega
    subst hin
    refine codeAny_builtin F.entry_extend_loop ?_
    rw [Around.under_plainId F.plain_extend_loop _]
    show wpAny _ A.in1 (pyNext (.ref G) >>= _) _ _ _
    refine wpAny_bind (gat_done hh hroom hC0 hga hb fun h2 tk2 gn2 hk2 hb2 => ?_)
    rw [List.take_length] at hr
    refine wpAny_pure (hR vs n h2 tk2 gn2 tl (fun b o e => hk2 _ _ (fun q => by rw [q, hC0] at e; cases e) (hga.2.2.1 b o e)) (hk2 _ _ hSC hS) hr (fun p hp => ?_) hb2)
    obtain ⟨q1, q2, q3, q4⟩ := htl p hp
    exact ⟨hk2 _ _ q4 q1, q2⟩
  | succ k ih =>
    intro j vs n H tk gn tl hk hj hga hb hS hr htl
    have hlt : j < rs.length := by omega
    refine codeAny_builtin F.entry_extend_loop ?_
    rw [Around.under_plainId F.plain_extend_loop _]
    show wpAny _ A.in1 (pyNext (.ref G) >>= _) _ _ _
    refine wpAny_bind (gat_item hh hroom hl0 hC0 hGC hlt hga hb fun T a b h2 tk2 gn2 hi hT hTn hTC hk2 hb2 hga2 => ?_)
    have hTS : T ≠ S := fun e => by rw [e] at hTn; rw [show H.get? S = none from hTn] at hS; cases hS
    have hT0 : h₀.get? T = none := by
      cases q : h₀.get? T with
      | none => rfl
      | some o => have e1 := hga.2.2.1 _ _ q; rw [hTn] at e1; cases e1
    have hS2 : h2.get? S = some (listOf (List.toArray vs) n) := hk2 _ _ hSC hS
    have hvl : vs.length ≤ 100 := by rw [hr.length, List.length_take]; omega
    obtain ⟨u1, u2, hTe⟩ := hT
    show wpAny _ A.in1 (updateSeq S (·.push (.ref T)) >>= _) _ _ _
    refine wpAny_bind ?_
    have hs3 := Heap.SameBut.update h2 S (Obj.mapSeq (·.push (Value.ref T)))
    obtain ⟨n3, hS3⟩ : ∃ n3, (h2.update S (Obj.mapSeq (·.push (Value.ref T)))).get? S = some (listOf ((List.toArray vs).push (.ref T)) n3) := ⟨_, get?_update_seq hS2 _⟩
    generalize hh3 : h2.update S (Obj.mapSeq (·.push (Value.ref T))) = h3 at hs3 hS3
    have hk02 : Kp h₀ h2 := hga2.2.2.1
    have hga3 : GAt w A.in1 G g C h₀ rs (j + 1) { s with heap := h3, toks := tk2, gens := gn2 } :=
      hga2.frame hl0 (fun b o e => hs3.extBut b o (fun q => by rw [q, hS0] at e; cases e) (hk02 b o e)) (fun o e => hs3.extBut _ _ (Ne.symm hSC) e) (fun o e => hs3.extBut _ _ (Ne.symm hSG) e)
    refine wpAny_updateSeq hS2 rfl (wpAny_pure ⟨plainId_quiet F.plain_extend_loop _, ?_⟩) (by rw [List.size_toArray, sizeLine_eq]; omega) (by rw [Array.size_push, List.size_toArray, sizeLine_eq]; omega)
    show codeAny _ A _ _ { s with heap := h2.update S (Obj.mapSeq (·.push (Value.ref T))), toks := tk2, gens := gn2 }
    rw [hh3]
    refine ih (j + 1) (vs ++ [.ref T]) n3 h3 tk2 gn2 ((T, pairObj a b u1 u2) :: tl) (by omega) hlt hga3 hb2 (by simpa using hS3) ?_ ?_
    · rw [List.take_add_one, hi, Option.toList_some]
      exact (RowsIn.mono (fun p hp => .tail _ hp) hr).snoc (.head _)
    · intro p hp
      rcases List.mem_cons.mp hp with rfl | hp
      · exact ⟨hs3.extBut _ _ hTS hTe, hT0, hTS, hTC⟩
      · obtain ⟨q1, q2, q3, q4⟩ := htl p hp
        exact ⟨hs3.extBut _ _ q3 (hk2 _ _ q4 q1), q2, q3, q4⟩

theorem collect_rows {Q : List Value → Shared → Prop} (hf : Fresh w G g C h₀ rs s) (hh : A.handled = none) (hr : A.depth + 100 < recursionLimit) (hu : A.units + 601 < cLine) (hlen : rs.length ≤ 100)
    (hQ : ∀ vs h' tk gn tl, Kp h₀ h' → RowsIn tl vs rs → (∀ p ∈ tl, h'.get? p.1 = some p.2 ∧ h₀.get? p.1 = none) → AllBare gn → Q vs { s with heap := h', toks := tk, gens := gn }) :
    wpAny (model PySem.Challenge.rw_af0004_01.row.prog w) A (collect (.ref G)) Q E s := by
  obtain ⟨hga, hbare, hl0, hC0, hG0, hGC⟩ := hf
  have hg0 := hga A.in1 hh hr (by show A.units + 1 + 600 < _; omega)
  obtain ⟨oC, hoC⟩ := hg0.2.2.2.1
  obtain ⟨oG, _, _, hoG, _⟩ := id hg0.1
  have hSG : s.heap.objs.size ≠ G := Nat.ne_of_gt (Heap.lt_size hoG)
  have hSC : s.heap.objs.size ≠ C := Nat.ne_of_gt (Heap.lt_size hoC)
  have hS0 : h₀.get? s.heap.objs.size = none := by
    cases q : h₀.get? s.heap.objs.size with
    | none => rfl
    | some o => exact absurd (Heap.lt_size (hg0.2.2.1 _ _ q)) (Nat.lt_irrefl _)
  unfold collect
  refine wpAny_bind (wpAny_runValue (codeAny_builtin F.entry_proto_collect ?_))
  rw [Around.under_plainId F.plain_proto_collect _]
  show wpAny _ A.in1 (newList [] >>= fun l => again (.builtin "list.__iadd__" ⟨[l, .ref G], []⟩)) _ _ s
  refine wpAny_bind (wpAny_newObj_type ?_)
  refine wpAny_pure ⟨plainId_quiet F.plain_list_iadd _, codeAny_builtin F.entry_list_iadd ?_⟩
  rw [Around.under_plainId F.plain_list_iadd _]
  have push : ∀ b o, s.heap.get? b = some o → (s.heap.push { cls := .type "list", data := .seq ([] : List Value).toArray }).get? b = some o := fun b o e => Heap.get?_push_of_some _ e
  have hst₁ : GAt w A.in1 G g C h₀ rs 0 { s with heap := s.heap.push { cls := .type "list", data := .seq ([] : List Value).toArray } } := hg0.frame hl0 (fun b o e => push _ _ (hg0.2.2.1 b o e)) (fun o e => push _ _ e) (fun o e => push _ _ e)
  show wpAny _ A.in1 (Builtin.List.listExtendWith (.ref s.heap.objs.size) (.ref G) (.ref s.heap.objs.size)) _ _ _
  unfold Builtin.List.listExtendWith
  refine wpAny_bind (wpAny_typeOf hst₁.1.typeIs ?_)
  have h1 : Builtin.List.listSameRef (.ref s.heap.objs.size) (.ref G) = false := by simp [Builtin.List.listSameRef, hSG]
  have h2 : (Value.type "generator" == Value.type "list") = false := by decide
  have h3 : (Value.type "generator" == Value.type "tuple") = false := by decide
  simp only [h1, h2, h3, Bool.or_false, Bool.false_eq_true, if_false]
  refine wpAny_bind (wpAny_pyIter_gen hst₁.1 ?_)
  refine wpAny_bind (wpAny_holding ?_)
  unfold Builtin.List.listLengthHint
  refine wpAny_bind (wpAny_specialOf hst₁.1.typeIs F.gen_no_len ?_)
  show wpAny _ A.in1 (specialOf (Value.ref G) (Str.ofString "__length_hint__") >>= _) _ _ _
  refine wpAny_bind (wpAny_specialOf hst₁.1.typeIs F.gen_no_hint ?_)
  refine wpAny_pure ?_
  show wpAny _ A.in1 (rule "list.extend.makes-room" >>= fun _ => Builtin.List.listTouch (.ref s.heap.objs.size) >>= fun _ =>
    again (.builtin "list.extend.loop" ⟨[.ref s.heap.objs.size, .ref G, .ref s.heap.objs.size], []⟩)) _ _ _
  refine wpAny_bind (wpAny_rule ?_)
  have hS₁ : (s.heap.push { cls := .type "list", data := .seq ([] : List Value).toArray }).get? s.heap.objs.size = some { cls := .type "list", data := .seq ([] : List Value).toArray } := Heap.get?_push_size _ rfl
  refine wpAny_bind ?_
  show wpAny _ A.in1 (updateSeq s.heap.objs.size (·.push .none) >>= fun _ => updateSeq s.heap.objs.size (·.pop)) _ _ _
  refine wpAny_bind (wpAny_updateSeq hS₁ rfl ?_)
  have hS₂ := Heap.get?_update_self (Obj.mapSeq (·.push Value.none)) hS₁ rfl
  refine wpAny_updateSeq hS₂ rfl ?_
  have hS₃ := Heap.get?_update_self (Obj.mapSeq (·.pop)) hS₂ rfl
  have oth : ∀ b o, b ≠ s.heap.objs.size → (s.heap.push { cls := .type "list", data := .seq ([] : List Value).toArray }).get? b = some o →
      (((s.heap.push { cls := .type "list", data := .seq ([] : List Value).toArray }).update s.heap.objs.size (Obj.mapSeq (·.push Value.none))).update s.heap.objs.size (Obj.mapSeq (·.pop))).get? b = some o :=
    fun b o hb e => (Heap.get?_update_other _ _ (Ne.symm hb)).trans ((Heap.get?_update_other _ _ (Ne.symm hb)).trans e)
  have hst₃ : GAt w A.in1 G g C h₀ rs 0 { s with heap := ((s.heap.push { cls := .type "list", data := .seq ([] : List Value).toArray }).update s.heap.objs.size (Obj.mapSeq (·.push Value.none))).update s.heap.objs.size (Obj.mapSeq (·.pop)) } :=
    hst₁.frame hl0 (fun b o e => oth _ _ (fun q => by rw [q, hS0] at e; cases e) (push _ _ (hg0.2.2.1 b o e))) (fun o e => oth _ _ (Ne.symm hSC) e) (fun o e => oth _ _ (Ne.symm hSG) e)
  refine wpAny_pure ⟨plainId_quiet F.plain_extend_loop _, ext_loop (s := s) hh (by omega) hl0 hC0 hGC hlen s.heap.objs.size hS0 hSC hSG _ (fun vs n h' tk gn tl k0 hS' hr' htl hb' => ?_) rs.length 0 [] _ _ _ _ [] (Nat.sub_zero _) (Nat.zero_le _) hst₃ (.of_all hbare) hS₃ .nil (fun _ hp => nomatch hp)⟩
  show wpAny _ A (load s.heap.objs.size >>= _) _ _ _
  refine wpAny_bind (wpAny_load hS' ?_)
  exact wpAny_pure (hQ vs h' tk gn tl k0 hr' htl hb')

/-- a ledger of a creation heap's caller, behind a drain -/
theorem News_tl {hB hA h' : Heap} {L : Addr} {m : Str → Option Value} {news tl : List (Addr × Obj)} (F : Fr hB L hA m) (N : News hB L hA news) (k : Kp hA h') (htl : ∀ p ∈ tl, h'.get? p.1 = some p.2 ∧ hA.get? p.1 = none) : News hB L h' (tl ++ news) := by
  intro p hp
  rcases List.mem_append.mp hp with hp | hp
  · exact News_add F N k (htl p hp).2 (htl p hp).1 p (.head _)
  · exact (N.grown k) p hp

theorem sorted_gen {hB : Heap} {L : Addr} {m : Str → Option Value} {news : List (Addr × Obj)} {out : List (Int × Int)} {Q : Value → Shared → Prop} (F : Fr hB L h₀ m) (N : News hB L h₀ news) (hf : Fresh w G g C h₀ rs s) (hh : A.handled = none) (hr : A.depth + 100 < recursionLimit) (hu : A.units + 602 < cLine)
    (hlen : rs.length < 64) (hm : Mono rs out)
    (hQ : ∀ D h' tk gn c vs' tl, Fr hB L h' m → News hB L h' ((D, listOf (List.toArray vs') c) :: (tl ++ news)) → RowsIn (tl ++ news) vs' out → AllBare gn → Q (.ref D) { s with heap := h', toks := tk, gens := gn }) :
    wpAny (model PySem.Challenge.rw_af0004_01.row.prog w) A (call (.builtin "sorted") [.ref G]) Q E s := by
  refine Calls.call_function_entry kind_sorted plain_sorted entry_sorted (args_sorted1 _) ?_
  unfold Builtin.«sorted»
  refine wpAny_bind (m := checkCount "sorted" 1 1 _) (wpAny_pure ?_)
  refine wpAny_bind (collect_rows hf hh hr (by show A.units + 1 + 601 < _; omega) (by omega) fun vs h' tk gn tl k hrw htl hb => ?_)
  refine sorted_rest (news := tl ++ news) (F.kept k) (News_tl F N k htl) (hrw.mono fun p hp => List.mem_append_left _ hp) (by rw [hrw.length]; omega) hm fun D h'' c vs' F' N' hr' => ?_
  exact hQ D h'' tk gn c vs' tl F' N' hr' hb
end
end Mine
end

noncomputable section
namespace Mine
noncomputable def lawParts : List Stmt × Scope := match PySem.Challenge.pw_af0004_01.main.body with
  | [_, _, _, _, _, .FunctionDef _ _ b _ _ _ sc _ _ _] => (b, sc)
  | _ => ([], default)
noncomputable def lawScope : Scope := lawParts.2
noncomputable def lawStmt (i : Nat) : Stmt := lawParts.1.getD i (.Pass default)
noncomputable abbrev lawEnv (L fa : Nat) (cd : Value) : Env := envOfC (Str.ofString "law") lawScope L fa cd
/-- the cells of the law's frame -/
abbrev cellsL (L : Nat) (oa ob om oi oc ox : Obj) : List (Addr × Obj) :=
  [(L + 1 + 1 + 1 + 1 + 1 + 1, ox), (L + 1 + 1 + 1 + 1 + 1, oc), (L + 1 + 1 + 1 + 1, oi), (L + 1 + 1 + 1, om), (L + 1 + 1, ob), (L + 1, oa)]
abbrev isC (o : Obj) (v : Option Value) : Prop := o.data = .cell v
theorem lawBody_eq : lawParts.1 = [lawStmt 0, lawStmt 1, lawStmt 2, lawStmt 3, lawStmt 4, lawStmt 5, lawStmt 6, lawStmt 7, lawStmt 8, lawStmt 9, lawStmt 10, lawStmt 11, lawStmt 12, lawStmt 13, lawStmt 14, lawStmt 15, lawStmt 16, lawStmt 17, lawStmt 18, lawStmt 19, lawStmt 20, lawStmt 21] := rfl
end Mine
end

noncomputable section
namespace Mine
local macro_rules | `(tactic| walk_at "last subscriptTail") => `(tactic| refine Mine.Stop.mk ?_)
theorem st_num {w : World} {mean : ExcName → Option Value} {mg mb : Str → Option Value} {dp un : Nat} {fr : Option (List Env)} {gd : Option (List Code)} {s : Shared} {h₀ : Heap} {L fa l : Nat} {cd : Value} {rest : Str → Option Value}
    {oa ob om oi oc ox : Obj} {ws : List Value} {ns : List Int} {Q : Flow → Shared → Prop}
    (X : (hd.heap_39 w.params).In h₀) (T : Top hd.view_39 (looseW hd.view_39 []) mean mg mb h₀) (F : Fr h₀ L s.heap (fun y => if y = Str.ofString "script" then some (.ref l) else rest y))
    (N : News h₀ L s.heap (cellsL L oa ob om oi oc ox)) (hl : h₀.IsList l ws.toArray) (hI : IntsAre ws ns) (hlen : ns.length ≤ 63)
    (h : ∀ h' tk D ws', Fr h₀ L h' (fun y => if y = Str.ofString "numbers" then some (.ref D) else if y = Str.ofString "script" then some (.ref l) else rest y) → @LT.lt Nat _ (L + 1 + 1 + 1 + 1 + 1 + 1) D →
      News h₀ L h' ((D, listOf (List.toArray ws') 0) :: cellsL L oa ob om oi oc ox) → IntsAre ws' (List.take 4 (List.take 4 ns ++ List.drop (min ns.length 4) [18, 7, 2, 1])) → Q .next { s with heap := h', toks := tk }) :
    wpAny (model PySem.Challenge.rw_af0004_01.row.prog w) { handled := none, depth := dp, frames := fr, guards := gd, units := un } (exec (lawStmt 0) (lawEnv L fa cd)) Q NoE s := by
  revert X; k_fill; intro X
  conv => enter [3, 1]; whnf
  dsimp only [cellsL, isC] at *
  k_steps
  unfold Stop
  k_dflt (refine kba_turn (value' := PySem.Expr.Name (PySem.Str.ofString "_") ⟨0, 0, 0, 0⟩) (fun _ => rfl) ?_)
  have hk : (if (4 : Int) < (ns.length : Int) then (4 : Int) else (ns.length : Int)) = ((min ns.length 4 : Nat) : Int) := by split <;> omega
  k_dflt (refine' kmk_slice_ints ?yF ?yN ?yl ?yp ?yq ?yi ?ym ?yc ?_ ?ys ?yt ?yz)
  (case yF => k_asm); (case yN => k_asm)
  (case yl => kmk_list)
  (case yp => kmk_part); (case yq => kmk_part)
  (case yi => l_ints)
  (case ym => exact kmk_from (by l_ints) (by omega))
  (case yc => kmk_len)
  (case ys => with_unfolding_all rfl)
  (case yt => kmk_pure)
  (case yz => kmk_size)
  intro D' ws' h' F' N' l1 hI' hC' hL'
  (try k_lt l1)
  (try k_sweep)
  k_steps
  unfold Stop
  k_dflt (refine kba_turn (value' := PySem.Expr.Name (PySem.Str.ofString "_") ⟨0, 0, 0, 0⟩) (fun _ => rfl) ?_)
  k_steps
  rename Fr _ _ _ _ => F9
  rename News _ _ _ _ => N9
  rename IntsAre _ _ => hI9
  rw [hk, Int.toNat_natCast] at hI9
  refine h _ _ _ _ F9 (by omega) (fun p hp => N9 p ?_) hI9
  rcases List.mem_cons.mp hp with rfl | hp
  · exact .head _
  · exact .tail _ (.tail _ (.tail _ (.tail _ (.tail _ hp))))
end Mine
end

noncomputable section
namespace Mine
section
variable {w : World} {mean : ExcName → Option Value} {mg mb : Str → Option Value} {dp un : Nat} {fr : Option (List Env)} {gd : Option (List Code)} {s : Shared} {h₀ : Heap} {L fa D : Nat} {cd : Value} {rest : Str → Option Value}
    {oa ob om oi oc ox : Obj} {ws : List Value} {ns : List Int} {Q : Flow → Shared → Prop}

theorem st_a (X : (hd.heap_39 w.params).In h₀) (T : Top hd.view_39 (looseW hd.view_39 []) mean mg mb h₀) (F : Fr h₀ L s.heap (fun y => if y = Str.ofString "numbers" then some (.ref D) else rest y))
    (N : News h₀ L s.heap ((D, listOf (List.toArray ws) 0) :: cellsL L oa ob om oi oc ox)) (hI : IntsAre ws ns) (hlen : ns.length = 4) (hDL : L + 1 + 1 + 1 + 1 + 1 + 1 < D) (ha : isC oa none)
    (h : ∀ h' tk oa' t, Fr h₀ L h' (fun y => if y = Str.ofString "numbers" then some (.ref D) else rest y) → News h₀ L h' ((D, listOf (List.toArray ws) 0) :: cellsL L oa' ob om oi oc ox) → isC oa' (some (.int (1 + Int.fmod (ns.getD 0 0) 7) t)) → Q .next { s with heap := h', toks := tk }) :
    wpAny (model PySem.Challenge.rw_af0004_01.row.prog w) { handled := none, depth := dp, frames := fr, guards := gd, units := un } (exec (lawStmt 1) (lawEnv L fa cd)) Q NoE s := by
  revert X; k_fill; intro X
  conv => enter [3, 1]; whnf
  dsimp only [cellsL, isC] at *
  k_steps
  exact h _ _ _ _ (by assumption) (by assumption) (by assumption)

theorem st_b (X : (hd.heap_39 w.params).In h₀) (T : Top hd.view_39 (looseW hd.view_39 []) mean mg mb h₀) (F : Fr h₀ L s.heap (fun y => if y = Str.ofString "numbers" then some (.ref D) else rest y))
    (N : News h₀ L s.heap ((D, listOf (List.toArray ws) 0) :: cellsL L oa ob om oi oc ox)) (hI : IntsAre ws ns) (hlen : ns.length = 4) (hDL : L + 1 + 1 + 1 + 1 + 1 + 1 < D) (ha : isC ob none)
    (h : ∀ h' tk ob' t, Fr h₀ L h' (fun y => if y = Str.ofString "numbers" then some (.ref D) else rest y) → News h₀ L h' ((D, listOf (List.toArray ws) 0) :: cellsL L oa ob' om oi oc ox) → isC ob' (some (.int (1 + Int.fmod (Int.fdiv (ns.getD 0 0) 7) 7) t)) → Q .next { s with heap := h', toks := tk }) :
    wpAny (model PySem.Challenge.rw_af0004_01.row.prog w) { handled := none, depth := dp, frames := fr, guards := gd, units := un } (exec (lawStmt 2) (lawEnv L fa cd)) Q NoE s := by
  revert X; k_fill; intro X
  conv => enter [3, 1]; whnf
  dsimp only [cellsL, isC] at *
  k_steps
  exact h _ _ _ _ (by assumption) (by assumption) (by assumption)
end
end Mine
end

noncomputable section
namespace Mine
def redS (p : Int × Int) (k : Int) : Int × Int := if Int.fmod p.1 k = 0 ∧ Int.fmod p.2 k = 0 then (Int.fdiv p.1 k, Int.fdiv p.2 k) else p
def ksL : List Int := [7, 6, 5, 4, 3, 2]
def red (a b : Int) : Int × Int := ksL.foldl redS (a, b)
local macro_rules | `(tactic| walk_at "pyIter ref") => `(tactic| refine Mine.Stop.mk ?_)
section
variable {w : World} {mean : ExcName → Option Value} {mg mb : Str → Option Value} {dp un : Nat} {fr : Option (List Env)} {gd : Option (List Code)} {s : Shared} {h₀ : Heap} {L fa D : Nat} {cd : Value} {rest : Str → Option Value}
    {oa ob om oi oc ox : Obj} {ws : List Value} {ns : List Int} {Q : Flow → Shared → Prop} {a b : Int} {ta tb : Tok}

theorem st_k (X : (hd.heap_39 w.params).In h₀) (T : Top hd.view_39 (looseW hd.view_39 []) mean mg mb h₀) (F : Fr h₀ L s.heap (fun y => if y = Str.ofString "numbers" then some (.ref D) else rest y))
    (N : News h₀ L s.heap ((D, listOf (List.toArray ws) 0) :: cellsL L oa ob om oi oc ox)) (hDL : L + 1 + 1 + 1 + 1 + 1 + 1 < D) (ha : isC oa (some (.int a ta))) (hb : isC ob (some (.int b tb)))
    (h : ∀ (h' : Heap) (tk : Nat) (oa' ob' : Obj) (ta tb : Tok) (rest' : Str → Option Value), Fr h₀ L h' (fun y => if y = Str.ofString "numbers" then some (.ref D) else rest' y) → News h₀ L h' ((D, listOf (List.toArray ws) 0) :: cellsL L oa' ob' om oi oc ox) →
      isC oa' (some (.int (red a b).1 ta)) → isC ob' (some (.int (red a b).2 tb)) → Q .next { s with heap := h', toks := tk }) :
    wpAny (model PySem.Challenge.rw_af0004_01.row.prog w) { handled := none, depth := dp, frames := fr, guards := gd, units := un } (exec (lawStmt 3) (lawEnv L fa cd)) Q NoE s := by
  revert X; k_fill; intro X
  conv => enter [3, 1]; whnf
  dsimp only [cellsL, isC] at *
  refine For_invVF (x := Str.ofString "k") F rfl rfl ?_ (by intro _; rfl) PassesOwn.never
  k_steps
  unfold Stop
  rename Fr _ _ _ _ => F1
  rename News _ _ _ _ => N1
  rename_i l1 h1 hl1
  refine iter_invNL (ns := ksL) (fun i m nx => ∃ oa' ob' ta tb, nx = (l1, listOf (List.toArray _) 0) :: (D, listOf (List.toArray ws) 0) :: cellsL L oa' ob' om oi oc ox ∧ isC oa' (some (.int ((ksL.take i).foldl redS (a, b)).1 ta)) ∧ isC ob' (some (.int ((ksL.take i).foldl redS (a, b)).2 tb)) ∧ ∀ z, z ≠ Str.ofString "k" → m z = (fun y => if y = Str.ofString "numbers" then some (.ref D) else rest y) z)
    rfl (.head _) (by repeat constructor) F1 N1 ⟨oa, ob, ta, tb, rfl, ha, hb, fun _ _ => rfl⟩ ?_ ?_
  · rintro i n t m₁ news₁ h2 tk own hn hadr hoff hin ⟨oa', ob', sa, sb, rfl, ha', hb', hm⟩ F2 N2
    clear F1 N1 hin h
    have hn2 : 2 ≤ n ∧ n ≤ 7 := by
      have := List.mem_of_getElem? hn
      simp [ksL] at this
      omega
    have hs : (ksL.take (i + 1)).foldl redS (a, b) = redS ((ksL.take i).foldl redS (a, b)) n := by
      rw [List.take_add_one, hn]; simp
    rw [hs]
    generalize (ksL.take i).foldl redS (a, b) = p at *
    obtain ⟨p1, p2⟩ := p
    dsimp only [cellsL, isC] at *
    k_steps
    · rename Int.fmod p1 n = 0 => q1
      rename Int.fmod p2 n = 0 => q2
      have e : redS (p1, p2) n = (Int.fdiv p1 n, Int.fdiv p2 n) := by unfold redS; exact if_pos ⟨q1, q2⟩
      rename_i h3 o3 d3 h4 o4 F4 N4 d4
      rw [e]
      refine InvEndN.intro F4 N4 ⟨.head _, o3, o4, _, _, rfl, d3, d4, fun z hz => (if_neg hz).trans (hm z hz)⟩ rfl (by (with_unfolding_all ((try simp only [List.nil_append, List.cons_append]); k_allIn))) (by (intro p hp; k_ownIn))
    all_goals
      have e : redS (p1, p2) n = (p1, p2) := by
        unfold redS
        refine if_neg fun q => ?_
        have q1 := q.1
        have q2 := q.2
        dsimp only at q1 q2
        omega
      rw [e]
      refine InvEndN.intro (by assumption) (by assumption) ⟨.head _, oa', ob', _, _, rfl, ha', hb', fun z hz => (if_neg hz).trans (hm z hz)⟩ rfl (by (with_unfolding_all ((try simp only [List.nil_append, List.cons_append]); k_allIn))) (by (intro p hp; k_ownIn))
  · rintro m₁ news₁ h2 tk hin ⟨oa', ob', sa, sb, rfl, ha', hb', hm⟩ F2 N2
    rw [show ksL.take ksL.length = ksL from rfl] at ha' hb'
    refine h h2 tk oa' ob' sa sb m₁ ?_ (fun p hp => N2 p (.tail _ hp)) ha' hb'
    exact Fr_say F2 ((hm _ (by decide)).trans (if_pos rfl))
end
end Mine
end

noncomputable section
namespace Mine
section
variable {w : World} {mean : ExcName → Option Value} {mg mb : Str → Option Value} {dp un : Nat} {fr : Option (List Env)} {gd : Option (List Code)} {s : Shared} {h₀ : Heap} {L fa D M : Nat} {cd : Value} {rest : Str → Option Value}
    {oa ob om oi oc ox : Obj} {ws ms : List Value} {ns : List Int} {Q : Flow → Shared → Prop} {a b most : Int} {ta tb tm : Tok} {vi : Option Value}

theorem st_most (X : (hd.heap_39 w.params).In h₀) (T : Top hd.view_39 (looseW hd.view_39 []) mean mg mb h₀) (F : Fr h₀ L s.heap (fun y => if y = Str.ofString "numbers" then some (.ref D) else rest y))
    (N : News h₀ L s.heap ((D, listOf (List.toArray ws) 0) :: cellsL L oa ob om oi oc ox)) (hDL : L + 1 + 1 + 1 + 1 + 1 + 1 < D) (ha : isC oa (some (.int a ta))) (hb : isC ob (some (.int b tb))) (hm : isC om none)
    (a1 : 1 ≤ a) (a7 : a ≤ 7) (b1 : 1 ≤ b) (b7 : b ≤ 7)
    (h : ∀ (h' : Heap) (tk : Nat) (om' : Obj) (tm : Tok), Fr h₀ L h' (fun y => if y = Str.ofString "numbers" then some (.ref D) else rest y) → News h₀ L h' ((D, listOf (List.toArray ws) 0) :: cellsL L oa ob om' oi oc ox) →
      isC om' (some (.int (a * b - a - b) tm)) → Q .next { s with heap := h', toks := tk }) :
    wpAny (model PySem.Challenge.rw_af0004_01.row.prog w) { handled := none, depth := dp, frames := fr, guards := gd, units := un } (exec (lawStmt 4) (lawEnv L fa cd)) Q NoE s := by
  revert X; k_fill; intro X
  conv => enter [3, 1]; whnf
  dsimp only [cellsL, isC] at *
  k_steps
  exact h _ _ _ _ (by assumption) (by assumption) (by assumption)

theorem st_miss (X : (hd.heap_39 w.params).In h₀) (T : Top hd.view_39 (looseW hd.view_39 []) mean mg mb h₀) (F : Fr h₀ L s.heap (fun y => if y = Str.ofString "numbers" then some (.ref D) else rest y))
    (N : News h₀ L s.heap ((D, listOf (List.toArray ws) 0) :: cellsL L oa ob om oi oc ox)) (hDL : L + 1 + 1 + 1 + 1 + 1 + 1 < D) (hi : isC oi none)
    (h : ∀ (h' : Heap) (tk : Nat) (oi' : Obj) (M : Nat), Fr h₀ L h' (fun y => if y = Str.ofString "numbers" then some (.ref D) else rest y) → News h₀ L h' ((M, listOf (List.toArray []) 0) :: (D, listOf (List.toArray ws) 0) :: cellsL L oa ob om oi' oc ox) →
      D < M → isC oi' (some (.ref M)) → Q .next { s with heap := h', toks := tk }) :
    wpAny (model PySem.Challenge.rw_af0004_01.row.prog w) { handled := none, depth := dp, frames := fr, guards := gd, units := un } (exec (lawStmt 5) (lawEnv L fa cd)) Q NoE s := by
  revert X; k_fill; intro X
  conv => enter [3, 1]; whnf
  dsimp only [cellsL, isC] at *
  k_steps
  exact h _ _ _ _ (by assumption) (by assumption) (by omega) (by assumption)
end
end Mine
end

noncomputable section
namespace Mine
noncomputable def mainBody : List Stmt := match lawStmt 6 with | .For _ _ b _ _ => b | _ => []
noncomputable def mainB0 : Stmt := mainBody.getD 0 (.Pass default)
noncomputable def mainB1 : Stmt := mainBody.getD 1 (.Pass default)
theorem mainBody_eq : mainBody = [mainB0, mainB1] := rfl
local macro_rules | `(tactic| walk_at "call ref") => `(tactic| refine Mine.Stop.mk ?_)
local macro_rules | `(tactic| walk_at "call ref cons nil") => `(tactic| refine Mine.Stop.mk ?_)
theorem News_as {h₀ h h' : Heap} {L R : Addr} {o : Obj} {m : Str → Option Value} {news tl : List (Addr × Obj)} (F : Fr h₀ L h m) (N : News h₀ L h news) (hk : ∀ b o, b ≠ L → h.get? b = some o → h'.get? b = some o) (hR : h'.get? R = some o) (hR0 : h.get? R = none)
    (htl : ∀ p ∈ tl, h'.get? p.1 = some p.2 ∧ h.get? p.1 = none) : News h₀ L h' ((R, o) :: (tl ++ news)) := by
  obtain ⟨oL, _, _, hL, _⟩ := F.ns
  have one : ∀ (a : Addr) (q : Obj), h'.get? a = some q → h.get? a = none → h'.get? a = some q ∧ a ≠ L ∧ h₀.get? a = none := fun a q e1 e2 => by
    refine ⟨e1, ?_, ?_⟩
    · intro e; rw [e, hL] at e2; cases e2
    cases q3 : h₀.get? a with
    | none => rfl
    | some o3 => rw [F.keep _ _ q3] at e2; cases e2
  intro p hp
  rcases List.mem_cons.mp hp with rfl | hp
  · exact one _ _ hR hR0
  · rcases List.mem_append.mp hp with hp | hp
    · exact one _ _ (htl p hp).1 (htl p hp).2
    · obtain ⟨e1, e2, e3⟩ := N p hp
      exact ⟨hk _ _ e2 e1, e2, e3⟩
theorem Fr_as {h₀ h h' : Heap} {L : Addr} {m m' : Str → Option Value} (F : Fr h₀ L h m) (hn : h'.Ns L m') (hk : ∀ b o, b ≠ L → h.get? b = some o → h'.get? b = some o) : Fr h₀ L h' m' :=
  ⟨hn, fun b o e => hk b o (Nat.ne_of_lt (Nat.lt_of_lt_of_le (Heap.lt_size e) F.above)) (F.keep b o e), F.above⟩
section
variable {w : World} {mean : ExcName → Option Value} {mg mb : Str → Option Value} {dp un : Nat} {fr : Option (List Env)} {gd : Option (List Code)} {s : Shared} {h₀ : Heap} {L fa D M : Nat} {cd : Value} {rest : Str → Option Value}
    {I : Nat} {oI oa ob om oi oc ox : Obj} {ws ms : List Value} {ns mi : List Int} {Q : Flow → Shared → Prop} {a b c : Int} {R n : Nat} {ta tb tc : Tok} {nm : Nat}

theorem mb0 (X : (hd.heap_39 w.params).In h₀) (T : Top hd.view_39 (looseW hd.view_39 []) mean mg mb h₀) (hr : dp + 200 < recursionLimit) (hu : un + 700 < cLine) (hbare : AllBare s.gens)
    (F : Fr h₀ L s.heap (fun y => if y = Str.ofString "numbers" then some (.ref D) else rest y))
    (N : News h₀ L s.heap ((I, oI) :: (M, listOf (List.toArray ms) nm) :: (D, listOf (List.toArray ws) 0) :: cellsL L oa ob om oi oc ox)) (hDL : L + 1 + 1 + 1 + 1 + 1 + 1 < D) (hMD : D < M)
    (ha : isC oa (some (.int a ta))) (hb : isC ob (some (.int b tb))) (hc : isC oc (some (.int c tc))) (hi : isC oi (some (.ref M)))
    (a1 : 1 ≤ a) (a7 : a ≤ 40) (b1 : 1 ≤ b) (b7 : b ≤ 40) (c0 : 0 ≤ c) (c1 : c ≤ 500) (hlen : (bsl a b c).length ≤ 100)
    (h : ∀ (h' : Heap) (tk : Nat) (gn : Array GenState) (R : Nat) (vs : List Value) (n : Nat) (tl : List (Addr × Obj)), AllBare gn →
      Fr h₀ L h' (fun y => if y = Str.ofString "rows" then some (.ref R) else if y = Str.ofString "numbers" then some (.ref D) else rest y) →
      News h₀ L h' ((R, listOf (List.toArray vs) n) :: (tl ++ (I, oI) :: (M, listOf (List.toArray ms) nm) :: (D, listOf (List.toArray ws) 0) :: cellsL L oa ob om oi oc ox)) → RowsIn tl vs (bsl a b c) → I < R →
      Q .next { s with heap := h', toks := tk, gens := gn }) :
    wpAny (model PySem.Challenge.rw_af0004_01.row.prog w) { handled := none, depth := dp, frames := fr, guards := gd, units := un } (exec mainB0 (lawEnv L fa cd)) Q NoE s := by
  revert X; k_fill; intro X
  conv => enter [3, 1]; whnf
  dsimp only [cellsL, isC] at *
  refine assign_comp_gen (x := Str.ofString "row") id rfl rfl (by dsimp only; omega) (by dsimp only; omega) (by decide) (by decide) rfl (by decide) rfl rfl rfl ?_ ?_
  · intro L' s' m' T' p q Q' E' hn hm hp hq
    obtain ⟨t1, t2, hp'⟩ := hp
    refine wpAny_Name (wpAny_loadName_local rfl rfl hn hm ?_) rfl
    exact hq T' _ _ (fun _ _ e => e) ⟨t1, t2, hp'⟩ (.inl rfl)
  · k_steps
    all_goals (unfold Stop)
    refine gen_call (by dsimp only; omega) a1 a7 b1 b7 c0 c1 (fun x o e => F.keep x o (X x o e)) (T.keeps F.keep) fun G g C h' tk gs hb k hG hC hGC hg hga => ?_
    refine ⟨G, g, C, _, bsl a b c, _, rfl, ⟨hga, AllBare.push hbare hb, T.nolimit.keeps F.keep, hC, hG, hGC⟩, hlen, F.ns, fun R vs n h2 tk2 gn2 tl hlt hk hn hR hR0 hrows htl hb2 => ?_⟩
    exact h h2 tk2 gn2 R vs n tl hb2 (Fr_as F hn hk) (News_as F N hk hR hR0 htl) (by rw [List.map_id] at hrows; exact hrows) (hlt I _ (N.get (.head _)))

theorem mb1_nil (X : (hd.heap_39 w.params).In h₀) (T : Top hd.view_39 (looseW hd.view_39 []) mean mg mb h₀) (hu : un + 700 < cLine)
    (F : Fr h₀ L s.heap (fun y => if y = Str.ofString "rows" then some (.ref R) else rest y))
    (N : News h₀ L s.heap ((R, listOf (List.toArray []) n) :: (I, oI) :: (M, listOf (List.toArray ms) nm) :: (D, listOf (List.toArray ws) 0) :: cellsL L oa ob om oi oc ox)) (hDL : L + 1 + 1 + 1 + 1 + 1 + 1 < D) (hMD : D < M) (hMI : M < I) (hMR : I < R)
    (hc : isC oc (some (.int c tc))) (hi : isC oi (some (.ref M))) (hml : ms.length ≤ 100)
    (h : ∀ (h' : Heap) (tk nm' : Nat), Fr h₀ L h' (fun y => if y = Str.ofString "rows" then some (.ref R) else rest y) →
      News h₀ L h' ((I, oI) :: (M, listOf (List.toArray (ms ++ [.int c tc])) nm') :: (D, listOf (List.toArray ws) 0) :: cellsL L oa ob om oi oc ox) → 
      Q .next { s with heap := h', toks := tk }) :
    wpAny (model PySem.Challenge.rw_af0004_01.row.prog w) { handled := none, depth := dp, frames := fr, guards := gd, units := un } (exec mainB1 (lawEnv L fa cd)) Q NoE s := by
  revert X; k_fill; intro X
  conv => enter [3, 1]; whnf
  dsimp only [cellsL, isC] at *
  k_steps
  rename Fr _ _ _ _ => F'
  rename News _ _ _ _ => N'
  refine h _ _ (nm + 1) F' ?_
  rw [show (ms ++ [Value.int c tc]).toArray = ms.toArray.push (Value.int c tc) by simp]
  exact N'.perm fun p hp => .tail _ (.tail _ hp)

theorem min_pair {prog : Program} {A : Around} {E : Value → Shared → Prop} {x y : Int} {t u : Tok} {P : Addr} {Q : Value → Shared → Prop} (hh : A.handled = none) (hP : s.heap.get? P = some { cls := .type "tuple", data := .seq #[.int x t, .int y u] })
    (h : ∀ h' tk M tM, Kp s.heap h' → (M = x ∨ M = y) → Q (.int M tM) { s with heap := h', toks := tk }) :
    wpAny (model prog w) A (call (.builtin "min") [.ref P]) Q E s := by
  have hT : s.heap.IsTuple P (intItems #[(x, t), (y, u)]) := ⟨_, hP, rfl, 0, by simp [intItems]⟩
  have hlt := Heap.lt_size hP
  refine call_min_walk (wpAny_pyIter_tuple hT ?_)
  refine ⟨_, [_, P], [_], _, _, _, _, rfl, Walks.tuple (A := A.in1) hh _ P (Nat.ne_of_lt hlt) (intItems #[(x, t), (y, u)]),
    ⟨⟨_, Heap.get?_push_size _ rfl, rfl, rfl⟩, hT.push _⟩, fun c hc => ?_, by simp [intItems], CmpOf.ints_lt (numAt #[(x, t), (y, u)]) (fun _ _ => intItems_at), fun v h' tk hP' hk => ?_⟩
  · show c < (s.heap.push _).objs.size
    rw [Heap.size_push]
    rcases List.mem_cons.mp hc with rfl | hc
    · exact Nat.lt_succ_self _
    · rcases List.mem_cons.mp hc with rfl | hc
      · exact Nat.lt_succ_of_lt hlt
      · cases hc
  · have hold : Kp s.heap h' := fun c o e => hk c o (fun hm => by
      rcases List.mem_cons.mp hm with e1 | hm
      · have := Heap.lt_size e; rw [e1] at this; exact Nat.lt_irrefl _ this
      · cases hm) (Heap.get?_push_of_some _ e)
    have hP2 : (intItems #[(x, t), (y, u)])[argBest (fun i j => decide (numAt #[(x, t), (y, u)] i < numAt #[(x, t), (y, u)] j)) 1]? = some v := by simpa [intItems] using hP'
    obtain ⟨tM, rfl⟩ := intItems_at hP2
    refine h _ _ _ tM hold ?_
    have : ∀ i, i ≤ 1 → numAt #[(x, t), (y, u)] i = x ∨ numAt #[(x, t), (y, u)] i = y := by
      intro i hi
      rcases i with _ | _ | i
      · left; rfl
      · right; rfl
      · omega
    exact this _ (by simp only [argBest]; by_cases q : decide (numAt #[(x, t), (y, u)] (0 + 1) < numAt #[(x, t), (y, u)] 0) = true <;> simp [q])
end

section
local macro_rules | `(tactic| walk_at "compareOp NotEq int int") => `(tactic| refine Mine.Stop.mk ?_)
local macro_rules | `(tactic| walk_at "call builtin:min") => `(tactic| refine Mine.Stop.mk ?_)
variable {w : World} {mean : ExcName → Option Value} {mg mb : Str → Option Value} {dp un : Nat} {fr : Option (List Env)} {gd : Option (List Code)} {s : Shared} {h₀ : Heap} {L fa D M : Nat} {cd : Value} {rest : Str → Option Value}
    {I : Nat} {oI oa ob om oi oc ox : Obj} {ws ms : List Value} {ns mi : List Int} {Q : Flow → Shared → Prop} {a b c : Int} {R n : Nat} {ta tb tc : Tok} {nm : Nat}

theorem mb1_one {x y : Int} {t1 t2 : Tok} {P : Nat} (X : (hd.heap_39 w.params).In h₀) (T : Top hd.view_39 (looseW hd.view_39 []) mean mg mb h₀) (hu : un + 700 < cLine)
    (F : Fr h₀ L s.heap (fun y => if y = Str.ofString "rows" then some (.ref R) else rest y))
    (N : News h₀ L s.heap ((P, { cls := .type "tuple", data := .seq #[.int x t1, .int y t2] }) :: (R, listOf (List.toArray [.ref P]) n) :: (I, oI) :: (M, listOf (List.toArray ms) nm) :: (D, listOf (List.toArray ws) 0) :: cellsL L oa ob om oi oc ox)) (hDL : L + 1 + 1 + 1 + 1 + 1 + 1 < D) (hMD : D < M) (hMI : M < I) (hMR : I < R)
    (ha : isC oa (some (.int a ta))) (hb : isC ob (some (.int b tb))) (hc : isC oc (some (.int c tc))) (hi : isC oi (some (.ref M))) (hml : ms.length ≤ 100)
    (a1 : 1 ≤ a) (a7 : a ≤ 7) (b1 : 1 ≤ b) (b7 : b ≤ 7) (x1 : x ≤ 100) (y1 : y ≤ 100) (x0 : 0 ≤ x) (y0 : 0 ≤ y) (e : a * x + b * y = c)
    (h : ∀ (h' : Heap) (tk : Nat), Fr h₀ L h' (fun y => if y = Str.ofString "rows" then some (.ref R) else rest y) →
      News h₀ L h' ((I, oI) :: (M, listOf (List.toArray ms) nm) :: (D, listOf (List.toArray ws) 0) :: cellsL L oa ob om oi oc ox) → 
      Q .next { s with heap := h', toks := tk }) :
    wpAny (model PySem.Challenge.rw_af0004_01.row.prog w) { handled := none, depth := dp, frames := fr, guards := gd, units := un } (exec mainB1 (lawEnv L fa cd)) Q NoE s := by
  revert X; k_fill; intro X
  conv => enter [3, 1]; whnf
  dsimp only [cellsL, isC] at *
  k_steps
  unfold Stop
  refine PyProof.Rows.ne_int ?_
  rw [show (a * x + b * y != c) = false by rw [e]; simp]
  k_steps
  unfold Stop
  rename Fr _ _ _ _ => F'
  rename News _ _ _ _ => N'
  refine min_pair rfl (N'.get (.tail _ (.head _))) fun h2 tk2 Mv tM k2 hM => ?_
  have hM0 : 0 ≤ Mv := by omega
  have F2 := F'.kept k2
  have N2 := N'.grown k2
  clear F' N'
  k_steps
  all_goals (try omega)
  exact h _ _ F2 (N2.perm fun p hp => .tail _ (.tail _ (.tail _ hp)))
end
end Mine
end

noncomputable section
namespace Mine
/-- the constants below `n` that have no solution -/
def missTo (a b : Int) (n : Nat) : List Int := ((List.range n).map (fun (i : Nat) => (i : Int))).filter fun c => (bsl a b c).isEmpty
theorem missTo_succ (a b : Int) (n : Nat) : missTo a b (n + 1) = if bsl a b n = [] then missTo a b n ++ [(n : Int)] else missTo a b n := by
  unfold missTo
  rw [List.range_succ, List.map_append, List.filter_append]
  by_cases e : bsl a b n = []
  · simp [e]
  · rw [if_neg e]
    have : (bsl a b (n : Int)).isEmpty = false := by rw [← Bool.not_eq_true, List.isEmpty_iff]; exact e
    simp [this]
theorem missTo_length (a b : Int) (n : Nat) : (missTo a b n).length ≤ n := by
  unfold missTo
  refine Nat.le_trans (List.length_filter_le _ _) ?_
  simp
section
local macro_rules | `(tactic| walk_at "pyIter ref") => `(tactic| refine Mine.Stop.mk ?_)
variable {w : World} {mean : ExcName → Option Value} {mg mb : Str → Option Value} {dp un : Nat} {fr : Option (List Env)} {gd : Option (List Code)} {s : Shared} {h₀ : Heap} {L fa D M : Nat} {cd : Value} {rest : Str → Option Value}
    {oa ob om oi oc ox : Obj} {ws ms : List Value} {ns mi : List Int} {Q : Flow → Shared → Prop} {a b most : Int} {ta tb tm : Tok} {v0 : Option Value}

theorem main_body {I k : Nat} {oI : Obj} {c : Int} {tc : Tok} {nm : Nat} (X : (hd.heap_39 w.params).In h₀) (T : Top hd.view_39 (looseW hd.view_39 []) mean mg mb h₀) (hr : dp + 200 < recursionLimit) (hu : un + 700 < cLine) (hbare : AllBare s.gens)
    (F : Fr h₀ L s.heap (fun y => if y = Str.ofString "numbers" then some (.ref D) else rest y))
    (N : News h₀ L s.heap ((I, oI) :: (M, listOf (List.toArray ms) nm) :: (D, listOf (List.toArray ws) 0) :: cellsL L oa ob om oi oc ox)) (hDL : L + 1 + 1 + 1 + 1 + 1 + 1 < D) (hMD : D < M) (hMI : M < I)
    (ha : isC oa (some (.int a ta))) (hb : isC ob (some (.int b tb))) (hi : isC oi (some (.ref M))) (hc : isC oc (some (.int c tc)))
    (a1 : 1 ≤ a) (a7 : a ≤ 7) (b1 : 1 ≤ b) (b7 : b ≤ 7) (hck : c = k) (c1 : c ≤ 500)
    (hrow : bsl a b c = [] ∨ ∃ x y, bsl a b c = [(x, y)] ∧ 0 ≤ x ∧ 0 ≤ y ∧ x ≤ 100 ∧ y ≤ 100 ∧ a * x + b * y = c) (hI : IntsAre ms (missTo a b k)) (hml : ms.length ≤ 100)
    (h : ∀ (h' : Heap) (tk : Nat) (gn : Array GenState) (rest' : Str → Option Value) (ms' : List Value) (nm' : Nat), AllBare gn →
      Fr h₀ L h' (fun y => if y = Str.ofString "numbers" then some (.ref D) else rest' y) → News h₀ L h' ((I, oI) :: (M, listOf (List.toArray ms') nm') :: (D, listOf (List.toArray ws) 0) :: cellsL L oa ob om oi oc ox) →
      IntsAre ms' (missTo a b (k + 1)) → Q .next { s with heap := h', toks := tk, gens := gn }) :
    wpAny (model PySem.Challenge.rw_af0004_01.row.prog w) { handled := none, depth := dp, frames := fr, guards := gd, units := un } (execs mainBody (lawEnv L fa cd)) Q NoE s := by
  rw [mainBody_eq]
  have hlen : (bsl a b c).length ≤ 100 := by
    rcases hrow with e | ⟨x, y, e, _⟩ <;> rw [e] <;> simp
  refine wpAny_execs_cons (mb0 X T hr hu hbare F N hDL hMD ha hb hc hi a1 (by omega) b1 (by omega) (by omega) c1 hlen fun h1 tk1 gn1 R vs n tl hb1 F1 N1 hrows hIR => ?_)
  dsimp only
  have F1n := Fr_say (x := Str.ofString "numbers") (v := .ref D) F1 (by rw [if_neg (by decide), if_pos rfl])
  rcases hrow with e | ⟨x, y, e, x0, y0, x1, y1, exy⟩
  · rw [e] at hrows
    cases hrows
    have N1' : News h₀ L h1 ((R, listOf (List.toArray []) n) :: (I, oI) :: (M, listOf (List.toArray ms) nm) :: (D, listOf (List.toArray ws) 0) :: cellsL L oa ob om oi oc ox) := N1.perm fun p hp => by
      rcases List.mem_cons.mp hp with rfl | hp
      · exact .head _
      · exact .tail _ (List.mem_append_right _ hp)
    refine wpAny_execs_cons (mb1_nil X T hu F1 N1' hDL hMD hMI hIR hc hi hml fun h2 tk2 nm2 F2 N2 => wpAny_execs_nil ?_)
    refine h h2 tk2 gn1 _ _ nm2 hb1 (Fr_say (x := Str.ofString "numbers") (v := .ref D) F2 (by rw [if_neg (by decide), if_pos rfl])) N2 ?_
    rw [missTo_succ, if_pos (by rw [← hck]; exact e), ← hck]
    exact hI.append (.cons _ _ .nil)
  · rw [e] at hrows
    cases hrows with
    | @cons P _ _ t1 t2 _ _ hm hr0 =>
      cases hr0
      have N1' : News h₀ L h1 ((P, { cls := .type "tuple", data := .seq #[.int x t1, .int y t2] }) :: (R, listOf (List.toArray [.ref P]) n) :: (I, oI) :: (M, listOf (List.toArray ms) nm) :: (D, listOf (List.toArray ws) 0) :: cellsL L oa ob om oi oc ox) := N1.perm fun p hp => by
        rcases List.mem_cons.mp hp with rfl | hp
        · exact .tail _ (List.mem_append_left _ hm)
        · rcases List.mem_cons.mp hp with rfl | hp
          · exact .head _
          · exact .tail _ (List.mem_append_right _ hp)
      refine wpAny_execs_cons (mb1_one X T hu F1 N1' hDL hMD hMI hIR ha hb hc hi hml a1 a7 b1 b7 x1 y1 x0 y0 exy fun h2 tk2 F2 N2 => wpAny_execs_nil ?_)
      refine h h2 tk2 gn1 _ _ _ hb1 (Fr_say (x := Str.ofString "numbers") (v := .ref D) F2 (by rw [if_neg (by decide), if_pos rfl])) N2 ?_
      rw [missTo_succ, if_neg (by rw [← hck, e]; simp)]
      exact hI

theorem st_main (X : (hd.heap_39 w.params).In h₀) (T : Top hd.view_39 (looseW hd.view_39 []) mean mg mb h₀) (hr : dp + 200 < recursionLimit) (hu : un + 700 < cLine) (hbare : AllBare s.gens)
    (F : Fr h₀ L s.heap (fun y => if y = Str.ofString "numbers" then some (.ref D) else rest y))
    (N : News h₀ L s.heap ((M, listOf (List.toArray []) 0) :: (D, listOf (List.toArray ws) 0) :: cellsL L oa ob om oi oc ox)) (hDL : L + 1 + 1 + 1 + 1 + 1 + 1 < D) (hMD : D < M)
    (ha : isC oa (some (.int a ta))) (hb : isC ob (some (.int b tb))) (hm : isC om (some (.int most tm))) (hi : isC oi (some (.ref M))) (hc : isC oc v0)
    (a1 : 1 ≤ a) (a7 : a ≤ 7) (b1 : 1 ≤ b) (b7 : b ≤ 7) (hmost : -1 ≤ most) (hmost2 : most ≤ 40)
    (hrows : ∀ c, 0 ≤ c → c < most + 1 → bsl a b c = [] ∨ ∃ x y, bsl a b c = [(x, y)] ∧ 0 ≤ x ∧ 0 ≤ y ∧ x ≤ 100 ∧ y ≤ 100 ∧ a * x + b * y = c)
    (h : ∀ (h' : Heap) (tk : Nat) (gn : Array GenState) (rest' : Str → Option Value) (oc' : Obj) (v1 : Option Value) (ms : List Value) (nm : Nat), AllBare gn →
      Fr h₀ L h' (fun y => if y = Str.ofString "numbers" then some (.ref D) else rest' y) → News h₀ L h' ((M, listOf (List.toArray ms) nm) :: (D, listOf (List.toArray ws) 0) :: cellsL L oa ob om oi oc' ox) →
      isC oc' v1 → IntsAre ms (missTo a b (most + 1).toNat) → Q .next { s with heap := h', toks := tk, gens := gn }) :
    wpAny (model PySem.Challenge.rw_af0004_01.row.prog w) { handled := none, depth := dp, frames := fr, guards := gd, units := un } (exec (lawStmt 6) (lawEnv L fa cd)) Q NoE s := by
  revert X; k_fill; intro X
  conv => enter [3, 1]; whnf
  dsimp only [cellsL, isC] at *
  refine wpAny_For ?_
  k_steps
  unfold Stop
  rename IsRange _ _ _ _ _ _ _ _ => R'
  rename Fr _ _ _ _ => F'
  rename News _ _ _ _ => N'
  refine wpAny_pyIter_range R' (small_one (by omega) (by omega) (by omega) (by omega)) ?_
  rw [rangeSize_nat]
  dsimp only at R' ⊢
  rename Heap => h1
  generalize hIt : h1.objs.size = It
  have FI := F'.push { cls := .type "range_iterator", data := .fields #[rawInt 0, rawInt ((most + 1 - 0).toNat : Int), rawInt 1] }
  have NI := News.push F' N' { cls := .type "range_iterator", data := .fields #[rawInt 0, rawInt ((most + 1 - 0).toNat : Int), rawInt 1] }
  have hMI : M < It := by rw [← hIt]; exact Heap.lt_size (N'.get (.head _))
  have hLI : L < It := by omega
  rw [hIt] at NI
  have hI0 : h₀.get? It = none := (NI _ (.head _)).2.2
  rw [show (most + 1 - 0).toNat = (most + 1).toNat by rw [Int.sub_zero]] at *
  generalize hn : (most + 1).toNat = n at *
  generalize h1.push _ = H1 at FI NI ⊢
  refine codeAny_forLoop (fun k s' => ∃ i H tk gn rest1 oc1 v1 ms nm, s' = { s with heap := H, toks := tk, gens := gn } ∧ AllBare gn ∧ Fr h₀ L H (fun y => if y = Str.ofString "numbers" then some (.ref D) else rest1 y) ∧
      News h₀ L H ((It, { cls := .type "range_iterator", data := .fields #[rawInt (i : Nat), rawInt ((n : Int) - (i : Nat)), rawInt 1] }) :: (M, listOf (List.toArray ms) nm) :: (D, listOf (List.toArray ws) 0) :: cellsL L oa ob om oi oc1 ox) ∧
      oc1.data = .cell v1 ∧ IntsAre ms (missTo a b i) ∧ i ≤ n ∧ k = n + 1 - i) ?_ (n + 1) ⟨0, _, _, s.gens, rest, oc, v0, [], 0, rfl, hbare, FI, by simpa using NI, hc, .nil, Nat.zero_le _, rfl⟩
  rintro k s' ⟨i, H, tk, gn, rest1, oc1, v1, ms, nm, rfl, hb', F1, N1, hc1, hI1, hi', rfl⟩
  have hml : ms.length ≤ n := by rw [hI1.length]; exact Nat.le_trans (missTo_length a b i) hi'
  by_cases hlt : i < n
  · refine wpAny_pyNext_range_item (N1.get (.head _)) (by omega) fun h2 hit2 hs2 => ?_
    have hap : ∀ p ∈ (M, listOf (List.toArray ms) nm) :: (D, listOf (List.toArray ws) 0) :: cellsL L oa ob om oi oc1 ox, p.1 ≠ It := by
      intro p hp
      simp only [cellsL, List.mem_cons, List.not_mem_nil, or_false] at hp
      rcases hp with rfl | rfl | rfl | rfl | rfl | rfl | rfl | rfl <;> (dsimp only; first | exact Nat.ne_of_lt (by omega) | exact Nat.ne_of_gt (by omega))
    have F2 := F1.change hs2 (Nat.ne_of_gt hLI) hI0
    have N2 := N1.setHead hap hs2 hit2
    refine wpAny_assign_Name (stCN (own := [(It, _), (M, _), (D, _), (L + 1 + 1 + 1 + 1 + 1 + 1, ox)]) F2 N2 rfl hc1 ?_ ?_ fun h3 oc3 F3 N3 hc3 => ?_)
    · intro p hp
      simp only [List.mem_cons, List.not_mem_nil, or_false] at hp
      rcases hp with rfl | rfl | rfl | rfl <;> (dsimp only; first | exact Nat.ne_of_lt (by omega) | exact Nat.ne_of_gt (by omega))
    · intro p hp
      simp only [List.mem_cons, List.not_mem_nil, or_false] at hp
      rcases hp with rfl | rfl | rfl | rfl <;> (dsimp only; first | exact Nat.ne_of_lt (by omega) | exact Nat.ne_of_gt (by omega))
    · refine wpAny_mono (main_body (s := { s with heap := h3, toks := tk + 1, gens := gn }) (k := i) (tc := tk) X T hr hu hb' F3 N3 hDL hMD hMI ha hb hi hc3 a1 a7 b1 b7 rfl (by omega) (hrows i (by omega) (by omega)) hI1 (by omega)
        fun h4 tk4 gn4 rest4 ms4 nm4 hb4 F4 N4 hI4 => ?_) (fun f s5 hf => hf) fun _ _ e => e.elim
      refine ⟨n + 1 - (i + 1), by omega, i + 1, h4, tk4, gn4, rest4, oc3, _, ms4, nm4, rfl, hb4, F4, ?_, hc3, hI4, hlt, rfl⟩
      rw [show ((i + 1 : Nat) : Int) = (i : Int) + 1 by omega, show (n : Int) - ((i : Int) + 1) = (n : Int) - i - 1 by omega]
      exact N4
  · have hin : i = n := by omega
    subst hin
    refine wpAny_pyNext_range_end rfl (N1.get (.head _)) (by omega) fun h2 he2 => wpAny_execs_nil ?_
    have hap : ∀ p ∈ (M, listOf (List.toArray ms) nm) :: (D, listOf (List.toArray ws) 0) :: cellsL L oa ob om oi oc1 ox, p.1 ≠ It := by
      intro p hp
      simp only [cellsL, List.mem_cons, List.not_mem_nil, or_false] at hp
      rcases hp with rfl | rfl | rfl | rfl | rfl | rfl | rfl | rfl <;> (dsimp only; first | exact Nat.ne_of_lt (by omega) | exact Nat.ne_of_gt (by omega))
    refine h h2 tk gn rest1 oc1 v1 ms nm hb' ⟨F1.ns.extBut he2 (Nat.ne_of_lt hLI), fun b o e => he2 b o (fun q => by rw [q, hI0] at e; cases e) (F1.keep b o e), F1.above⟩ ?_ hc1 hI1
    exact fun p hp => ⟨he2 _ _ (hap p hp) (N1 p (.tail _ hp)).1, (N1 p (.tail _ hp)).2⟩
end
end Mine
end

noncomputable section
namespace Mine
section
variable {w : World} {mean : ExcName → Option Value} {mg mb : Str → Option Value} {dp un : Nat} {fr : Option (List Env)} {gd : Option (List Code)} {s : Shared} {h₀ : Heap} {L fa D M nm : Nat} {cd : Value} {rest : Str → Option Value}
    {oa ob om oi oc ox : Obj} {ws ms : List Value} {ns mi : List Int} {Q : Flow → Shared → Prop} {a b most : Int} {ta tb tm : Tok} {v0 : Option Value}

theorem foldl_none {P : Int → Prop} [DecidablePred P] : ∀ (ks : List Int), (∀ k ∈ ks, ¬ P k) → ks.foldl (fun l k => if P k then l ++ [k] else l) [] = []
  | [], _ => rfl
  | k :: ks, h => by
    rw [List.foldl_cons, if_neg (h k (.head _))]
    exact foldl_none ks fun j hj => h j (.tail _ hj)
theorem st_sym (X : (hd.heap_39 w.params).In h₀) (T : Top hd.view_39 (looseW hd.view_39 []) mean mg mb h₀) (hr : dp + 200 < recursionLimit) (hu : un + 700 < cLine)
    (F : Fr h₀ L s.heap (fun y => if y = Str.ofString "numbers" then some (.ref D) else rest y))
    (N : News h₀ L s.heap ((M, listOf (List.toArray ms) nm) :: (D, listOf (List.toArray ws) 0) :: cellsL L oa ob om oi oc ox)) (hDL : L + 1 + 1 + 1 + 1 + 1 + 1 < D) (hMD : D < M)
    (hm : isC om (some (.int most tm))) (hi : isC oi (some (.ref M))) (hI : IntsAre ms mi) (hml : mi.length ≤ 41)
    (hmost : -1 ≤ most) (hmost2 : most ≤ 40)
    (hsym : ∀ c, 0 ≤ c → c < most + 1 → ¬ ((mi.any fun x => x == c) = (mi.any fun x => x == most - c)))
    (h : ∀ (h' : Heap) (tk : Nat), Fr h₀ L h' (fun y => if y = Str.ofString "numbers" then some (.ref D) else rest y) →
      News h₀ L h' ((M, listOf (List.toArray ms) nm) :: (D, listOf (List.toArray ws) 0) :: cellsL L oa ob om oi oc ox) → Q .next { s with heap := h', toks := tk }) :
    wpAny (model PySem.Challenge.rw_af0004_01.row.prog w) { handled := none, depth := dp, frames := fr, guards := gd, units := un } (exec (lawStmt 7) (lawEnv L fa cd)) Q NoE s := by
  revert X; k_fill; intro X
  conv => enter [3, 1]; whnf
  dsimp only [cellsL, isC] at *
  k_steps
  · rename Fr _ _ _ _ => F'
    rename News _ _ _ _ => N'
    exact h _ _ F' (N'.perm fun p hp => .tail _ (.tail _ hp))
  · rename (_ = false) => hne
    rw [foldl_none (P := fun k' => (mi.any fun x => x == k') = (mi.any fun x => x == most - k')) _ fun k hk => ?_] at hne
    · exact absurd hne (by decide)
    · unfold rangeKs at hk
      obtain ⟨i, hi', rfl⟩ := List.mem_map.mp hk
      have := List.mem_range.mp hi'
      exact hsym _ (by omega) (by omega)
end
end Mine
end

noncomputable section
namespace Mine
theorem ne_same {prog : Program} {w : World} {A : Around} {E : Value → Shared → Prop} {s : Shared} {a b : Int} {t u : Tok} {Q : Value → Shared → Prop} (e : a = b) (h : Q (.bool false) s) : wpAny (model prog w) A (compareOp .NotEq (.int a t) (.int b u)) Q E s := by
  refine PyProof.Rows.ne_int ?_
  rw [show (a != b) = false by rw [e]; simp]; exact h
section
local macro_rules | `(tactic| walk_at "compareOp NotEq int int") => `(tactic| refine Mine.Stop.mk ?_)
variable {w : World} {mean : ExcName → Option Value} {mg mb : Str → Option Value} {dp un : Nat} {fr : Option (List Env)} {gd : Option (List Code)} {s : Shared} {h₀ : Heap} {L fa D M nm : Nat} {cd : Value} {rest : Str → Option Value}
    {oa ob om oi oc ox : Obj} {ws ms : List Value} {ns mi : List Int} {Q : Flow → Shared → Prop} {a b most : Int} {ta tb tm : Tok} {v0 : Option Value}


theorem st_sum (X : (hd.heap_39 w.params).In h₀) (T : Top hd.view_39 (looseW hd.view_39 []) mean mg mb h₀) (hr : dp + 200 < recursionLimit) (hu : un + 700 < cLine)
    (F : Fr h₀ L s.heap (fun y => if y = Str.ofString "numbers" then some (.ref D) else rest y))
    (N : News h₀ L s.heap ((M, listOf (List.toArray ms) nm) :: (D, listOf (List.toArray ws) 0) :: cellsL L oa ob om oi oc ox)) (hDL : L + 1 + 1 + 1 + 1 + 1 + 1 < D) (hMD : D < M)
    (ha : isC oa (some (.int a ta))) (hb : isC ob (some (.int b tb))) (hi : isC oi (some (.ref M))) (hI : IntsAre ms mi) (hml : mi.length ≤ 41) (hmv : ∀ v ∈ mi, 0 ≤ v ∧ v ≤ 40)
    (a1 : 1 ≤ a) (a7 : a ≤ 7) (b1 : 1 ≤ b) (b7 : b ≤ 7) 
    (hsum : 12 * mi.sum = (a - 1) * (b - 1) * (2 * a * b - a - b - 1))
    (h : ∀ (h' : Heap) (tk : Nat), Fr h₀ L h' (fun y => if y = Str.ofString "numbers" then some (.ref D) else rest y) →
      News h₀ L h' ((M, listOf (List.toArray ms) nm) :: (D, listOf (List.toArray ws) 0) :: cellsL L oa ob om oi oc ox) → Q .next { s with heap := h', toks := tk }) :
    wpAny (model PySem.Challenge.rw_af0004_01.row.prog w) { handled := none, depth := dp, frames := fr, guards := gd, units := un } (exec (lawStmt 8) (lawEnv L fa cd)) Q NoE s := by
  revert X; k_fill; intro X
  conv => enter [3, 1]; whnf
  dsimp only [cellsL, isC] at *
  k_steps
  unfold Stop
  refine ne_same hsum ?_
  clear hsum hmv hI hml a1 a7 b1 b7
  dsimp only
  k_steps
  exact h _ _ (by assumption) (by assumption)
end
end Mine
end

noncomputable section
namespace Mine
section
variable {w : World} {mean : ExcName → Option Value} {mg mb : Str → Option Value} {dp un : Nat} {fr : Option (List Env)} {gd : Option (List Code)} {s : Shared} {h₀ : Heap} {L fa D M nm : Nat} {cd : Value} {rest : Str → Option Value}
    {oa ob om oi oc ox : Obj} {ws ms : List Value} {ns mi : List Int} {Q : Flow → Shared → Prop} {a b most : Int} {ta tb tm : Tok} {v0 : Option Value} {U V : Int} {t1 t2 t3 t4 : Tok}

theorem st_c (X : (hd.heap_39 w.params).In h₀) (T : Top hd.view_39 (looseW hd.view_39 []) mean mg mb h₀) (hr : dp + 200 < recursionLimit) (hu : un + 700 < cLine)
    (F : Fr h₀ L s.heap (fun y => if y = Str.ofString "numbers" then some (.ref D) else rest y))
    (N : News h₀ L s.heap ((D, listOf (List.toArray ws) 0) :: cellsL L oa ob om oi oc ox)) (hDL : L + 1 + 1 + 1 + 1 + 1 + 1 < D)
    (hm : isC om (some (.int most tm))) (hc : isC oc v0) (hI : IntsAre ws ns) (hlen : ns.length = 4) (hmost : -1 ≤ most) (hmost2 : most ≤ 40)
    (h : ∀ (h' : Heap) (tk : Nat) (oc' : Obj) (t : Tok), Fr h₀ L h' (fun y => if y = Str.ofString "numbers" then some (.ref D) else rest y) → News h₀ L h' ((D, listOf (List.toArray ws) 0) :: cellsL L oa ob om oi oc' ox) →
      isC oc' (some (.int (most + 1 + Int.fmod (ns.getD 1 0) 61) t)) → Q .next { s with heap := h', toks := tk }) :
    wpAny (model PySem.Challenge.rw_af0004_01.row.prog w) { handled := none, depth := dp, frames := fr, guards := gd, units := un } (exec (lawStmt 9) (lawEnv L fa cd)) Q NoE s := by
  revert X; k_fill; intro X
  conv => enter [3, 1]; whnf
  dsimp only [cellsL, isC] at *
  k_steps
  exact h _ _ _ _ (by assumption) (by assumption) (by assumption)
end
section
local macro_rules | `(tactic| walk_at "call ref") => `(tactic| refine Mine.Stop.mk ?_)
local macro_rules | `(tactic| walk_at "call ref cons nil") => `(tactic| refine Mine.Stop.mk ?_)
variable {w : World} {mean : ExcName → Option Value} {mg mb : Str → Option Value} {dp un : Nat} {fr : Option (List Env)} {gd : Option (List Code)} {s : Shared} {h₀ : Heap} {L fa D M nm : Nat} {cd : Value} {rest : Str → Option Value}
    {oa ob om oi oc ox : Obj} {ws ms : List Value} {ns mi : List Int} {Q : Flow → Shared → Prop} {a b most : Int} {ta tb tm : Tok} {v0 : Option Value} {U V : Int} {t1 t2 t3 t4 : Tok}

theorem st_uv (X : (hd.heap_39 w.params).In h₀) (T : Top hd.view_39 (looseW hd.view_39 []) mean mg mb h₀) (hr : dp + 200 < recursionLimit) (hu : un + 700 < cLine)
    (F : Fr h₀ L s.heap (fun y => if y = Str.ofString "numbers" then some (.ref D) else rest y))
    (N : News h₀ L s.heap ((D, listOf (List.toArray ws) 0) :: cellsL L oa ob om oi oc ox)) (hDL : L + 1 + 1 + 1 + 1 + 1 + 1 < D)
    (ha : isC oa (some (.int a ta))) (hb : isC ob (some (.int b tb))) (a1 : 1 ≤ a) (a7 : a ≤ 7) (b1 : 1 ≤ b) (b7 : b ≤ 7) (hE : euc 50 a b = (U, V, 1))
    (h : ∀ (h' : Heap) (tk : Nat) (t1 t2 t3 : Tok), Fr h₀ L h' (fun y => if y = Str.ofString "one" then some (.int 1 t3) else if y = Str.ofString "v" then some (.int V t2) else if y = Str.ofString "u" then some (.int U t1) else if y = Str.ofString "numbers" then some (.ref D) else rest y) → News h₀ L h' ((D, listOf (List.toArray ws) 0) :: cellsL L oa ob om oi oc ox) → Q .next { s with heap := h', toks := tk }) :
    wpAny (model PySem.Challenge.rw_af0004_01.row.prog w) { handled := none, depth := dp, frames := fr, guards := gd, units := un } (exec (lawStmt 10) (lawEnv L fa cd)) Q NoE s := by
  revert X; k_fill; intro X
  conv => enter [3, 1]; whnf
  dsimp only [cellsL, isC] at *
  k_steps
  unfold Stop
  refine ee_spec 50 rfl (by dsimp only; omega) (by dsimp only; omega) (by omega) (by omega) (by omega) (by omega) (fun x o e => F.keep x o (X x o e)) (T.keeps F.keep) fun P t3 t4 t5 h3 tk3 k3 hn3 ho3 => ?_
  have F4 := F.kept k3
  have N4 := News_add F N k3 hn3 ho3
  rw [hE] at N4
  clear F N ho3
  dsimp only at F4 N4 ⊢
  k_steps
  rename Fr _ _ _ _ => F'
  rename News _ _ _ _ => N'
  exact h _ _ _ _ _ F' (N'.perm fun p hp => .tail _ hp)
end
end Mine
end

noncomputable section
namespace Mine
section
local macro_rules | `(tactic| walk_at "compareOp NotEq int int") => `(tactic| refine Mine.Stop.mk ?_)
variable {w : World} {mean : ExcName → Option Value} {mg mb : Str → Option Value} {dp un : Nat} {fr : Option (List Env)} {gd : Option (List Code)} {s : Shared} {h₀ : Heap} {L fa D M nm : Nat} {cd : Value} {rest : Str → Option Value}
    {oa ob om oi oc ox : Obj} {ws ms : List Value} {ns mi : List Int} {Q : Flow → Shared → Prop} {a b most : Int} {ta tb tm : Tok} {v0 : Option Value} {U V more x y many : Int} {t1 t2 t3 t4 t5 t6 t7 tc tx : Tok}

theorem st_one (X : (hd.heap_39 w.params).In h₀) (T : Top hd.view_39 (looseW hd.view_39 []) mean mg mb h₀) (hr : dp + 200 < recursionLimit) (hu : un + 700 < cLine)
    (F : Fr h₀ L s.heap (fun y => if y = Str.ofString "one" then some (.int 1 t3) else if y = Str.ofString "v" then some (.int V t2) else if y = Str.ofString "u" then some (.int U t1) else if y = Str.ofString "numbers" then some (.ref D) else rest y))
    (N : News h₀ L s.heap ((D, listOf (List.toArray ws) 0) :: cellsL L oa ob om oi oc ox)) (hDL : L + 1 + 1 + 1 + 1 + 1 + 1 < D)
    (ha : isC oa (some (.int a ta))) (hb : isC ob (some (.int b tb))) (a1 : 1 ≤ a) (a7 : a ≤ 7) (b1 : 1 ≤ b) (b7 : b ≤ 7) (hu1 : U.natAbs ≤ 40) (hv1 : V.natAbs ≤ 40) (hE : a * U + b * V = 1)
    (h : ∀ (h' : Heap) (tk : Nat), Fr h₀ L h' (fun y => if y = Str.ofString "one" then some (.int 1 t3) else if y = Str.ofString "v" then some (.int V t2) else if y = Str.ofString "u" then some (.int U t1) else if y = Str.ofString "numbers" then some (.ref D) else rest y) → News h₀ L h' ((D, listOf (List.toArray ws) 0) :: cellsL L oa ob om oi oc ox) → Q .next { s with heap := h', toks := tk }) :
    wpAny (model PySem.Challenge.rw_af0004_01.row.prog w) { handled := none, depth := dp, frames := fr, guards := gd, units := un } (exec (lawStmt 11) (lawEnv L fa cd)) Q NoE s := by
  revert X; k_fill; intro X
  conv => enter [3, 1]; whnf
  dsimp only [cellsL, isC] at *
  k_steps
  unfold Stop
  refine ne_same rfl ?_
  k_steps
  unfold Stop
  refine ne_same hE ?_
  clear hE
  dsimp only
  k_steps
  exact h _ _ (by assumption) (by assumption)
end
section
variable {w : World} {mean : ExcName → Option Value} {mg mb : Str → Option Value} {dp un : Nat} {fr : Option (List Env)} {gd : Option (List Code)} {s : Shared} {h₀ : Heap} {L fa D M nm : Nat} {cd : Value} {rest : Str → Option Value}
    {oa ob om oi oc ox : Obj} {ws ms : List Value} {ns mi : List Int} {Q : Flow → Shared → Prop} {a b most : Int} {ta tb tm : Tok} {v0 : Option Value} {U V more x y many : Int} {t1 t2 t3 t4 t5 t6 t7 tc tx : Tok}

theorem st_more (X : (hd.heap_39 w.params).In h₀) (T : Top hd.view_39 (looseW hd.view_39 []) mean mg mb h₀) (hr : dp + 200 < recursionLimit) (hu : un + 700 < cLine)
    (F : Fr h₀ L s.heap (fun y => if y = Str.ofString "one" then some (.int 1 t3) else if y = Str.ofString "v" then some (.int V t2) else if y = Str.ofString "u" then some (.int U t1) else if y = Str.ofString "numbers" then some (.ref D) else rest y))
    (N : News h₀ L s.heap ((D, listOf (List.toArray ws) 0) :: cellsL L oa ob om oi oc ox)) (hDL : L + 1 + 1 + 1 + 1 + 1 + 1 < D) (hI : IntsAre ws ns) (hlen : ns.length = 4)
    (h : ∀ (h' : Heap) (tk : Nat) (t4 : Tok), Fr h₀ L h' (fun y => if y = Str.ofString "more" then some (.int (2 + Int.fmod (ns.getD 2 0) 4) t4) else if y = Str.ofString "one" then some (.int 1 t3) else if y = Str.ofString "v" then some (.int V t2) else if y = Str.ofString "u" then some (.int U t1) else if y = Str.ofString "numbers" then some (.ref D) else rest y) → News h₀ L h' ((D, listOf (List.toArray ws) 0) :: cellsL L oa ob om oi oc ox) → Q .next { s with heap := h', toks := tk }) :
    wpAny (model PySem.Challenge.rw_af0004_01.row.prog w) { handled := none, depth := dp, frames := fr, guards := gd, units := un } (exec (lawStmt 12) (lawEnv L fa cd)) Q NoE s := by
  revert X; k_fill; intro X
  conv => enter [3, 1]; whnf
  dsimp only [cellsL, isC] at *
  k_steps
  exact h _ _ _ (by assumption) (by assumption)
end
section
local macro_rules | `(tactic| walk_at "call ref") => `(tactic| refine Mine.Stop.mk ?_)
local macro_rules | `(tactic| walk_at "call ref cons nil") => `(tactic| refine Mine.Stop.mk ?_)
variable {w : World} {mean : ExcName → Option Value} {mg mb : Str → Option Value} {dp un : Nat} {fr : Option (List Env)} {gd : Option (List Code)} {s : Shared} {h₀ : Heap} {L fa D M nm : Nat} {cd : Value} {rest : Str → Option Value}
    {oa ob om oi oc ox : Obj} {ws ms : List Value} {ns mi : List Int} {Q : Flow → Shared → Prop} {a b most : Int} {ta tb tm : Tok} {v0 : Option Value} {U V more x y many : Int} {t1 t2 t3 t4 t5 t6 t7 tc tx : Tok}

theorem st_ee2 (X : (hd.heap_39 w.params).In h₀) (T : Top hd.view_39 (looseW hd.view_39 []) mean mg mb h₀) (hr : dp + 200 < recursionLimit) (hu : un + 700 < cLine)
    (F : Fr h₀ L s.heap (fun y => if y = Str.ofString "more" then some (.int more t4) else if y = Str.ofString "one" then some (.int 1 t3) else if y = Str.ofString "v" then some (.int V t2) else if y = Str.ofString "u" then some (.int U t1) else if y = Str.ofString "numbers" then some (.ref D) else rest y))
    (N : News h₀ L s.heap ((D, listOf (List.toArray ws) 0) :: cellsL L oa ob om oi oc ox)) (hDL : L + 1 + 1 + 1 + 1 + 1 + 1 < D)
    (ha : isC oa (some (.int a ta))) (hb : isC ob (some (.int b tb))) (a1 : 1 ≤ a) (a7 : a ≤ 7) (b1 : 1 ≤ b) (b7 : b ≤ 7) (m2 : 2 ≤ more) (m5 : more ≤ 5) (hE : euc 50 (more * a) (more * b) = (U, V, more)) (hu1 : U.natAbs ≤ 40) (hv1 : V.natAbs ≤ 40)
    (h : ∀ (h' : Heap) (tk : Nat), Fr h₀ L h' (fun y => if y = Str.ofString "more" then some (.int more t4) else if y = Str.ofString "one" then some (.int 1 t3) else if y = Str.ofString "v" then some (.int V t2) else if y = Str.ofString "u" then some (.int U t1) else if y = Str.ofString "numbers" then some (.ref D) else rest y) → News h₀ L h' ((D, listOf (List.toArray ws) 0) :: cellsL L oa ob om oi oc ox) → Q .next { s with heap := h', toks := tk }) :
    wpAny (model PySem.Challenge.rw_af0004_01.row.prog w) { handled := none, depth := dp, frames := fr, guards := gd, units := un } (exec (lawStmt 13) (lawEnv L fa cd)) Q NoE s := by
  revert X; k_fill; intro X
  conv => enter [3, 1]; whnf
  dsimp only [cellsL, isC] at *
  k_steps
  unfold Stop
  have p1 : 0 ≤ more * a := Int.mul_nonneg (by omega) (by omega)
  have p2 : 0 ≤ more * b := Int.mul_nonneg (by omega) (by omega)
  have p3 : more * a ≤ 5 * 7 := Int.mul_le_mul m5 a7 (by omega) (by omega)
  have p4 : more * b ≤ 5 * 7 := Int.mul_le_mul m5 b7 (by omega) (by omega)
  refine ee_spec 50 rfl (by dsimp only; omega) (by dsimp only; omega) p1 (by omega) p2 (by omega) (fun x o e => F.keep x o (X x o e)) (T.keeps F.keep) fun P t3 t4 t5 h3 tk3 k3 hn3 ho3 => ?_
  have F4 := F.kept k3
  have N4 := News_add F N k3 hn3 ho3
  rw [hE] at N4
  clear F N ho3 p1 p2 p3 p4 hE
  dsimp only at F4 N4 ⊢
  k_steps
  rename Fr _ _ _ _ => F'
  rename News _ _ _ _ => N'
  exact h _ _ F' (N'.perm fun p hp => .tail _ (.tail _ hp))
end
end Mine
end

noncomputable section
namespace Mine
section
variable {w : World} {mean : ExcName → Option Value} {mg mb : Str → Option Value} {dp un : Nat} {fr : Option (List Env)} {gd : Option (List Code)} {s : Shared} {h₀ : Heap} {L fa D M nm : Nat} {cd : Value} {rest : Str → Option Value}
    {oa ob om oi oc ox : Obj} {ws ms : List Value} {ns mi : List Int} {Q : Flow → Shared → Prop} {a b most : Int} {ta tb tm : Tok} {v0 : Option Value} {U V more x y many : Int} {t1 t2 t3 t4 t5 t6 t7 tc tx : Tok}

theorem st_x {c : Int} (X : (hd.heap_39 w.params).In h₀) (T : Top hd.view_39 (looseW hd.view_39 []) mean mg mb h₀) (hr : dp + 200 < recursionLimit) (hu : un + 700 < cLine)
    (F : Fr h₀ L s.heap (fun y => if y = Str.ofString "more" then some (.int more t4) else if y = Str.ofString "one" then some (.int 1 t3) else if y = Str.ofString "v" then some (.int V t2) else if y = Str.ofString "u" then some (.int U t1) else if y = Str.ofString "numbers" then some (.ref D) else rest y))
    (N : News h₀ L s.heap ((D, listOf (List.toArray ws) 0) :: cellsL L oa ob om oi oc ox)) (hDL : L + 1 + 1 + 1 + 1 + 1 + 1 < D)
    (ha : isC oa (some (.int a ta))) (hb : isC ob (some (.int b tb))) (a1 : 1 ≤ a) (a7 : a ≤ 7) (b1 : 1 ≤ b) (b7 : b ≤ 7) (hc : isC oc (some (.int c tc))) (c0 : 0 ≤ c) (c1 : c ≤ 100) (hx : isC ox v0) (hu1 : U.natAbs ≤ 40) (hv1 : V.natAbs ≤ 40)
    (h : ∀ (h' : Heap) (tk : Nat) (ox' : Obj) (t : Tok), Fr h₀ L h' (fun y => if y = Str.ofString "more" then some (.int more t4) else if y = Str.ofString "one" then some (.int 1 t3) else if y = Str.ofString "v" then some (.int V t2) else if y = Str.ofString "u" then some (.int U t1) else if y = Str.ofString "numbers" then some (.ref D) else rest y) → News h₀ L h' ((D, listOf (List.toArray ws) 0) :: cellsL L oa ob om oi oc ox') → isC ox' (some (.int (Int.fmod (U * c) b) t)) → Q .next { s with heap := h', toks := tk }) :
    wpAny (model PySem.Challenge.rw_af0004_01.row.prog w) { handled := none, depth := dp, frames := fr, guards := gd, units := un } (exec (lawStmt 14) (lawEnv L fa cd)) Q NoE s := by
  revert X; k_fill; intro X
  conv => enter [3, 1]; whnf
  dsimp only [cellsL, isC] at *
  k_steps
  exact h _ _ _ _ (by assumption) (by assumption) (by assumption)

theorem st_y {c : Int} (X : (hd.heap_39 w.params).In h₀) (T : Top hd.view_39 (looseW hd.view_39 []) mean mg mb h₀) (hr : dp + 200 < recursionLimit) (hu : un + 700 < cLine)
    (F : Fr h₀ L s.heap (fun y => if y = Str.ofString "more" then some (.int more t4) else if y = Str.ofString "one" then some (.int 1 t3) else if y = Str.ofString "v" then some (.int V t2) else if y = Str.ofString "u" then some (.int U t1) else if y = Str.ofString "numbers" then some (.ref D) else rest y))
    (N : News h₀ L s.heap ((D, listOf (List.toArray ws) 0) :: cellsL L oa ob om oi oc ox)) (hDL : L + 1 + 1 + 1 + 1 + 1 + 1 < D)
    (ha : isC oa (some (.int a ta))) (hb : isC ob (some (.int b tb))) (a1 : 1 ≤ a) (a7 : a ≤ 7) (b1 : 1 ≤ b) (b7 : b ≤ 7) (hc : isC oc (some (.int c tc))) (c0 : 0 ≤ c) (c1 : c ≤ 100) (hu1 : U.natAbs ≤ 40) (hv1 : V.natAbs ≤ 40)
    (h : ∀ (h' : Heap) (tk : Nat) (t5 : Tok), Fr h₀ L h' (fun z => if z = Str.ofString "y" then some (.int (Int.fmod (V * c) a) t5) else if z = Str.ofString "more" then some (.int more t4) else if z = Str.ofString "one" then some (.int 1 t3) else if z = Str.ofString "v" then some (.int V t2) else if z = Str.ofString "u" then some (.int U t1) else if z = Str.ofString "numbers" then some (.ref D) else rest z) → News h₀ L h' ((D, listOf (List.toArray ws) 0) :: cellsL L oa ob om oi oc ox) → Q .next { s with heap := h', toks := tk }) :
    wpAny (model PySem.Challenge.rw_af0004_01.row.prog w) { handled := none, depth := dp, frames := fr, guards := gd, units := un } (exec (lawStmt 15) (lawEnv L fa cd)) Q NoE s := by
  revert X; k_fill; intro X
  conv => enter [3, 1]; whnf
  dsimp only [cellsL, isC] at *
  k_steps
  exact h _ _ _ (by assumption) (by assumption)

theorem st_many {c : Int} (X : (hd.heap_39 w.params).In h₀) (T : Top hd.view_39 (looseW hd.view_39 []) mean mg mb h₀) (hr : dp + 200 < recursionLimit) (hu : un + 700 < cLine)
    (F : Fr h₀ L s.heap (fun z => if z = Str.ofString "y" then some (.int y t5) else if z = Str.ofString "more" then some (.int more t4) else if z = Str.ofString "one" then some (.int 1 t3) else if z = Str.ofString "v" then some (.int V t2) else if z = Str.ofString "u" then some (.int U t1) else if z = Str.ofString "numbers" then some (.ref D) else rest z))
    (N : News h₀ L s.heap ((D, listOf (List.toArray ws) 0) :: cellsL L oa ob om oi oc ox)) (hDL : L + 1 + 1 + 1 + 1 + 1 + 1 < D)
    (ha : isC oa (some (.int a ta))) (hb : isC ob (some (.int b tb))) (a1 : 1 ≤ a) (a7 : a ≤ 7) (b1 : 1 ≤ b) (b7 : b ≤ 7) (hc : isC oc (some (.int c tc))) (c0 : 0 ≤ c) (c1 : c ≤ 100) (hx : isC ox (some (.int x tx))) (x0 : 0 ≤ x) (x1 : x ≤ 7) (y0 : 0 ≤ y) (y1 : y ≤ 7)
    (h : ∀ (h' : Heap) (tk : Nat) (t6 : Tok), Fr h₀ L h' (fun z => if z = Str.ofString "many" then some (.int (Int.fdiv (c - a * x - b * y) (a * b) + 1) t6) else if z = Str.ofString "y" then some (.int y t5) else if z = Str.ofString "more" then some (.int more t4) else if z = Str.ofString "one" then some (.int 1 t3) else if z = Str.ofString "v" then some (.int V t2) else if z = Str.ofString "u" then some (.int U t1) else if z = Str.ofString "numbers" then some (.ref D) else rest z) → News h₀ L h' ((D, listOf (List.toArray ws) 0) :: cellsL L oa ob om oi oc ox) → Q .next { s with heap := h', toks := tk }) :
    wpAny (model PySem.Challenge.rw_af0004_01.row.prog w) { handled := none, depth := dp, frames := fr, guards := gd, units := un } (exec (lawStmt 16) (lawEnv L fa cd)) Q NoE s := by
  revert X; k_fill; intro X
  conv => enter [3, 1]; whnf
  dsimp only [cellsL, isC] at *
  have hab : 0 < a * b := Int.mul_pos (by omega) (by omega)
  have hab2 : a * b ≤ 7 * 7 := Int.mul_le_mul a7 b7 (by omega) (by omega)
  have hab3 : a * b ≠ 0 := by omega
  k_steps
  exact h _ _ _ (by assumption) (by assumption)
end
end Mine
end

noncomputable section
namespace Mine
section
variable {prog : Program} {w : World} {A : Around} {h₀ : Heap} {L : Addr} {m : Str → Option Value} {env : Env} {elt : Expr} {x : Str} {scope : Scope} {cl : List (Str × Addr)} {s : Shared} {P : Nat → Value → Prop} {Fin : List Value → List (Addr × Obj) → Prop} {news : List (Addr × Obj)}
/-- a comprehension whose elements are pairs of ints -/
theorem rows_rest {n : Nat} {ks : List Int} (g : Int → Int × Int) (hks : ks.length = n) (hP : ∀ i v, i < n → P i v → ∃ k t, ks[i]? = some k ∧ v = .int k t)
    (turn : ∀ tl k t I oI C oC D m₂ ys h tk (E' : Value → Shared → Prop), k ∈ ks → LCg.NsObj oC m₂ → m₂ x = some (.int k t) → Fr h₀ L h m → News h₀ L h ((I, oI) :: (C, oC) :: (D, LCg.lst ys) :: (news ++ tl)) → LCg.Off3 I C D (news ++ tl) → ((@Ne Nat I C) ∧ (@Ne Nat I D) ∧ (@Ne Nat C D)) →
      wpAny (model prog w) A (eval elt (compEnvC scope cl C env)) (LCg.CompEnd h₀ L m { s with heap := h, toks := tk } I oI C oC D (LCg.lst ys) (fun _ => True)
        (fun y news' => ∃ T t1 t2, news' = news ++ ((T, ({ cls := .type "tuple", data := .seq #[.int (g k).1 t1, .int (g k).2 t2] } : Obj)) :: tl) ∧ y = .ref T)) E' { s with heap := h, toks := tk })
    (fin : ∀ ys tl, RowsIn tl ys (ks.map g) → Fin ys (news ++ tl)) : LCg.CompRest prog w A h₀ L m env elt x scope cl s (fun _ => True) P Fin n 0 [] news := by
  have key : ∀ (j i : Nat) (ys : List Value) (tl : List (Addr × Obj)), i + j = n → RowsIn tl ys ((ks.take i).map g) → LCg.CompRest prog w A h₀ L m env elt x scope cl s (fun _ => True) P Fin j i ys (news ++ tl) := by
    intro j
    induction j with
    | zero =>
      intro i ys tl hi hy
      have e : i = ks.length := by omega
      subst e
      rw [List.take_length] at hy
      exact LCg.CompRest.zero (fin ys tl hy)
    | succ j ih =>
      intro i ys tl hi hy
      refine LCg.CompRest.succ ?_
      intro v I oI C oC D m₂ h tk E' hv hC hx F N off ne
      obtain ⟨k, t, hk, hv'⟩ := hP i v (by omega) hv
      rw [hv'] at hx
      refine wpAny_mono (turn tl k t I oI C oC D m₂ ys h tk E' (List.mem_of_getElem? hk) hC hx F N off ne) (fun y s₂ hq => ?_) fun _ _ e => e
      obtain ⟨h', tk', nw, e, F', N', off', hS, T, t1, t2, hn, hy'⟩ := hq
      subst hn; subst hy'
      refine ⟨h', tk', _, e, F', N', off', hS, ?_⟩
      refine ih (i + 1) _ _ (by omega) ?_
      rw [List.take_add_one, hk, Option.toList_some, List.map_append, List.map_cons, List.map_nil]
      exact (hy.mono fun p hp => .tail _ hp).snoc (.head _)
  have := key n 0 [] [] (by omega) (by simp only [List.take_zero, List.map_nil]; exact .nil)
  rwa [List.append_nil] at this
end
section
local macro_rules | `(tactic| walk_at "CompSrc") => `(tactic| refine Mine.Stop.mk ?_)
local macro_rules | `(tactic| walk_at "FinA") => `(tactic| refine Mine.Stop.mk ?_)
variable {w : World} {mean : ExcName → Option Value} {mg mb : Str → Option Value} {dp un : Nat} {fr : Option (List Env)} {gd : Option (List Code)} {s : Shared} {h₀ : Heap} {L fa D M nm : Nat} {cd : Value} {rest : Str → Option Value}
    {oa ob om oi oc ox : Obj} {ws ms : List Value} {ns mi : List Int} {Q : Flow → Shared → Prop} {a b most : Int} {ta tb tm : Tok} {v0 : Option Value} {U V more x y many : Int} {t1 t2 t3 t4 t5 t6 t7 tc tx : Tok}

def dueOf (a b c x many : Int) : List (Int × Int) := (rangeKs 0 many.toNat).map fun k => (x + k * b, Int.fdiv (c - a * x) b - k * a)
theorem st_due {c : Int} (X : (hd.heap_39 w.params).In h₀) (T : Top hd.view_39 (looseW hd.view_39 []) mean mg mb h₀) (hr : dp + 200 < recursionLimit) (hu : un + 700 < cLine)
    (F : Fr h₀ L s.heap (fun z => if z = Str.ofString "many" then some (.int many t6) else if z = Str.ofString "y" then some (.int y t5) else if z = Str.ofString "more" then some (.int more t4) else if z = Str.ofString "one" then some (.int 1 t3) else if z = Str.ofString "v" then some (.int V t2) else if z = Str.ofString "u" then some (.int U t1) else if z = Str.ofString "numbers" then some (.ref D) else rest z))
    (N : News h₀ L s.heap ((D, listOf (List.toArray ws) 0) :: cellsL L oa ob om oi oc ox)) (hDL : L + 1 + 1 + 1 + 1 + 1 + 1 < D)
    (ha : isC oa (some (.int a ta))) (hb : isC ob (some (.int b tb))) (a1 : 1 ≤ a) (a7 : a ≤ 7) (b1 : 1 ≤ b) (b7 : b ≤ 7) (hc : isC oc (some (.int c tc))) (c0 : 0 ≤ c) (c1 : c ≤ 100) (hx : isC ox (some (.int x tx))) (x0 : 0 ≤ x) (x1 : x ≤ 7) (m1 : 1 ≤ many) (m2 : many ≤ 100)
    (h : ∀ (h' : Heap) (tk : Nat) (R n : Nat) (vs : List Value) (tl : List (Addr × Obj)), Fr h₀ L h' (fun z => if z = Str.ofString "due" then some (.ref R) else if z = Str.ofString "many" then some (.int many t6) else if z = Str.ofString "y" then some (.int y t5) else if z = Str.ofString "more" then some (.int more t4) else if z = Str.ofString "one" then some (.int 1 t3) else if z = Str.ofString "v" then some (.int V t2) else if z = Str.ofString "u" then some (.int U t1) else if z = Str.ofString "numbers" then some (.ref D) else rest z) →
      News h₀ L h' ((R, listOf (List.toArray vs) n) :: ((D, listOf (List.toArray ws) 0) :: cellsL L oa ob om oi oc ox ++ tl)) → RowsIn tl vs (dueOf a b c x many) → Q .next { s with heap := h', toks := tk }) :
    wpAny (model PySem.Challenge.rw_af0004_01.row.prog w) { handled := none, depth := dp, frames := fr, guards := gd, units := un } (exec (lawStmt 17) (lawEnv L fa cd)) Q NoE s := by
  revert X; k_fill; intro X
  conv => enter [3, 1]; whnf
  dsimp only [cellsL, isC] at *
  refine LCg.Assign_ListComp_U (F₀ := F) rfl (by with_unfolding_all rfl) (by with_unfolding_all rfl) (by decide) rfl (by decide) rfl rfl rfl ?_
  k_steps
  unfold Stop
  rename IsRange _ _ _ _ _ _ _ _ => R'
  rename Fr _ _ _ _ => F'
  rename News _ _ _ _ => N'
  refine LCg.CompSrc.range rfl F' N' R' (small_one (by omega) (by omega) (by omega) (by omega)) (rangeSize_nat _ _) (by rw [sizeLine_eq]; omega) fun g => ?_
  clear R' F' N'
  refine rows_rest (fun k => (x + k * b, Int.fdiv (c - a * x) b - k * a)) (ks := rangeKs 0 (many - 0).toNat) (rangeKs_length 0 _) (fun i v hi hv => ?_) ?_ ?_
  · obtain ⟨t, e⟩ := hv
    exact ⟨0 + (i : Int), t, by rw [rangeKs, List.getElem?_map, List.getElem?_range hi]; rfl, e⟩
  · intro tl k t I oI C oC D' m₂ ys h5 tk5 E' hk hC hx' F5 N5 off5 ne5
    obtain ⟨k0, k1⟩ := mem_rangeKs hk
    have k2 : k ≤ 100 := by omega
    clear hk k1
    simp only [List.cons_append, List.nil_append] at N5 off5 ⊢
    simp only [LCg.Off3] at off5
    k_steps
    rename Fr _ _ _ _ => F'
    rename News _ _ _ _ => N'
    rename (I < _ ∧ _) => l1
    obtain ⟨q1, q2, q3, q4⟩ := l1
    obtain ⟨p1, p2, p3, p4, p5, p6, p7, p8⟩ := off5
    rename_i T1 h6
    refine LCg.CompEnd.intro F' N' (([(D, listOf (List.toArray ws) 0), (L + 1 + 1 + 1 + 1 + 1 + 1, ox), (L + 1 + 1 + 1 + 1 + 1, oc), (L + 1 + 1 + 1 + 1, oi), (L + 1 + 1 + 1, om), (L + 1 + 1, ob), (L + 1, oa)] : List (Addr × Obj)) ++ ((T1, { cls := .type "tuple", data := .seq #[.int (x + k * b) (tk5 + 1), .int (Int.fdiv (c - a * x) b - k * a) (tk5 + 1 + 1 + 1 + 1 + 1 + 1)] }) :: tl)) ?_ ?_ trivial ⟨_, _, _, rfl, rfl⟩
    · kcf_all
    · exact ⟨p1, p2, p3, p4, p5, p6, p7, ⟨Nat.ne_of_gt q1, Nat.ne_of_gt q2, Nat.ne_of_gt q3⟩, p8⟩
  · intro ys tl hy
    rw [Int.sub_zero] at hy
    unfold LCg.FinA
    intro R h7 tk7 F7 N7 off7
    exact h _ _ R _ ys tl F7 N7 hy
end
end Mine
end

noncomputable section
namespace Mine
def datOf (p : Int × Int) : Dat := .tuple [.int p.1, .int p.2]
theorem RowsIn.dats {tl : List (Addr × Obj)} : ∀ {vs : List Value} {rs : List (Int × Int)}, RowsIn tl vs rs → DatAll tl vs (rs.map datOf)
  | _, _, .nil => .nil
  | _, _, .cons (x := x) (y := y) (t1 := t1) (t2 := t2) hm r => .cons (.tuple (vs := [.int x t1, .int y t2]) hm (.cons (.int _ _) (.cons (.int _ _) .nil))) (RowsIn.dats r)
theorem dats_ok (rs : List (Int × Int)) : ∀ d ∈ rs.map datOf, kqdOk 8 d = true := by
  intro d hd
  obtain ⟨p, _, rfl⟩ := List.mem_map.mp hd
  rfl
section
variable {prog : Program} {w : World} {A : Around} {E : Value → Shared → Prop} {s : Shared} {h₀ : Heap} {L a b : Addr} {news : List (Addr × Obj)} {xs ys : List Value} {ka kb : Nat} {ds es : List (Int × Int)} {Q : Value → Shared → Prop}
/-- two lists of rows that are alike are not unequal -/
theorem ne_rows (N : News h₀ L s.heap news) (ma : (a, listOf xs.toArray ka) ∈ news) (Da : RowsIn news xs ds) (mb : (b, listOf ys.toArray kb) ∈ news) (Db : RowsIn news ys es) (hu : A.units + 64 < cLine) (e : ds = es) (h : Q (.bool false) s) :
    wpAny (model prog w) A (compareOp .NotEq (.ref a) (.ref b)) Q E s := by
  refine kqd_ne N ma rfl rfl Da.dats (fun _ h => h) mb rfl rfl Db.dats (fun _ h => h) (dats_ok _) (dats_ok _) hu ?_
  subst e; simpa using h
end
section
local macro_rules | `(tactic| walk_at "call ref") => `(tactic| refine Mine.Stop.mk ?_)
local macro_rules | `(tactic| walk_at "call ref cons nil") => `(tactic| refine Mine.Stop.mk ?_)
local macro_rules | `(tactic| walk_at "call builtin:sorted") => `(tactic| refine Mine.Stop.mk ?_)
local macro_rules | `(tactic| walk_at "compareOp NotEq ref ref") => `(tactic| refine Mine.Stop.mk ?_)
variable {w : World} {mean : ExcName → Option Value} {mg mb : Str → Option Value} {dp un : Nat} {fr : Option (List Env)} {gd : Option (List Code)} {s : Shared} {h₀ : Heap} {L fa D M nm : Nat} {cd : Value} {rest : Str → Option Value}
    {oa ob om oi oc ox : Obj} {ws ms : List Value} {ns mi : List Int} {R n : Nat} {vs : List Value} {tl : List (Addr × Obj)} {due : List (Int × Int)} {Q : Flow → Shared → Prop} {a b most : Int} {ta tb tm : Tok} {v0 : Option Value} {U V more x y many : Int} {t1 t2 t3 t4 t5 t6 t7 tc tx : Tok}

theorem st_s1 {c : Int} (X : (hd.heap_39 w.params).In h₀) (T : Top hd.view_39 (looseW hd.view_39 []) mean mg mb h₀) (hr : dp + 200 < recursionLimit) (hu : un + 700 < cLine)
    (hbare : AllBare s.gens) (F : Fr h₀ L s.heap (fun z => if z = Str.ofString "due" then some (.ref R) else if z = Str.ofString "many" then some (.int many t6) else if z = Str.ofString "more" then some (.int more t4) else if z = Str.ofString "numbers" then some (.ref D) else rest z))
    (N : News h₀ L s.heap ((R, listOf (List.toArray vs) n) :: ((D, listOf (List.toArray ws) 0) :: cellsL L oa ob om oi oc ox ++ tl))) (hDL : L + 1 + 1 + 1 + 1 + 1 + 1 < D) (hR : RowsIn tl vs due)
    (ha : isC oa (some (.int a ta))) (hb : isC ob (some (.int b tb))) (a1 : 1 ≤ a) (a7 : a ≤ 7) (b1 : 1 ≤ b) (b7 : b ≤ 7) (hc : isC oc (some (.int c tc))) (c0 : 0 ≤ c) (c1 : c ≤ 100) (m1 : 1 ≤ many) (hlen : (bsl a b c).length < 64) (hm : Mono (bsl a b c) due)
    (h : ∀ (h' : Heap) (tk : Nat) (gn : Array GenState), AllBare gn → Fr h₀ L h' (fun z => if z = Str.ofString "due" then some (.ref R) else if z = Str.ofString "many" then some (.int many t6) else if z = Str.ofString "more" then some (.int more t4) else if z = Str.ofString "numbers" then some (.ref D) else rest z) → News h₀ L h' ((R, listOf (List.toArray vs) n) :: ((D, listOf (List.toArray ws) 0) :: cellsL L oa ob om oi oc ox ++ tl)) → Q .next { s with heap := h', toks := tk, gens := gn }) :
    wpAny (model PySem.Challenge.rw_af0004_01.row.prog w) { handled := none, depth := dp, frames := fr, guards := gd, units := un } (exec (lawStmt 18) (lawEnv L fa cd)) Q NoE s := by
  revert X; k_fill; intro X
  conv => enter [3, 1]; whnf
  dsimp only [cellsL, isC] at *
  k_steps
  unfold Stop
  refine gen_call (by dsimp only; omega) a1 (by omega) b1 (by omega) c0 (by omega) (fun x o e => F.keep x o (X x o e)) (T.keeps F.keep) fun G g C h' tk gs hb k hG hC hGC hg hga => ?_
  have hf : Fresh w G g C _ (bsl a b c) _ := ⟨hga, AllBare.push hbare hb, T.nolimit.keeps F.keep, hC, hG, hGC⟩
  k_steps
  unfold Stop
  refine sorted_gen F N hf rfl (by dsimp only; omega) (by dsimp only; omega) hlen hm fun S h2 tk2 gn2 n2 vs2 tl2 F2 N2 hR2 hb2 => ?_
  clear F hf hga k hG hC hg
  k_steps
  unfold Stop
  refine ne_rows N2 (.head _) (hR2.mono fun p hp => .tail _ hp) (.tail _ (List.mem_append_right _ (.head _))) (hR.mono fun p hp => .tail _ (List.mem_append_right _ (.tail _ (List.mem_append_right _ hp)))) (by dsimp only; omega) rfl ?_
  clear N
  have N4 := News.perm (news' := ((R, listOf (List.toArray vs) n) :: ((D, listOf (List.toArray ws) 0) :: cellsL L oa ob om oi oc ox ++ tl))) N2 fun p hp => .tail _ (List.mem_append_right _ hp)
  clear N2
  k_steps
  exact h _ _ _ hb2 (by assumption) N4
end
end Mine
end

noncomputable section
namespace Mine
section
local macro_rules | `(tactic| walk_at "call ref") => `(tactic| refine Mine.Stop.mk ?_)
local macro_rules | `(tactic| walk_at "call ref cons nil") => `(tactic| refine Mine.Stop.mk ?_)
local macro_rules | `(tactic| walk_at "call builtin:sorted") => `(tactic| refine Mine.Stop.mk ?_)
local macro_rules | `(tactic| walk_at "compareOp NotEq ref ref") => `(tactic| refine Mine.Stop.mk ?_)
local macro_rules | `(tactic| walk_at "eval ListComp") => `(tactic| refine Mine.Stop.mk ?_)
variable {w : World} {mean : ExcName → Option Value} {mg mb : Str → Option Value} {dp un : Nat} {fr : Option (List Env)} {gd : Option (List Code)} {s : Shared} {h₀ : Heap} {L fa D M nm : Nat} {cd : Value} {rest : Str → Option Value}
    {oa ob om oi oc ox : Obj} {ws ms : List Value} {ns mi : List Int} {R n : Nat} {vs : List Value} {tl : List (Addr × Obj)} {due : List (Int × Int)} {Q : Flow → Shared → Prop} {a b most : Int} {ta tb tm : Tok} {v0 : Option Value} {U V more x y many : Int} {t1 t2 t3 t4 t5 t6 t7 tc tx : Tok}

theorem st_s3 {c : Int} (X : (hd.heap_39 w.params).In h₀) (T : Top hd.view_39 (looseW hd.view_39 []) mean mg mb h₀) (hr : dp + 200 < recursionLimit) (hu : un + 700 < cLine)
    (hbare : AllBare s.gens) (F : Fr h₀ L s.heap (fun z => if z = Str.ofString "due" then some (.ref R) else if z = Str.ofString "many" then some (.int many t6) else if z = Str.ofString "more" then some (.int more t4) else if z = Str.ofString "numbers" then some (.ref D) else rest z))
    (N : News h₀ L s.heap ((R, listOf (List.toArray vs) n) :: ((D, listOf (List.toArray ws) 0) :: cellsL L oa ob om oi oc ox ++ tl))) (hDL : L + 1 + 1 + 1 + 1 + 1 + 1 < D) (hR : RowsIn tl vs due)
    (ha : isC oa (some (.int a ta))) (hb : isC ob (some (.int b tb))) (a1 : 1 ≤ a) (a7 : a ≤ 7) (b1 : 1 ≤ b) (b7 : b ≤ 7) (hc : isC oc (some (.int c tc))) (c0 : 0 ≤ c) (c1 : c ≤ 96) (m2 : 2 ≤ more) (m5 : more ≤ 5) (hlen : (bsl (more * a) (more * b) (more * c)).length < 64) (hm : Mono (bsl (more * a) (more * b) (more * c)) due)
    (h : ∀ (h' : Heap) (tk : Nat) (gn : Array GenState), AllBare gn → Fr h₀ L h' (fun z => if z = Str.ofString "due" then some (.ref R) else if z = Str.ofString "many" then some (.int many t6) else if z = Str.ofString "more" then some (.int more t4) else if z = Str.ofString "numbers" then some (.ref D) else rest z) → News h₀ L h' ((R, listOf (List.toArray vs) n) :: ((D, listOf (List.toArray ws) 0) :: cellsL L oa ob om oi oc ox ++ tl)) → Q .next { s with heap := h', toks := tk, gens := gn }) :
    wpAny (model PySem.Challenge.rw_af0004_01.row.prog w) { handled := none, depth := dp, frames := fr, guards := gd, units := un } (exec (lawStmt 20) (lawEnv L fa cd)) Q NoE s := by
  revert X; k_fill; intro X
  conv => enter [3, 1]; whnf
  dsimp only [cellsL, isC] at *
  have p1 : 1 * 1 ≤ more * a := Int.mul_le_mul (by omega) (by omega) (by omega) (by omega)
  have p2 : 1 * 1 ≤ more * b := Int.mul_le_mul (by omega) (by omega) (by omega) (by omega)
  have p3 : more * a ≤ 5 * 7 := Int.mul_le_mul m5 a7 (by omega) (by omega)
  have p4 : more * b ≤ 5 * 7 := Int.mul_le_mul m5 b7 (by omega) (by omega)
  have p5 : 0 ≤ more * c := Int.mul_nonneg (by omega) c0
  have p6 : more * c ≤ 5 * 96 := Int.mul_le_mul m5 c1 (by omega) (by omega)
  k_steps
  unfold Stop
  refine gen_call (by dsimp only; omega) (by omega) (by omega) (by omega) (by omega) p5 (by omega) (fun x o e => F.keep x o (X x o e)) (T.keeps F.keep) fun G g C h' tk gs hb k hG hC hGC hg hga => ?_
  have hf : Fresh w G g C _ (bsl (more * a) (more * b) (more * c)) _ := ⟨hga, AllBare.push hbare hb, T.nolimit.keeps F.keep, hC, hG, hGC⟩
  k_steps
  unfold Stop
  refine sorted_gen F N hf rfl (by dsimp only; omega) (by dsimp only; omega) hlen hm fun S h2 tk2 gn2 n2 vs2 tl2 F2 N2 hR2 hb2 => ?_
  clear F hf hga k hG hC hg
  k_steps
  unfold Stop
  refine ne_rows N2 (.head _) (hR2.mono fun p hp => .tail _ hp) (.tail _ (List.mem_append_right _ (.head _))) (hR.mono fun p hp => .tail _ (List.mem_append_right _ (.tail _ (List.mem_append_right _ hp)))) (by dsimp only; omega) rfl ?_
  clear N
  have N4 := News.perm (news' := ((R, listOf (List.toArray vs) n) :: ((D, listOf (List.toArray ws) 0) :: cellsL L oa ob om oi oc ox ++ tl))) N2 fun p hp => .tail _ (List.mem_append_right _ hp)
  clear N2
  k_steps
  exact h _ _ _ hb2 (by assumption) N4

theorem st_ret {c : Int} (X : (hd.heap_39 w.params).In h₀) (T : Top hd.view_39 (looseW hd.view_39 []) mean mg mb h₀) (hr : dp + 200 < recursionLimit) (hu : un + 700 < cLine)
    (hbare : AllBare s.gens) (F : Fr h₀ L s.heap (fun z => if z = Str.ofString "due" then some (.ref R) else if z = Str.ofString "many" then some (.int many t6) else if z = Str.ofString "more" then some (.int more t4) else if z = Str.ofString "numbers" then some (.ref D) else rest z))
    (N : News h₀ L s.heap ((R, listOf (List.toArray vs) n) :: ((D, listOf (List.toArray ws) 0) :: cellsL L oa ob om oi oc ox ++ tl))) (hDL : L + 1 + 1 + 1 + 1 + 1 + 1 < D) (hR : RowsIn tl vs due)
    (ha : isC oa (some (.int a ta))) (hb : isC ob (some (.int b tb))) (a1 : 1 ≤ a) (a7 : a ≤ 7) (b1 : 1 ≤ b) (b7 : b ≤ 7) (hc : isC oc (some (.int c tc))) (c0 : 0 ≤ c) (c1 : c ≤ 96) (m2 : 2 ≤ more) (m5 : more ≤ 5) (hI : IntsAre ws ns) (hlen : ns.length = 4) (he : bsl (more * a) (more * b) (more * c + 1 + Int.fmod (ns.getD 3 0) (more - 1)) = [])
    (h : ∀ (h' : Heap) (tk : Nat) (gn : Array GenState), AllBare gn → Kp h₀ h' → Q (.ret (.bool true)) { s with heap := h', toks := tk, gens := gn }) :
    wpAny (model PySem.Challenge.rw_af0004_01.row.prog w) { handled := none, depth := dp, frames := fr, guards := gd, units := un } (exec (lawStmt 21) (lawEnv L fa cd)) Q NoE s := by
  revert X; k_fill; intro X
  conv => enter [3, 1]; whnf
  dsimp only [cellsL, isC] at *
  have p1 : 1 * 1 ≤ more * a := Int.mul_le_mul (by omega) (by omega) (by omega) (by omega)
  have p2 : 1 * 1 ≤ more * b := Int.mul_le_mul (by omega) (by omega) (by omega) (by omega)
  have p3 : more * a ≤ 5 * 7 := Int.mul_le_mul m5 a7 (by omega) (by omega)
  have p4 : more * b ≤ 5 * 7 := Int.mul_le_mul m5 b7 (by omega) (by omega)
  have p5 : 0 ≤ more * c := Int.mul_nonneg (by omega) c0
  have p6 : more * c ≤ 5 * 96 := Int.mul_le_mul m5 c1 (by omega) (by omega)
  have p7 := Int.fmod_nonneg_of_pos (ns.getD 3 0) (show 0 < more - 1 by omega)
  have p8 := Int.fmod_lt_of_pos (ns.getD 3 0) (show 0 < more - 1 by omega)
  k_steps
  unfold Stop
  refine comp_gen (x := Str.ofString "row") id rfl (by dsimp only; omega) (by dsimp only; omega) (by decide) (by decide) rfl (by decide) rfl ?_ ?_
  · intro L' s' m' T' p q Q' E' hn hm hp hq
    obtain ⟨t1, t2, hp'⟩ := hp
    refine wpAny_Name (wpAny_loadName_local rfl rfl hn hm ?_) rfl
    exact hq T' _ _ (fun _ _ e => e) ⟨t1, t2, hp'⟩ (.inl rfl)
  · k_steps
    unfold Stop
    have he' : bsl (more * a) (more * b) (more * c + 1 + Int.fmod (ns.getD (Int.toNat 3) 0) (more - 1)) = [] := he
    have p9 : 0 ≤ Int.fmod (ns.getD (Int.toNat 3) 0) (more - 1) := p7
    have p10 : Int.fmod (ns.getD (Int.toNat 3) 0) (more - 1) < more - 1 := p8
    refine gen_call (by dsimp only; omega) (by omega) (by omega) (by omega) (by omega) (by omega) (by omega) (fun x o e => F.keep x o (X x o e)) (T.keeps F.keep) fun G g C h' tk gs hb k hG hC hGC hg hga => ?_
    refine ⟨G, g, C, _, _, rfl, ⟨hga, AllBare.push hbare hb, T.nolimit.keeps F.keep, hC, hG, hGC⟩, by rw [he']; simp, fun R2 vs2 n2 h2 tk2 gn2 tl2 k2 hR2 hR0 hrows htl hb2 => ?_⟩
    rw [he'] at hrows
    simp only [List.map_nil] at hrows
    cases hrows
    have F2 := F.kept k2
    have N2 := News_add F N k2 hR0 hR2
    clear F N hga k hG hC hg he he' p1 p2 p3 p4 p5 p6 p7 p8 p9 p10 k2 hR2 hR0 htl
    dsimp only
    k_steps
    rename Fr _ _ _ _ => F'
    exact h _ _ _ hb2 F'.keep
end
end Mine
end

noncomputable section
namespace Mine
section
local macro_rules | `(tactic| walk_at "call ref") => `(tactic| refine Mine.Stop.mk ?_)
local macro_rules | `(tactic| walk_at "call ref cons nil") => `(tactic| refine Mine.Stop.mk ?_)
local macro_rules | `(tactic| walk_at "call builtin:sorted") => `(tactic| refine Mine.Stop.mk ?_)
local macro_rules | `(tactic| walk_at "compareOp NotEq ref ref") => `(tactic| refine Mine.Stop.mk ?_)
local macro_rules | `(tactic| walk_at "eval ListComp") => `(tactic| refine Mine.Stop.mk ?_)
variable {w : World} {mean : ExcName → Option Value} {mg mb : Str → Option Value} {dp un : Nat} {fr : Option (List Env)} {gd : Option (List Code)} {s : Shared} {h₀ : Heap} {L fa D M nm : Nat} {cd : Value} {rest : Str → Option Value}
    {oa ob om oi oc ox : Obj} {ws ms : List Value} {ns mi : List Int} {R n : Nat} {vs : List Value} {tl : List (Addr × Obj)} {due : List (Int × Int)} {Q : Flow → Shared → Prop} {a b most : Int} {ta tb tm : Tok} {v0 : Option Value} {U V more x y many : Int} {t1 t2 t3 t4 t5 t6 t7 tc tx : Tok}

theorem st_s2 {c : Int} (X : (hd.heap_39 w.params).In h₀) (T : Top hd.view_39 (looseW hd.view_39 []) mean mg mb h₀) (hr : dp + 200 < recursionLimit) (hu : un + 700 < cLine)
    (hbare : AllBare s.gens) (F : Fr h₀ L s.heap (fun z => if z = Str.ofString "due" then some (.ref R) else if z = Str.ofString "many" then some (.int many t6) else if z = Str.ofString "more" then some (.int more t4) else if z = Str.ofString "numbers" then some (.ref D) else rest z))
    (N : News h₀ L s.heap ((R, listOf (List.toArray vs) n) :: ((D, listOf (List.toArray ws) 0) :: cellsL L oa ob om oi oc ox ++ tl))) (hDL : L + 1 + 1 + 1 + 1 + 1 + 1 < D) (hR : RowsIn tl vs due)
    (ha : isC oa (some (.int a ta))) (hb : isC ob (some (.int b tb))) (a1 : 1 ≤ a) (a7 : a ≤ 7) (b1 : 1 ≤ b) (b7 : b ≤ 7) (hc : isC oc (some (.int c tc))) (c0 : 0 ≤ c) (c1 : c ≤ 96) (hlen : (bsl b a c).length < 64) (hm : Mono ((bsl b a c).map fun p => (p.2, p.1)) due)
    (h : ∀ (h' : Heap) (tk : Nat) (gn : Array GenState), AllBare gn → Fr h₀ L h' (fun z => if z = Str.ofString "due" then some (.ref R) else if z = Str.ofString "many" then some (.int many t6) else if z = Str.ofString "more" then some (.int more t4) else if z = Str.ofString "numbers" then some (.ref D) else rest z) → News h₀ L h' ((R, listOf (List.toArray vs) n) :: ((D, listOf (List.toArray ws) 0) :: cellsL L oa ob om oi oc ox ++ tl)) → Q .next { s with heap := h', toks := tk, gens := gn }) :
    wpAny (model PySem.Challenge.rw_af0004_01.row.prog w) { handled := none, depth := dp, frames := fr, guards := gd, units := un } (exec (lawStmt 19) (lawEnv L fa cd)) Q NoE s := by
  revert X; k_fill; intro X
  conv => enter [3, 1]; whnf
  dsimp only [cellsL, isC] at *
  k_steps
  unfold Stop
  refine comp_gen (x := Str.ofString "row") (fun p => (p.2, p.1)) rfl (by dsimp only; omega) (by dsimp only; omega) (by decide) (by decide) rfl (by decide) rfl ?_ ?_
  · intro L' s' m' T' p q Q' E' hn hm hp hq
    obtain ⟨t1, t2, hp'⟩ := hp
    have hT : IsTup s'.heap T' #[.int p t1, .int q t2] := ⟨_, hp', rfl, _, rfl⟩
    refine wpAny_Tuple ?_
    refine wpAny_items_cons (Subscript_ (wpAny_Name (wpAny_loadName_local rfl rfl hn hm ?_) rfl)) rfl
    refine wpAny_Constant_int ?_
    refine item_tuple (j := 1) hT (by decide) (by decide) rfl rfl ?_
    refine wpAny_items_cons (Subscript_ (wpAny_Name (wpAny_loadName_local rfl rfl hn hm ?_) rfl)) rfl
    refine wpAny_Constant_int ?_
    refine item_tuple (j := 0) hT (by decide) (by decide) rfl rfl ?_
    refine wpAny_items_nil ⟨by rw [sizeLine_eq]; exact Nat.le_of_ble_eq_true rfl, ?_⟩
    exact hq _ _ _ (fun b o e => Heap.get?_push_of_some _ e) ⟨t2, t1, Heap.get?_push_size _ rfl⟩ (.inr (Heap.get?_none_of_le (Nat.le_refl _)))
  · k_steps
    unfold Stop
    refine gen_call (by dsimp only; omega) b1 (by omega) a1 (by omega) c0 (by omega) (fun x o e => F.keep x o (X x o e)) (T.keeps F.keep) fun G g C h' tk gs hb k hG hC hGC hg hga => ?_
    refine ⟨G, g, C, _, _, rfl, ⟨hga, AllBare.push hbare hb, T.nolimit.keeps F.keep, hC, hG, hGC⟩, by omega, fun R2 vs2 n2 h2 tk2 gn2 tl2 k2 hR2 hR0 hrows htl hb2 => ?_⟩
    have F2 := F.kept k2
    have N1 := News_tl F N k2 htl
    have N0 := News_add F N k2 hR0 hR2
    have N2 : News h₀ L h2 ((R2, listOf (List.toArray vs2) n2) :: (tl2 ++ ((R, listOf (List.toArray vs) n) :: ((D, listOf (List.toArray ws) 0) :: cellsL L oa ob om oi oc ox ++ tl)))) := fun p hp => (List.mem_cons.mp hp).elim (fun e => N0 p (by rw [e]; exact .head _)) fun hp => N1 p hp
    have hl2 : vs2.length < 64 := by rw [hrows.length, List.length_map]; exact hlen
    clear F N N0 N1 hga k hG hC hg k2 hR0 htl
    dsimp only
    k_steps
    unfold Stop
    refine sorted_rows F2 N2 ⟨_, hR2, rfl, _, rfl⟩ (hrows.mono fun p hp => .tail _ (List.mem_append_left _ hp)) hl2 hm fun S h3 n3 vs3 F3 N3 hR3 => ?_
    clear F2 N2
    k_steps
    unfold Stop
    refine ne_rows N3 (.head _) (hR3.mono fun p hp => .tail _ hp) (.tail _ (.tail _ (List.mem_append_right _ (.head _)))) (hR.mono fun p hp => .tail _ (.tail _ (List.mem_append_right _ (.tail _ (List.mem_append_right _ hp))))) (by dsimp only; omega) rfl ?_
    have N4 := News.perm (news' := ((R, listOf (List.toArray vs) n) :: ((D, listOf (List.toArray ws) 0) :: cellsL L oa ob om oi oc ox ++ tl))) N3 fun p hp => .tail _ (.tail _ (List.mem_append_right _ hp))
    clear N3
    k_steps
    exact h _ _ _ hb2 (by assumption) N4
end
end Mine
end

noncomputable section
namespace Mine
/-- rows in a run: m steps from (x, y) -/
def rws (x y a b : Int) (m : Nat) : List (Int × Int) := (List.range m).map fun (i : Nat) => (x + (i : Int) * b, y - (i : Int) * a)
theorem rws_succ (x y a b : Int) (m : Nat) : rws x y a b (m + 1) = (x, y) :: rws (x + b) (y - a) a b m := by
  unfold rws
  rw [List.range_succ_eq_map, List.map_cons, List.map_map]
  congr 1
  · simp
  · apply List.map_congr_left
    intro i _
    have e1 : ((i + 1 : Nat) : Int) * b = (i : Int) * b + b := by rw [Int.natCast_add, Int.add_mul]; simp
    have e2 : ((i + 1 : Nat) : Int) * a = (i : Int) * a + a := by rw [Int.natCast_add, Int.add_mul]; simp
    show (x + ((i + 1 : Nat) : Int) * b, y - ((i + 1 : Nat) : Int) * a) = _
    rw [e1, e2]
    congr 1 <;> omega
theorem rws_len (x y a b : Int) (m : Nat) : (rws x y a b m).length = m := by simp [rws]
theorem rws_up {x y a b : Int} {m : Nat} (hb : 0 < b) : (rws x y a b m).Pairwise (fun p q => p.1 < q.1) := by
  unfold rws
  rw [List.pairwise_map]
  refine List.Pairwise.imp ?_ List.pairwise_lt_range
  intro i j hij
  have : (i : Int) * b < (j : Int) * b := Int.mul_lt_mul_of_pos_right (by omega) hb
  dsimp only
  omega
theorem rws_swap {x y u v a b : Int} {m : Nat} (h1 : u = x + ((m : Int) - 1) * b) (h2 : v = y - ((m : Int) - 1) * a) : (rws v u b a m).map (fun p => (p.2, p.1)) = (rws x y a b m).reverse := by
  apply List.ext_getElem
  · simp [rws_len]
  · intro i hi _
    rw [List.length_map, rws_len] at hi
    rw [List.getElem_map, List.getElem_reverse]
    simp only [rws, List.getElem_map, List.getElem_range, List.length_map, List.length_range]
    have e : ((m - 1 - i : Nat) : Int) = (m : Int) - 1 - (i : Int) := by omega
    rw [e, h1, h2, Int.sub_mul ((m : Int) - 1) i b, Int.sub_mul ((m : Int) - 1) i a]
    congr 1 <;> omega

theorem loopU_rows {a b : Int} (ha : 0 < a) (hb : 0 < b) : ∀ (m n : Nat) (x y : Int), m < n → 0 ≤ x → y < a * (m : Int) → (0 < m → a * ((m : Int) - 1) ≤ y) → loopU n a b x y = rws x y a b m
  | 0, n, x, y, hn, hx, hy, _ => by
    obtain ⟨n', rfl⟩ : ∃ n', n = n' + 1 := ⟨n - 1, by omega⟩
    rw [loopU, if_neg (by simp at hy; omega)]; rfl
  | m + 1, n, x, y, hn, hx, hy, hl => by
    obtain ⟨n', rfl⟩ : ∃ n', n = n' + 1 := ⟨n - 1, by omega⟩
    have h0 := hl (by omega)
    rw [show (((m + 1 : Nat) : Int) - 1) = (m : Int) by omega] at h0
    have h1 : 0 ≤ a * (m : Int) := Int.mul_nonneg (by omega) (by omega)
    have h2 : a * ((m + 1 : Nat) : Int) = a * (m : Int) + a := by rw [Int.natCast_add, Int.mul_add]; simp
    rw [loopU, if_pos (by omega), if_pos hx, rws_succ, loopU_rows ha hb m n' (x + b) (y - a) (by omega) (by omega) (by omega) fun hm => by rw [Int.mul_sub]; omega]

theorem loopU_skip {a b : Int} (ha : 0 < a) (hb : 0 < b) : ∀ (q n : Nat) (x y : Int), q ≤ n → x + (q : Int) * b < b → 0 ≤ y - (q : Int) * a → loopU n a b x y = loopU (n - q) a b (x + (q : Int) * b) (y - (q : Int) * a)
  | 0, n, x, y, _, _, _ => by simp
  | q + 1, n, x, y, hn, hx, hy => by
    obtain ⟨n', rfl⟩ : ∃ n', n = n' + 1 := ⟨n - 1, by omega⟩
    have e1 : ((q + 1 : Nat) : Int) * b = (q : Int) * b + b := by rw [Int.natCast_add, Int.add_mul]; simp
    have e2 : ((q + 1 : Nat) : Int) * a = (q : Int) * a + a := by rw [Int.natCast_add, Int.add_mul]; simp
    have p1 : 0 ≤ (q : Int) * b := Int.mul_nonneg (by omega) (by omega)
    have p2 : 0 ≤ (q : Int) * a := Int.mul_nonneg (by omega) (by omega)
    rw [e1] at hx
    rw [e2] at hy
    rw [loopU, if_pos (by omega), if_neg (by omega), loopU_skip ha hb q n' (x + b) (y - a) (by omega) (by omega) (by omega), e1, e2]
    congr 1 <;> omega

theorem loopD_swap (a b : Int) : ∀ (n : Nat) (x y : Int), loopD n a b x y = (loopU n b a y x).map fun p => (p.2, p.1)
  | 0, _, _ => rfl
  | n + 1, x, y => by
    rw [loopD, loopU]
    split
    · split
      · rw [loopD_swap a b n]; rfl
      · rw [loopD_swap a b n]
    · rfl

/-- the run of rows that the equation has -/
def runX (a b c x : Int) : List (Int × Int) := rws x (Int.fdiv (c - a * x) b) a b (Int.fdiv (Int.fdiv (c - a * x) b) a + 1).toNat

theorem up_run {a b c x y : Int} {n : Nat} (ha : 0 < a) (hb : 0 < b) (e : a * x + b * y = c) (hx : x < b) (hc : a * b - a - b < c) (hc1 : c ≤ 1000) (hb1 : b ≤ 100) (hx1 : -10000 ≤ x) (hn : n = 40000) :
    loopU n a b x y = runX a b c (Int.fmod x b) := by
  have f1 := Int.fmod_nonneg_of_pos x hb
  have f2 := Int.fmod_lt_of_pos x hb
  have f3 := Int.mul_fdiv_add_fmod x b
  have hq : Int.fdiv x b ≤ 0 := by
    rcases Int.lt_or_le 0 (Int.fdiv x b) with q | q
    · have : b * 1 ≤ b * Int.fdiv x b := Int.mul_le_mul_of_nonneg_left (by omega) (by omega)
      omega
    · exact q
  generalize hq' : Int.fdiv x b = qz at f3 hq
  generalize Int.fmod x b = x' at f1 f2 f3
  obtain ⟨q, hqz⟩ : ∃ q : Nat, qz = -(q : Int) := ⟨(-qz).toNat, by omega⟩
  subst hqz
  have e1 : b * (-(q : Int)) = -((q : Int) * b) := by rw [Int.mul_neg, Int.mul_comm]
  rw [e1] at f3
  have e2 : a * x' + b * (y - (q : Int) * a) = c := by
    rw [← e, ← f3, Int.mul_sub, Int.mul_add, Int.mul_neg]
    have : a * ((q : Int) * b) = b * ((q : Int) * a) := by rw [Int.mul_left_comm, Int.mul_left_comm b, Int.mul_comm a b]
    omega
  have hy : Int.fdiv (c - a * x') b = y - (q : Int) * a := by rw [show c - a * x' = b * (y - (q : Int) * a) by omega, Int.mul_fdiv_cancel_left _ (by omega)]
  have y0 : 0 ≤ y - (q : Int) * a := by
    rcases Int.lt_or_le (y - (q : Int) * a) 0 with h | h
    · have h1 : b * (y - (q : Int) * a) ≤ b * (-1) := Int.mul_le_mul_of_nonneg_left (by omega) (by omega)
      have h2 : a * x' ≤ a * (b - 1) := Int.mul_le_mul_of_nonneg_left (by omega) (by omega)
      rw [Int.mul_sub] at h2
      omega
    · exact h
  have y1 : y - (q : Int) * a ≤ 1000 := by
    have h1 : 1 * (y - (q : Int) * a) ≤ b * (y - (q : Int) * a) := Int.mul_le_mul_of_nonneg_right (by omega) y0
    have h2 : 0 ≤ a * x' := Int.mul_nonneg (by omega) f1
    omega
  have q1 : (q : Int) ≤ 10100 := by
    have h1 : (q : Int) * 1 ≤ (q : Int) * b := Int.mul_le_mul_of_nonneg_left (by omega) (by omega)
    omega
  have g1 := Int.fmod_nonneg_of_pos (y - (q : Int) * a) ha
  have g2 := Int.fmod_lt_of_pos (y - (q : Int) * a) ha
  have g3 := Int.mul_fdiv_add_fmod (y - (q : Int) * a) a
  have g4 : 0 ≤ Int.fdiv (y - (q : Int) * a) a := Int.fdiv_nonneg y0 (by omega)
  unfold runX
  rw [hy, loopU_skip ha hb q n x y (by omega) (by omega) y0, show x + (q : Int) * b = x' by omega]
  generalize y - (q : Int) * a = z at *
  generalize Int.fdiv z a = t at g3 g4 ⊢
  have t1 : t ≤ 1000 := by
    have h1 : 1 * t ≤ a * t := Int.mul_le_mul_of_nonneg_right (by omega) g4
    omega
  have hm : ((t + 1).toNat : Int) = t + 1 := by omega
  refine loopU_rows ha hb _ _ _ _ (by omega) f1 ?_ fun _ => ?_
  · rw [hm, Int.mul_add]; omega
  · rw [hm, show t + 1 - 1 = t by omega]; omega
end Mine
end

noncomputable section
namespace Mine
theorem fdiv_add {y a s : Int} (ha : 0 < a) (h0 : 0 ≤ y) (h1 : y < a) : Int.fdiv (y + a * s) a = s := by
  rw [Int.fdiv_eq_ediv_of_nonneg _ (by omega), Int.add_mul_ediv_left _ _ (by omega), Int.ediv_eq_zero_of_lt h0 h1, Int.zero_add]
/-- what the two rests say of c -/
theorem rests {a b c x0 y0 : Int} (ha : 0 < a) (hb : 0 < b) (e : a * x0 + b * y0 = c) : ∃ s : Int, Int.fdiv (c - a * Int.fmod x0 b) b = Int.fmod y0 a + a * s ∧ Int.fdiv (c - b * Int.fmod y0 a) a = Int.fmod x0 b + b * s ∧
    c - a * Int.fmod x0 b - b * Int.fmod y0 a = a * b * s ∧ Int.fdiv (Int.fdiv (c - a * Int.fmod x0 b) b) a = s ∧ Int.fdiv (Int.fdiv (c - b * Int.fmod y0 a) a) b = s := by
  have f1 := Int.fmod_nonneg_of_pos x0 hb
  have f2 := Int.fmod_lt_of_pos x0 hb
  have f3 := Int.mul_fdiv_add_fmod x0 b
  have g1 := Int.fmod_nonneg_of_pos y0 ha
  have g2 := Int.fmod_lt_of_pos y0 ha
  have g3 := Int.mul_fdiv_add_fmod y0 a
  generalize Int.fdiv x0 b = p at f3
  generalize Int.fdiv y0 a = r at g3
  generalize Int.fmod x0 b = x' at *
  generalize Int.fmod y0 a = y' at *
  have c1 : c = a * x' + b * y' + a * b * (p + r) := by
    rw [← e, ← f3, ← g3]
    have e1 : a * (b * p + x') = a * b * p + a * x' := by rw [Int.mul_add, Int.mul_assoc]
    have e2 : b * (a * r + y') = a * b * r + b * y' := by rw [Int.mul_add, ← Int.mul_assoc, Int.mul_comm b a]
    rw [e1, e2, Int.mul_add (a * b)]
    omega
  have c2 : c - a * x' = b * (y' + a * (p + r)) := by
    have : b * (y' + a * (p + r)) = b * y' + a * b * (p + r) := by rw [Int.mul_add, ← Int.mul_assoc, Int.mul_comm b a]
    omega
  have c3 : c - b * y' = a * (x' + b * (p + r)) := by
    have : a * (x' + b * (p + r)) = a * x' + a * b * (p + r) := by rw [Int.mul_add, Int.mul_assoc]
    omega
  have d1 : Int.fdiv (c - a * x') b = y' + a * (p + r) := by rw [c2, Int.mul_fdiv_cancel_left _ (by omega)]
  have d2 : Int.fdiv (c - b * y') a = x' + b * (p + r) := by rw [c3, Int.mul_fdiv_cancel_left _ (by omega)]
  exact ⟨p + r, d1, d2, by omega, by rw [d1, fdiv_add ha g1 g2], by rw [d2, fdiv_add hb f1 f2]⟩

theorem runX_swap {a b c x0 y0 : Int} (ha : 0 < a) (hb : 0 < b) (e : a * x0 + b * y0 = c) : (runX b a c (Int.fmod y0 a)).map (fun p => (p.2, p.1)) = (runX a b c (Int.fmod x0 b)).reverse := by
  obtain ⟨s, d1, d2, d3, d4, d5⟩ := rests ha hb e
  unfold runX
  rw [d4, d5]
  by_cases hs : s + 1 ≤ 0
  · rw [show (s + 1).toNat = 0 by omega]; rfl
  · have hm : ((s + 1).toNat : Int) - 1 = s := by omega
    refine rws_swap ?_ ?_
    · rw [hm, d2, Int.mul_comm]
    · rw [hm, d1, Int.mul_comm s a]; omega

theorem runX_due {a b c x0 y0 : Int} (ha : 0 < a) (hb : 0 < b) (e : a * x0 + b * y0 = c) : dueOf a b c (Int.fmod x0 b) (Int.fdiv (c - a * Int.fmod x0 b - b * Int.fmod y0 a) (a * b) + 1) = runX a b c (Int.fmod x0 b) := by
  obtain ⟨s, d1, d2, d3, d4, d5⟩ := rests ha hb e
  have hab : 0 < a * b := Int.mul_pos ha hb
  unfold runX dueOf
  rw [d4, d3, Int.mul_fdiv_cancel_left _ (by omega)]
  unfold rangeKs rws
  rw [List.map_map]
  apply List.map_congr_left
  intro i _
  show (_ + (0 + (i : Int)) * b, _ - (0 + (i : Int)) * a) = _
  rw [Int.zero_add]

theorem many_of {a b c x0 y0 : Int} (ha : 0 < a) (hb : 0 < b) (e : a * x0 + b * y0 = c) (hc : a * b - a - b < c) (hc2 : c ≤ a * b - a - b + 61) :
    1 ≤ Int.fdiv (c - a * Int.fmod x0 b - b * Int.fmod y0 a) (a * b) + 1 ∧ Int.fdiv (c - a * Int.fmod x0 b - b * Int.fmod y0 a) (a * b) + 1 ≤ 63 := by
  obtain ⟨s, d1, d2, d3, d4, d5⟩ := rests ha hb e
  have hab : 0 < a * b := Int.mul_pos ha hb
  have f1 := Int.fmod_nonneg_of_pos x0 hb
  have f2 := Int.fmod_lt_of_pos x0 hb
  have g1 := Int.fmod_nonneg_of_pos y0 ha
  have g2 := Int.fmod_lt_of_pos y0 ha
  rw [d3, Int.mul_fdiv_cancel_left _ (by omega)]
  generalize Int.fmod x0 b = x' at *
  generalize Int.fmod y0 a = y' at *
  have h1 : a * x' ≤ a * (b - 1) := Int.mul_le_mul_of_nonneg_left (by omega) (by omega)
  have h2 : b * y' ≤ b * (a - 1) := Int.mul_le_mul_of_nonneg_left (by omega) (by omega)
  have h3 : 0 ≤ a * x' := Int.mul_nonneg (by omega) f1
  have h4 : 0 ≤ b * y' := Int.mul_nonneg (by omega) g1
  rw [Int.mul_sub] at h1 h2
  rw [Int.mul_comm b a] at h2
  constructor
  · rcases Int.lt_or_le s 0 with h | h
    · have : a * b * s ≤ a * b * (-1) := Int.mul_le_mul_of_nonneg_left (by omega) (by omega)
      omega
    · omega
  · rcases Int.lt_or_le 62 s with h | h
    · have : a * b * 63 ≤ a * b * s := Int.mul_le_mul_of_nonneg_left (by omega) (by omega)
      omega
    · omega

theorem bslK_run {a b c U V : Int} (ha : 1 ≤ a) (ha7 : a ≤ 7) (hb : 1 ≤ b) (hb7 : b ≤ 7) (hE : euc 50 a b = (U, V, 1)) (hu : U.natAbs ≤ 40) (hv : V.natAbs ≤ 40) (hz : a * U + b * V = 1) (c0 : 0 < c) (hc : a * b - a - b < c) (c1 : c ≤ 96) :
    bslK a b c = runX a b c (Int.fmod (c * U) b) ∨ bslK a b c = (runX a b c (Int.fmod (c * U) b)).reverse := by
  have u1 : c * (-40) ≤ c * U := Int.mul_le_mul_of_nonneg_left (by omega) (by omega)
  have v1 : c * (-40) ≤ c * V := Int.mul_le_mul_of_nonneg_left (by omega) (by omega)
  have e : a * (c * U) + b * (c * V) = c := by
    rw [Int.mul_left_comm, Int.mul_left_comm b, ← Int.mul_add, hz, Int.mul_one]
  unfold bslK
  rw [if_neg (by omega), hE, if_neg (by simp)]
  dsimp only
  by_cases h : c * U ≤ 0
  · rw [if_pos h]
    exact .inl (up_run (by omega) (by omega) e (by omega) hc (by omega) (by omega) (by omega) rfl)
  · rw [if_neg h, loopD_swap]
    have hU : 0 < U := by
      rcases Int.lt_or_le 0 U with q | q
      · exact q
      · exact absurd (Int.mul_nonpos_of_nonneg_of_nonpos (Int.le_of_lt c0) q) h
    have hV : V ≤ 0 := by
      rcases Int.lt_or_le 0 V with q | q
      · have h1 : 0 < a * U := Int.mul_pos (by omega) hU
        have h2 : 0 < b * V := Int.mul_pos (by omega) q
        omega
      · exact q
    have h3 : c * V ≤ 0 := Int.mul_nonpos_of_nonneg_of_nonpos (Int.le_of_lt c0) hV
    rw [up_run (a := b) (b := a) (c := c) (by omega) (by omega) (by omega) (by omega) (by rw [Int.mul_comm]; omega) (by omega) (by omega) (by omega) rfl]
    exact .inr (runX_swap (by omega) (by omega) e)

theorem bsl_one {a b c : Int} (hg : Int.gcd a b = 1) : bsl a b c = bslK a b c := by
  have h1 : gcd3 a b c = 1 := by
    unfold gcd3
    have h2 : Int.gcd a (Int.gcd b c : Int) ∣ Int.gcd a b := Int.dvd_gcd (Int.gcd_dvd_left ..) (Int.dvd_trans (Int.gcd_dvd_right ..) (Int.gcd_dvd_left ..))
    rw [hg] at h2
    rw [Nat.dvd_one.mp h2]; rfl
  unfold bsl
  rw [h1, Int.fdiv_one, Int.fdiv_one, Int.fdiv_one]

theorem run_up {a b c x : Int} (hb : 0 < b) : (runX a b c x).Pairwise (fun p q => p.1 < q.1) := rws_up hb
def dueP (a b c x m : Int) : Prop := 1 ≤ m ∧ m ≤ 63 ∧ Mono (bsl a b c) (dueOf a b c x m) ∧ Mono ((bsl b a c).map fun p => (p.2, p.1)) (dueOf a b c x m)
theorem Mono.length {rs out : List (Int × Int)} (h : Mono rs out) : rs.length = out.length := by
  rcases h with ⟨_, e⟩ | ⟨_, e⟩ <;> simp [e]

theorem due_sym {a b c U V U2 V2 : Int} (ha : 1 ≤ a) (ha7 : a ≤ 7) (hb : 1 ≤ b) (hb7 : b ≤ 7) (hg : Int.gcd a b = 1) (hE : euc 50 a b = (U, V, 1)) (hu : U.natAbs ≤ 40) (hv : V.natAbs ≤ 40) (hz : a * U + b * V = 1)
    (hE2 : euc 50 b a = (U2, V2, 1)) (hu2 : U2.natAbs ≤ 40) (hv2 : V2.natAbs ≤ 40) (hz2 : b * U2 + a * V2 = 1) (c0 : 0 ≤ c) (hc : a * b - a - b < c) (hc2 : c ≤ a * b - a - b + 61) (c1 : c ≤ 96) :
    dueP a b c (Int.fmod (U * c) b) (Int.fdiv (c - a * Int.fmod (U * c) b - b * Int.fmod (V * c) a) (a * b) + 1) := by
  have e : a * (U * c) + b * (V * c) = c := by
    rw [← Int.mul_assoc, ← Int.mul_assoc, ← Int.add_mul, hz, Int.one_mul]
  obtain ⟨m1, m2⟩ := many_of (by omega) (by omega) e hc hc2
  refine ⟨m1, m2, ?_⟩
  rw [runX_due (by omega) (by omega) e, bsl_one hg, bsl_one (by rw [Int.gcd_comm]; exact hg)]
  have hsw := runX_swap (by omega) (by omega) e
  have hup : (runX a b c (Int.fmod (U * c) b)).Pairwise (fun p q => p.1 < q.1) := run_up (by omega)
  have up : ∀ rs : List (Int × Int), rs = runX a b c (Int.fmod (U * c) b) ∨ rs = (runX a b c (Int.fmod (U * c) b)).reverse → Mono rs (runX a b c (Int.fmod (U * c) b)) := by
    rintro rs (rfl | rfl)
    · exact .inl ⟨hup, rfl⟩
    · exact .inr ⟨List.pairwise_reverse.mpr hup, by rw [List.reverse_reverse]⟩
  by_cases hc0 : c = 0
  · subst hc0
    have h0 : bslK a b 0 = [(0, 0)] := by unfold bslK; rw [if_pos rfl]
    have h1 : bslK b a 0 = [(0, 0)] := by unfold bslK; rw [if_pos rfl]
    have h2 : runX a b 0 (Int.fmod (U * 0) b) = [(0, 0)] := by
      rw [Int.mul_zero, Int.zero_fmod]
      unfold runX
      rw [Int.mul_zero, Int.sub_self, Int.zero_fdiv, Int.zero_fdiv]
      show rws 0 0 a b 1 = _
      rw [rws_succ]; rfl
    rw [h0, h1]
    exact ⟨up _ (.inl h2.symm), up _ (.inl h2.symm)⟩
  · refine ⟨up _ ?_, up _ ?_⟩
    · rw [Int.mul_comm U c]
      exact bslK_run ha ha7 hb hb7 hE hu hv hz (by omega) hc c1
    · have hk : U2 = V + a * (U * (U2 - V) + V * (U - V2)) := by
        have q1 : U2 - V = (U2 - V) * (a * U + b * V) := by rw [hz, Int.mul_one]
        have q2 : b * U2 = 1 - a * V2 := by omega
        have q3 : b * V = 1 - a * U := by omega
        have q4 : (U2 - V) * (a * U + b * V) = a * (U * (U2 - V)) + V * (b * U2 - b * V) := by
          rw [Int.mul_add, ← Int.mul_sub b U2 V]
          congr 1
          · rw [Int.mul_comm, Int.mul_assoc]
          · rw [Int.mul_comm, Int.mul_left_comm V b, Int.mul_assoc]
        rw [q2, q3, show 1 - a * V2 - (1 - a * U) = a * (U - V2) by rw [Int.mul_sub]; omega, Int.mul_left_comm V a, ← Int.mul_add] at q4
        omega
      have hf : Int.fmod (c * U2) a = Int.fmod (V * c) a := by
        rw [hk, Int.mul_add, Int.mul_left_comm c a, Int.add_mul_fmod_self_left, Int.mul_comm c V]
      rcases bslK_run hb hb7 ha ha7 hE2 hu2 hv2 hz2 (by omega) (by rw [Int.mul_comm]; omega) c1 with h | h
      · right; rw [h, hf, hsw]
      · left; rw [h, hf, List.map_reverse, hsw, List.reverse_reverse]
end Mine
end

noncomputable section
namespace Mine
def rowB (a b c : Int) : List (Int × Int) → Bool
  | [] => true
  | [(x, y)] => decide (0 ≤ x) && decide (0 ≤ y) && decide (x ≤ 100) && decide (y ≤ 100) && (a * x + b * y == c)
  | _ => false
def symB (mi : List Int) (most : Int) (n : Nat) : Bool := (List.range n).all fun i => (mi.any fun x => x == (i : Int)) != (mi.any fun x => x == most - (i : Int))
def pairB (a b : Int) (e : Int × Int × Int) (most : Int) (mi : List Int) : Bool :=
  e.2.2 == 1 && decide (e.1.natAbs ≤ 40) && decide (e.2.1.natAbs ≤ 40) && (a * e.1 + b * e.2.1 == 1) &&
  ([2, 3, 4, 5].all fun m => euc 50 (m * a) (m * b) == (e.1, e.2.1, m)) &&
  decide (-1 ≤ most) && decide (most ≤ 35) &&
  ((List.range (most + 1).toNat).all fun i => rowB a b (i : Int) (bsl a b (i : Int))) &&
  symB mi most (most + 1).toNat && (12 * mi.sum == (a - 1) * (b - 1) * (2 * a * b - a - b - 1)) && mi.all fun v => decide (0 ≤ v) && decide (v ≤ 40)
def pairOk (a b : Int) : Bool := pairB a b (euc 50 a b) (a * b - a - b) (missTo a b (a * b - a - b + 1).toNat)
def goodP (a b : Nat) : Bool := a != 0 && b != 0 && Nat.gcd a b == 1
theorem red_all : ∀ a0 : Fin 7, ∀ b0 : Fin 7, ((List.range 8).any fun a => (List.range 8).any fun b => goodP a b && red (1 + (a0.val : Int)) (1 + (b0.val : Int)) == ((a : Int), (b : Int))) = true := by decide +kernel
theorem pair_all : ∀ a : Fin 8, ∀ b : Fin 8, goodP a.val b.val = true → pairOk (a.val : Int) (b.val : Int) = true := by decide +kernel
end Mine
end

noncomputable section
namespace Mine
structure PF (a b U V : Int) : Prop where
  a1 : 1 ≤ a
  a7 : a ≤ 7
  b1 : 1 ≤ b
  b7 : b ≤ 7
  gcd : Int.gcd a b = 1
  euc : euc 50 a b = (U, V, 1)
  u40 : U.natAbs ≤ 40
  v40 : V.natAbs ≤ 40
  bez : a * U + b * V = 1
  mult : ∀ m, 2 ≤ m → m ≤ 5 → Mine.euc 50 (m * a) (m * b) = (U, V, m)
  most1 : -1 ≤ a * b - a - b
  most2 : a * b - a - b ≤ 35
  rows : ∀ c, 0 ≤ c → c < a * b - a - b + 1 → bsl a b c = [] ∨ ∃ x y, bsl a b c = [(x, y)] ∧ 0 ≤ x ∧ 0 ≤ y ∧ x ≤ 100 ∧ y ≤ 100 ∧ a * x + b * y = c
  sym : ∀ c, 0 ≤ c → c < a * b - a - b + 1 → ¬ (((missTo a b (a * b - a - b + 1).toNat).any fun x => x == c) = ((missTo a b (a * b - a - b + 1).toNat).any fun x => x == a * b - a - b - c))
  sum : 12 * (missTo a b (a * b - a - b + 1).toNat).sum = (a - 1) * (b - 1) * (2 * a * b - a - b - 1)
  vals : ∀ v ∈ missTo a b (a * b - a - b + 1).toNat, 0 ≤ v ∧ v ≤ 40
  due : ∀ c, a * b - a - b + 1 ≤ c → c ≤ a * b - a - b + 61 → dueP a b c (Int.fmod (U * c) b) (Int.fdiv (c - a * Int.fmod (U * c) b - b * Int.fmod (V * c) a) (a * b) + 1)

theorem rowB_of {a b c : Int} {rs : List (Int × Int)} (h : rowB a b c rs = true) : rs = [] ∨ ∃ x y, rs = [(x, y)] ∧ 0 ≤ x ∧ 0 ≤ y ∧ x ≤ 100 ∧ y ≤ 100 ∧ a * x + b * y = c := by
  match rs, h with
  | [], _ => exact .inl rfl
  | [(x, y)], h =>
    simp only [rowB, Bool.and_eq_true, decide_eq_true_eq, beq_iff_eq] at h
    exact .inr ⟨x, y, rfl, h.1.1.1.1, h.1.1.1.2, h.1.1.2, h.1.2, h.2⟩
  | _ :: _ :: _, h => cases h

theorem pf_of (a0 b0 : Int) (ha0 : 0 ≤ a0) (ha1 : a0 < 7) (hb0 : 0 ≤ b0) (hb1 : b0 < 7) : ∃ U V, PF (red (1 + a0) (1 + b0)).1 (red (1 + a0) (1 + b0)).2 U V := by
  have h := red_all ⟨a0.toNat, by omega⟩ ⟨b0.toNat, by omega⟩
  dsimp only at h
  rw [show ((a0.toNat : Nat) : Int) = a0 by omega, show ((b0.toNat : Nat) : Int) = b0 by omega] at h
  obtain ⟨a, ha, h⟩ := List.any_eq_true.mp h
  obtain ⟨b, hb, h⟩ := List.any_eq_true.mp h
  rw [Bool.and_eq_true] at h
  obtain ⟨hg, he⟩ := h
  rw [eq_of_beq he]
  dsimp only
  have la := List.mem_range.mp ha
  have lb := List.mem_range.mp hb
  have hp := pair_all ⟨a, la⟩ ⟨b, lb⟩ hg
  have hg2 : goodP b a = true := by
    simp only [goodP, Bool.and_eq_true, bne_iff_ne, ne_eq, beq_iff_eq] at hg ⊢
    exact ⟨⟨hg.1.2, hg.1.1⟩, by rw [Nat.gcd_comm]; exact hg.2⟩
  have hp2 := pair_all ⟨b, lb⟩ ⟨a, la⟩ hg2
  dsimp only at hp hp2
  simp only [goodP, Bool.and_eq_true, bne_iff_ne, ne_eq, beq_iff_eq] at hg
  simp only [pairOk, pairB, Bool.and_eq_true, decide_eq_true_eq, beq_iff_eq, List.all_cons, List.all_nil, List.all_eq_true, List.mem_range, symB] at hp
  obtain ⟨⟨⟨⟨⟨⟨⟨⟨⟨⟨p1, p2⟩, p3⟩, p4⟩, p5⟩, p6⟩, p7⟩, p8⟩, p9⟩, p10⟩, p11⟩ := hp
  simp only [pairOk, pairB, Bool.and_eq_true, decide_eq_true_eq, beq_iff_eq] at hp2
  obtain ⟨⟨⟨⟨⟨⟨⟨⟨⟨⟨r1, r2⟩, r3⟩, r4⟩, _⟩, _⟩, _⟩, _⟩, _⟩, _⟩, _⟩ := hp2
  generalize hE2 : Mine.euc 50 (b : Int) (a : Int) = e2 at r1 r2 r3 r4
  obtain ⟨U2, V2, W2⟩ := e2
  dsimp only at r1 r2 r3 r4
  subst r1
  generalize hE : Mine.euc 50 (a : Int) (b : Int) = e at p1 p2 p3 p4 p5
  obtain ⟨U, V, W⟩ := e
  dsimp only at p1 p2 p3 p4 p5
  subst p1
  refine ⟨U, V, by omega, by omega, by omega, by omega, ?_, hE, p2, p3, p4, ?_, p6, p7, ?_, ?_, p10, p11, ?_⟩
  · show Nat.gcd (a : Int).natAbs (b : Int).natAbs = 1
    exact hg.2
  · intro m m2 m5
    obtain ⟨q2, q3, q4, q5, _⟩ := p5
    have : m = 2 ∨ m = 3 ∨ m = 4 ∨ m = 5 := by omega
    rcases this with rfl | rfl | rfl | rfl <;> assumption
  · intro c c0 c1
    have := p8 c.toNat (by omega)
    rw [show ((c.toNat : Nat) : Int) = c by omega] at this
    exact rowB_of this
  · intro c c0 c1
    have := p9 c.toNat (by omega)
    rw [show ((c.toNat : Nat) : Int) = c by omega] at this
    rw [bne_iff_ne] at this
    exact this
  · intro c c0 c1
    exact due_sym (by omega) (by omega) (by omega) (by omega) (by show Nat.gcd (a : Int).natAbs (b : Int).natAbs = 1; exact hg.2) hE p2 p3 p4 hE2 r2 r3 r4 (by omega) (by omega) (by omega) (by omega)

theorem gcd3_mul {a b c k : Int} (hk : 0 < k) : gcd3 (k * a) (k * b) (k * c) = k * gcd3 a b c := by
  unfold gcd3
  rw [Int.gcd_mul_left k b c]
  have e1 : (((k.natAbs * Int.gcd b c : Nat) : Int)) = k * (Int.gcd b c : Int) := by rw [Int.natCast_mul, Int.natAbs_of_nonneg (by omega)]
  rw [e1, Int.gcd_mul_left k a _, Int.natCast_mul, Int.natAbs_of_nonneg (by omega)]
theorem fdiv_mul_left {a g k : Int} (ha : 0 ≤ a) (hg : 0 ≤ g) (hk : 0 < k) : Int.fdiv (k * a) (k * g) = Int.fdiv a g := by
  rw [Int.fdiv_eq_ediv_of_nonneg _ (Int.mul_nonneg (by omega) hg), Int.fdiv_eq_ediv_of_nonneg _ hg, Int.mul_ediv_mul_of_pos _ _ hk]
theorem bsl_mul {a b c k : Int} (ha : 1 ≤ a) (hb : 1 ≤ b) (hc : 0 ≤ c) (hk : 0 < k) : bsl (k * a) (k * b) (k * c) = bsl a b c := by
  have hg := (gcd3_facts ha hb hc).1
  unfold bsl
  rw [gcd3_mul hk, fdiv_mul_left (by omega) (by omega) hk, fdiv_mul_left (by omega) (by omega) hk, fdiv_mul_left hc (by omega) hk]
theorem fdiv_of_mul {d q n : Int} (hd : 0 < d) (e : n = d * q) : Int.fdiv n d = q := by
  rw [e, Int.fdiv_eq_ediv_of_nonneg _ (by omega), Int.mul_ediv_cancel_left _ (by omega)]
theorem bsl_none {a b k n : Int} (hg : Int.gcd a b = 1) (ha : 1 ≤ a) (hb : 1 ≤ b) (hn0 : 0 ≤ n) (hk : 2 ≤ k) (hk5 : k ≤ 5) (hn : ¬ k ∣ n) (hE : ∀ m, 2 ≤ m → m ≤ 5 → (euc 50 (m * a) (m * b)).2.2 = m) : bsl (k * a) (k * b) n = [] := by
  have hd : gcd3 (k * a) (k * b) n = (Int.gcd k n : Int) := by
    unfold gcd3
    have e : Int.gcd (k * a) (Int.gcd (k * b) n : Int) = Int.gcd k n := by
      rw [← Int.gcd_assoc, Int.gcd_mul_left, hg, Nat.mul_one]
      show Nat.gcd (Int.natAbs (k.natAbs : Int)) n.natAbs = Nat.gcd k.natAbs n.natAbs
      rw [Int.natAbs_natCast]
    rw [e]
  have hdk : (Int.gcd k n : Int) ∣ k := Int.gcd_dvd_left ..
  have hdn : (Int.gcd k n : Int) ∣ n := Int.gcd_dvd_right ..
  have hpos : 0 < (Int.gcd k n : Int) := Int.natCast_pos.mpr (Int.gcd_pos_of_ne_zero_left _ (by omega))
  unfold bsl
  rw [hd]
  generalize (Int.gcd k n : Int) = d at hdk hdn hpos
  obtain ⟨k', ek⟩ := hdk
  obtain ⟨n', en⟩ := hdn
  have ea : Int.fdiv (k * a) d = k' * a := fdiv_of_mul hpos (by rw [ek, Int.mul_assoc])
  have eb : Int.fdiv (k * b) d = k' * b := fdiv_of_mul hpos (by rw [ek, Int.mul_assoc])
  rw [ea, eb, fdiv_of_mul hpos en]
  have k1 : 1 ≤ k' := by
    rcases Int.lt_or_le 0 k' with q | q
    · omega
    · have := Int.mul_nonpos_of_nonneg_of_nonpos (Int.le_of_lt hpos) q; omega
  have k2 : k' ≠ 1 := by
    rintro rfl
    exact hn ⟨n', by rw [en, ek, Int.mul_one]⟩
  have k5 : k' ≤ 5 := by
    have : 1 * k' ≤ d * k' := Int.mul_le_mul_of_nonneg_right (by omega) (by omega)
    omega
  have hn' : n' ≠ 0 := by
    rintro rfl
    exact hn ⟨0, by rw [en]; simp⟩
  have hm : Int.fmod n' k' ≠ 0 := by
    intro q
    obtain ⟨t, et⟩ := Int.dvd_of_fmod_eq_zero q
    exact hn ⟨t, by rw [en, et, ek, Int.mul_assoc]⟩
  unfold bslK
  rw [if_neg hn', hE k' (by omega) k5, if_pos hm]
theorem not_dvd {k c r : Int} (hk : 2 ≤ k) (r0 : 0 ≤ r) (r1 : r < k - 1) : ¬ k ∣ k * c + 1 + r := by
  rintro ⟨t, e⟩
  have h : k ∣ 1 + r := ⟨t - c, by rw [Int.mul_sub, ← e]; omega⟩
  have := Int.le_of_dvd (by omega) h
  omega
end Mine
end

noncomputable section
namespace Mine
theorem take4_len (ns : List Int) : (List.take 4 (List.take 4 ns ++ List.drop (min ns.length 4) ([18, 7, 2, 1] : List Int))).length = 4 := by
  simp only [List.length_take, List.length_append, List.length_drop, List.length_cons, List.length_nil]
  omega

theorem law_walk {w : World} {mean : ExcName → Option Value} {mg mb : Str → Option Value} {dp un : Nat} {fr : Option (List Env)} {gd : Option (List Code)} {s : Shared} {h₀ : Heap} {L fa l : Nat} {cd : Value} {rest : Str → Option Value}
    {oa ob om oi oc ox : Obj} {ws : List Value} {ns : List Int} {Q : Flow → Shared → Prop}
    (X : (hd.heap_39 w.params).In h₀) (T : Top hd.view_39 (looseW hd.view_39 []) mean mg mb h₀) (hr : dp + 200 < recursionLimit) (hu : un + 700 < cLine) (hbare : AllBare s.gens)
    (F : Fr h₀ L s.heap (fun y => if y = Str.ofString "script" then some (.ref l) else rest y))
    (N : News h₀ L s.heap (cellsL L oa ob om oi oc ox)) (hl : h₀.IsList l ws.toArray) (hI : IntsAre ws ns) (hlen : ns.length ≤ 63)
    (ha : isC oa none) (hb : isC ob none) (hm : isC om none) (hi : isC oi none) (hc : isC oc none) (hx : isC ox none)
    (h : ∀ h' tk gn, AllBare gn → Kp h₀ h' → Q (.ret (.bool true)) { s with heap := h', toks := tk, gens := gn }) :
    wpAny (model PySem.Challenge.rw_af0004_01.row.prog w) { handled := none, depth := dp, frames := fr, guards := gd, units := un } (execs lawParts.1 (lawEnv L fa cd)) Q NoE s := by
  rw [lawBody_eq]
  refine wpAny_execs_cons (st_num X T F N hl hI hlen fun h1 tk1 D ws1 F1 hDL N1 hI1 => ?_)
  clear F N hl hI
  have hlen1 := take4_len ns
  generalize List.take 4 (List.take 4 ns ++ List.drop (min ns.length 4) [18, 7, 2, 1]) = nu at hI1 hlen1
  dsimp only
  refine wpAny_execs_cons (st_a X T F1 N1 hI1 hlen1 hDL ha fun h2 tk2 oa2 ta F2 N2 ha2 => ?_)
  clear F1 N1
  dsimp only
  refine wpAny_execs_cons (st_b X T F2 N2 hI1 hlen1 hDL hb fun h3 tk3 ob3 tb F3 N3 hb3 => ?_)
  clear F2 N2
  dsimp only
  refine wpAny_execs_cons (st_k X T F3 N3 hDL ha2 hb3 fun h4 tk4 oa4 ob4 ta4 tb4 rest4 F4 N4 ha4 hb4 => ?_)
  clear F3 N3 ha2 hb3
  obtain ⟨U, V, P⟩ := pf_of (Int.fmod (nu.getD 0 0) 7) (Int.fmod (Int.fdiv (nu.getD 0 0) 7) 7) (Int.fmod_nonneg_of_pos _ (by decide)) (Int.fmod_lt_of_pos _ (by decide)) (Int.fmod_nonneg_of_pos _ (by decide)) (Int.fmod_lt_of_pos _ (by decide))
  generalize red (1 + Int.fmod (nu.getD 0 0) 7) (1 + Int.fmod (Int.fdiv (nu.getD 0 0) 7) 7) = pq at ha4 hb4 P
  obtain ⟨a, b⟩ := pq
  dsimp only at ha4 hb4 P ⊢
  refine wpAny_execs_cons (st_most X T F4 N4 hDL ha4 hb4 hm P.a1 P.a7 P.b1 P.b7 fun h5 tk5 om5 tm F5 N5 hm5 => ?_)
  clear F4 N4
  dsimp only
  refine wpAny_execs_cons (st_miss X T F5 N5 hDL hi fun h6 tk6 oi6 M F6 N6 hDM hi6 => ?_)
  clear F5 N5
  dsimp only
  have mo1 := P.most1
  have mo2 := P.most2
  refine wpAny_execs_cons (st_main X T hr hu hbare F6 N6 hDL hDM ha4 hb4 hm5 hi6 hc P.a1 P.a7 P.b1 P.b7 mo1 (by omega) P.rows fun h7 tk7 gn7 rest7 oc7 v7 ms nm hb7 F7 N7 hc7 hI7 => ?_)
  clear F6 N6
  dsimp only
  have hml : (missTo a b (a * b - a - b + 1).toNat).length ≤ 41 := Nat.le_trans (missTo_length a b _) (by omega)
  refine wpAny_execs_cons (st_sym X T hr hu F7 N7 hDL hDM hm5 hi6 hI7 hml mo1 (by omega) P.sym fun h8 tk8 F8 N8 => ?_)
  clear F7 N7
  dsimp only
  refine wpAny_execs_cons (st_sum X T hr hu F8 N8 hDL hDM ha4 hb4 hi6 hI7 hml P.vals P.a1 P.a7 P.b1 P.b7 P.sum fun h9 tk9 F9 N9' => ?_)
  have N9 : News h₀ L h9 ((D, listOf (List.toArray ws1) 0) :: cellsL L oa4 ob4 om5 oi6 oc7 ox) := N9'.perm fun p hp => .tail _ hp
  clear F8 N8 N9'
  dsimp only
  refine wpAny_execs_cons (st_c X T hr hu F9 N9 hDL hm5 hc7 hI1 hlen1 mo1 (by omega) fun h10 tk10 oc10 tc F10 N10 hc10 => ?_)
  clear F9 N9
  have q0 := Int.fmod_nonneg_of_pos (nu.getD 1 0) (show (0 : Int) < 61 by decide)
  have q1 := Int.fmod_lt_of_pos (nu.getD 1 0) (show (0 : Int) < 61 by decide)
  generalize hcc : a * b - a - b + 1 + Int.fmod (nu.getD 1 0) 61 = c at hc10
  have c0 : 0 ≤ c := by omega
  have c96 : c ≤ 96 := by omega
  have hdue := P.due c (by omega) (by omega)
  dsimp only
  refine wpAny_execs_cons (st_uv X T hr hu F10 N10 hDL ha4 hb4 P.a1 P.a7 P.b1 P.b7 P.euc fun h11 tk11 t1 t2 t3 F11 N11 => ?_)
  clear F10 N10
  dsimp only
  refine wpAny_execs_cons (st_one X T hr hu F11 N11 hDL ha4 hb4 P.a1 P.a7 P.b1 P.b7 P.u40 P.v40 P.bez fun h12 tk12 F12 N12 => ?_)
  clear F11 N11
  dsimp only
  refine wpAny_execs_cons (st_more X T hr hu F12 N12 hDL hI1 hlen1 fun h13 tk13 t4 F13 N13 => ?_)
  clear F12 N12
  have r0 := Int.fmod_nonneg_of_pos (nu.getD 2 0) (show (0 : Int) < 4 by decide)
  have r1 := Int.fmod_lt_of_pos (nu.getD 2 0) (show (0 : Int) < 4 by decide)
  have m2 : 2 ≤ 2 + Int.fmod (nu.getD 2 0) 4 := by omega
  have m5 : 2 + Int.fmod (nu.getD 2 0) 4 ≤ 5 := by omega
  generalize 2 + Int.fmod (nu.getD 2 0) 4 = more at F13 m2 m5
  dsimp only
  refine wpAny_execs_cons (st_ee2 X T hr hu F13 N13 hDL ha4 hb4 P.a1 P.a7 P.b1 P.b7 m2 m5 (P.mult more m2 m5) P.u40 P.v40 fun h14 tk14 F14 N14 => ?_)
  clear F13 N13
  dsimp only
  refine wpAny_execs_cons (st_x X T hr hu F14 N14 hDL ha4 hb4 P.a1 P.a7 P.b1 P.b7 hc10 c0 (by omega) hx P.u40 P.v40 fun h15 tk15 ox15 tx F15 N15 hx15 => ?_)
  clear F14 N14
  dsimp only
  refine wpAny_execs_cons (st_y X T hr hu F15 N15 hDL ha4 hb4 P.a1 P.a7 P.b1 P.b7 hc10 c0 (by omega) P.u40 P.v40 fun h16 tk16 t5 F16 N16 => ?_)
  clear F15 N15
  dsimp only
  have b1 := P.b1
  have b7 := P.b7
  have a1 := P.a1
  have a7 := P.a7
  have x0 := Int.fmod_nonneg_of_pos (U * c) (show 0 < b by omega)
  have x1 := Int.fmod_lt_of_pos (U * c) (show 0 < b by omega)
  have y0 := Int.fmod_nonneg_of_pos (V * c) (show 0 < a by omega)
  have y1 := Int.fmod_lt_of_pos (V * c) (show 0 < a by omega)
  refine wpAny_execs_cons (st_many X T hr hu F16 N16 hDL ha4 hb4 P.a1 P.a7 P.b1 P.b7 hc10 c0 (by omega) hx15 x0 (by omega) y0 (by omega) fun h17 tk17 t6 F17 N17 => ?_)
  clear F16 N16
  dsimp only
  generalize Int.fdiv (c - a * Int.fmod (U * c) b - b * Int.fmod (V * c) a) (a * b) + 1 = many at F17 hdue
  obtain ⟨m1, m63, d1, d2⟩ := hdue
  refine wpAny_execs_cons (st_due X T hr hu F17 N17 hDL ha4 hb4 P.a1 P.a7 P.b1 P.b7 hc10 c0 (by omega) hx15 x0 (by omega) m1 (by omega) fun h18 tk18 R n vs tl F18 N18 hR => ?_)
  clear F17 N17
  dsimp only
  have G1 := Fr_say (x := Str.ofString "numbers") (v := .ref D) F18 (by rw [if_neg (by decide), if_neg (by decide), if_neg (by decide), if_neg (by decide), if_neg (by decide), if_neg (by decide), if_neg (by decide), if_pos rfl])
  have G2 := Fr_say (x := Str.ofString "more") (v := .int more t4) G1 (by rw [if_neg (by decide), if_neg (by decide), if_neg (by decide), if_neg (by decide), if_pos rfl])
  have G3 := Fr_say (x := Str.ofString "many") (v := .int many t6) G2 (by rw [if_neg (by decide), if_neg (by decide), if_neg (by decide), if_pos rfl])
  have G4 := Fr_say (x := Str.ofString "due") (v := .ref R) G3 (by rw [if_neg (by decide), if_neg (by decide), if_neg (by decide), if_pos rfl])
  clear F18 G1 G2 G3
  have hdl : (dueOf a b c (Int.fmod (U * c) b) many).length < 64 := by
    rw [dueOf, List.length_map, rangeKs_length]; omega
  have hl1 : (bsl a b c).length < 64 := by rw [Mono.length d1]; exact hdl
  have hl2 : (bsl b a c).length < 64 := by have := Mono.length d2; rw [List.length_map] at this; rw [this]; exact hdl
  have hbm : bsl (more * a) (more * b) (more * c) = bsl a b c := bsl_mul a1 b1 c0 (by omega)
  refine wpAny_execs_cons (st_s1 X T hr hu hb7 G4 N18 hDL hR ha4 hb4 P.a1 P.a7 P.b1 P.b7 hc10 c0 (by omega) m1 hl1 d1 fun h19 tk19 gn19 hb19 F19 N19 => ?_)
  clear G4 N18
  dsimp only
  refine wpAny_execs_cons (st_s2 X T hr hu hb19 F19 N19 hDL hR ha4 hb4 P.a1 P.a7 P.b1 P.b7 hc10 c0 c96 hl2 d2 fun h20 tk20 gn20 hb20 F20 N20 => ?_)
  clear F19 N19
  dsimp only
  refine wpAny_execs_cons (st_s3 X T hr hu hb20 F20 N20 hDL hR ha4 hb4 P.a1 P.a7 P.b1 P.b7 hc10 c0 c96 m2 m5 (by rw [hbm]; exact hl1) (by rw [hbm]; exact d1) fun h21 tk21 gn21 hb21 F21 N21 => ?_)
  clear F20 N20
  dsimp only
  have z0 := Int.fmod_nonneg_of_pos (nu.getD 3 0) (show 0 < more - 1 by omega)
  have z1 := Int.fmod_lt_of_pos (nu.getD 3 0) (show 0 < more - 1 by omega)
  have z2 : 0 ≤ more * c := Int.mul_nonneg (by omega) c0
  have he : bsl (more * a) (more * b) (more * c + 1 + Int.fmod (nu.getD 3 0) (more - 1)) = [] :=
    bsl_none P.gcd a1 b1 (by omega) m2 m5 (not_dvd m2 z0 z1) fun m k2 k5 => by rw [P.mult m k2 k5]
  exact wpAny_execs_cons (st_ret X T hr hu hb21 F21 N21 hDL hR ha4 hb4 P.a1 P.a7 P.b1 P.b7 hc10 c0 c96 m2 m5 hI1 hlen1 he fun h22 tk22 gn22 hb22 k22 => h _ _ _ hb22 k22)
end Mine
end

set_option maxRecDepth 100000 in
set_option maxHeartbeats 8000000 in
theorem PySem.Challenge.cw_af0004_01_holds : PySem.Challenge.rw_af0004_01.Holds := by
  refine Mine.hd ?_
  k_fill
  intro w s₀ s₁ mg mb ground stands fa o pm cd doc dV kV ho hdat hcd hdef hmg hgens args vals as hpre hlay hrd hwl hlo
  refine Ground.open ground ?_
  intro T _ _ _ _
  obtain ⟨_, _, hcode, _⟩ := based_of_top T rfl hmg ho hdat
  obtain rfl : cd = _ := hcode
  wrow_args hpre hlay hrd hwl hlo
  refine enter_call ?_
  w_top on
  w_call any ho hdat hcd hdef T F
  rename_i ox oc oi om ob oa hx hc hi hm hb ha cells _
  rename Heap.IsList _ _ _ => hL
  rename IntsAre _ _ => hI
  rename ¬ _ < _ => h63
  have hbare : AllBare s₁.gens := AllBare.of_eq hgens
  refine wpAny_mono (Mine.law_walk (kIn_of stands) T (by decide) (by decide) hbare F cells hL hI (by omega) ha hb hm hi hc hx fun h' tk gn hb2 hk => ?_) (fun f s' hq => hq) (fun _ _ e => e.elim)
  refine ⟨.inl ⟨_, .bool true, [], rfl, raisesW_false ?_, .bool true, ?_, unshared_nil⟩, .of_keep hk, rfl, hb2⟩
  · wrow_none_raised
  · kc_post
