import PyProof.Rows.All
import Wide.All
import OpenK.AllK
import Wide.FinOn
import PySem.Challenge.RW_ta0044_01
open PySem PySem.W PyProof.Rows
set_option Elab.async false
set_option maxRecDepth 100000
set_option rowWalk.seconds 0
set_option compiler.extract_closed false
section -- H1
open PySem PySem.W PyProof.Rows
set_option Elab.async false
set_option maxRecDepth 100000
set_option maxHeartbeats 8000000
namespace Mine
section
local macro_rules | `(tactic| o_head $_H) => `(tactic| assumption)
theorem pre (h : OpenRow.Holds PySem.Challenge.rw_ta0044_01.row) : OpenRow.Holds PySem.Challenge.rw_ta0044_01.row := by
  k_head
end
theorem wpAny_toks {α : Type} {M : Model} {A : Around} {x : Sem α} {Q : α → Shared → Prop} {E : Value → Shared → Prop} {h : Heap} {d : Drawn} {g : Array GenState} {n : Nat} {o : OsState}
  (H : ∀ k, wpAny M A x Q E ⟨h, g, d, k, o⟩) : wpAny M A x Q E ⟨h, g, d, n, o⟩ := H n
end Mine
end -- H1
local macro_rules | `(tactic| walk_at "my enter 1") => `(tactic| ((case kA => exact rfl); (case kF => exact rfl); (case kK => first | exact rfl | assumption); (case k1 => k_asm); (case k2 => k_asm); (case k3 => k_asm); (case k4 => k_asm); (case k5 => k_asm); (case k6 => k_is); (case k7 => k_is); (case k8 => ktr_room); (case k9 => first | exact BindsTo.of_eq rfl | (refine' kp_binds ?kx ?ke; (case kx => k_in); (case ke => exact fun _ => rfl))); (case c5 => decide); (case kB => exact locs rfl); (case c2 => exact rfl); (case c3 => exact rfl); (case c4 => exact rfl); k_whole; intro g' L' h' FG' F' N' B' X' T'; (try dsimp only); (try k_fold)))
local macro_rules | `(tactic| walk_at "my enter 2") => `(tactic| ((case kA => exact rfl); (case kF => exact rfl); (case kK => first | exact rfl | assumption); (case k1 => k_asm); (case k2 => k_asm); (case k3 => k_asm); (case k4 => k_asm); (case k5 => k_asm); (case k6 => k_is); (case k7 => k_is); (case k8 => ktr_room); (case k9 => first | exact BindsTo.of_eq rfl | (refine' kp_binds ?kx ?ke; (case kx => k_in); (case ke => exact fun _ => rfl))); (case kB => exact rfl); (case kD => decide +kernel); (case c2 => exact rfl); (case c3 => exact rfl); (case c4 => exact rfl); k_whole))
local macro_rules | `(tactic| walk_at "my enter 3") => `(tactic| ((case kA => exact rfl); (case kF => exact rfl); (case kK => first | exact rfl | assumption); (case k1 => k_asm); (case k2 => k_asm); (case k3 => k_asm); (case k4 => k_asm); (case k5 => k_asm); (case k6 => k_is); (case k7 => k_is); (case k8 => ktr_room); (case k9 => first | exact BindsTo.of_eq rfl | (refine' kp_binds ?kx ?ke; (case kx => k_in); (case ke => exact fun _ => rfl))); (case c5 => decide); (case kB => exact locs rfl); (case c2 => exact rfl); (case c3 => exact rfl); (case c4 => exact rfl); k_whole))
section -- B2
open PySem PySem.W PySem.Calls PyProof.Rows
set_option Elab.async false
set_option maxRecDepth 100000
set_option maxHeartbeats 8000000
namespace Mine
local macro_rules | `(tactic| walk_at "call builtin:len") => `(tactic| ((with_reducible show wpAny _ _ (call (Value.builtin "len") [Value.ref _]) _ _ _); refine' len_list (News.isList ?N ?hm) ?hf ?_; (case N => assumption); (case hm => assumption); (case hf => first | assumption | (simp only [List.size_toArray]; omega))))
theorem clear_1 : True := by
  first
  | (row_walk; done)
  | trivial
def Stop (P : Prop) : Prop := P
theorem Stop.mk {P : Prop} (h : Stop P) : P := h
theorem Stop.out {P : Prop} (h : P) : Stop P := h
local macro_rules | `(tactic| walk_at "exec While Compare cons nil") => `(tactic| refine Stop.mk ?_)
theorem clear_2 : True := by
  first
  | (row_walk; done)
  | trivial
-- what stands behind a turn made opaque: a walk's terms name it at every step
theorem ksw_opq {M : Model} {A : Around} {x : Sem Bool} {y : Sem Flow} {K : Flow → Shared → Prop} {R : Shared → Prop} {E : Value → Shared → Prop} {s : Shared}
  (H : ∀ K' : Flow → Shared → Prop, (∀ f s', K f s' → K' f s') → wpAny M A x (fun b s₂ => if b = true then wpAny M A y K' E s₂ else R s₂) E s) :
  wpAny M A x (fun b s₂ => if b = true then wpAny M A y K E s₂ else R s₂) E s := H K fun _ _ q => q
theorem fdiv2 {i : Int} : i.fdiv 2 = i / 2 := Int.fdiv_eq_ediv_of_nonneg i (by decide)
theorem all2 {α : Type} {P : α → Prop} {a b : α} (h1 : P a) (h2 : P b) : ∀ q ∈ [a, b], P q := by
  intro q hq
  rcases hq with _ | ⟨_, _ | ⟨_, ⟨⟩⟩⟩
  · exact h1
  · exact h2
theorem kst_same {ps : List (Str × Value)} {stored : List Str} {u m₀ : Str → Option Value} {z : Str} (h2 : ∀ p ∈ ps, z ≠ p.1) (h3 : stored.contains z = false) :
    kstB (fun z => if stored.contains z then u z else m₀ z) ps z = m₀ z := by
  induction ps with
  | nil => show (if stored.contains z = true then u z else m₀ z) = m₀ z; rw [h3]; rfl
  | cons p r ih =>
    show (if z = p.1 then some p.2 else kstB _ r z) = m₀ z
    rw [if_neg (h2 p (.head _))]
    exact ih fun q hq => h2 q (.tail _ hq)
theorem kst_same2 {x y : Str} {v v' : Value} {stored : List Str} {u m₀ : Str → Option Value} {z : Str} (h1 : ¬ z = x) (h2 : ¬ z = y) (h3 : stored.contains z = false) :
    kstB (fun z => if stored.contains z then u z else m₀ z) [(x, v), (y, v')] z = m₀ z := kst_same (all2 (P := fun p : Str × Value => z ≠ p.1) h1 h2) h3
theorem not_mem1 {z x : Str} (h : [x].contains z = false) : z ≠ x := by
  intro q; subst q; simp at h
-- the cut: a place i lies below c just if P i
theorem cut_up {n : Nat} {P : Nat → Prop} {c : Nat} (hcut : ∀ i : Nat, i < n → (P i ↔ i < c)) {lo hi : Int} (h1 : 0 ≤ lo) (h2 : lo < hi) (h3 : hi ≤ n)
   (h : P ((lo + hi) / 2).toNat) : (lo + hi) / 2 + 1 ≤ c := by
  have := (hcut ((lo + hi) / 2).toNat (by omega)).mp h
  omega
theorem cut_dn {n : Nat} {P : Nat → Prop} {c : Nat} (hcut : ∀ i : Nat, i < n → (P i ↔ i < c)) {lo hi : Int} (h1 : 0 ≤ lo) (h2 : lo < hi) (h3 : hi ≤ n)
   (h : ¬ P ((lo + hi) / 2).toNat) : c ≤ (lo + hi) / 2 := by
  have := mt (hcut ((lo + hi) / 2).toNat (by omega)).mpr h
  omega
-- the invariant of a bisection, turn by turn
theorem inv_up {n c l₀ h₀ lo hi : Int} (h1 : 0 ≤ lo) (h3 : hi ≤ n) (h4 : l₀ ≤ lo) (h5 : hi ≤ h₀) (h7 : hi = h₀ ∨ c ≤ hi) (hl : lo < hi) (h : (lo + hi) / 2 + 1 ≤ c) :
    0 ≤ (lo + hi) / 2 + 1 ∧ (lo + hi) / 2 + 1 ≤ hi ∧ hi ≤ n ∧ l₀ ≤ (lo + hi) / 2 + 1 ∧ hi ≤ h₀ ∧ ((lo + hi) / 2 + 1 = l₀ ∨ (lo + hi) / 2 + 1 ≤ c) ∧ (hi = h₀ ∨ c ≤ hi) := by
  have g : lo ≤ (lo + hi) / 2 ∧ (lo + hi) / 2 < hi := by omega
  exact ⟨by omega, by omega, h3, by omega, h5, .inr h, h7⟩
theorem inv_dn {n c l₀ h₀ lo hi : Int} (h1 : 0 ≤ lo) (h3 : hi ≤ n) (h4 : l₀ ≤ lo) (h5 : hi ≤ h₀) (h6 : lo = l₀ ∨ lo ≤ c) (hl : lo < hi) (h : c ≤ (lo + hi) / 2) :
    0 ≤ lo ∧ lo ≤ (lo + hi) / 2 ∧ (lo + hi) / 2 ≤ n ∧ l₀ ≤ lo ∧ (lo + hi) / 2 ≤ h₀ ∧ (lo = l₀ ∨ lo ≤ c) ∧ ((lo + hi) / 2 = h₀ ∨ c ≤ (lo + hi) / 2) := by
  have g : lo ≤ (lo + hi) / 2 ∧ (lo + hi) / 2 < hi := by omega
  exact ⟨h1, g.1, by omega, h4, by omega, h6, .inr h⟩
theorem inv_up2 {n c lo hi : Int} (h1 : 0 ≤ lo) (h3 : hi ≤ n) (h7 : hi = n ∨ c ≤ hi) (hl : lo < hi) (h : (lo + hi) / 2 + 1 ≤ c) :
    0 ≤ (lo + hi) / 2 + 1 ∧ (lo + hi) / 2 + 1 ≤ hi ∧ hi ≤ n ∧ ((lo + hi) / 2 + 1 = 0 ∨ (lo + hi) / 2 + 1 ≤ c) ∧ (hi = n ∨ c ≤ hi) :=
  have g := inv_up h1 h3 h1 h3 h7 hl h
  ⟨g.1, g.2.1, g.2.2.1, g.2.2.2.2.2.1, g.2.2.2.2.2.2⟩
theorem inv_dn2 {n c lo hi : Int} (h1 : 0 ≤ lo) (h3 : hi ≤ n) (h6 : lo = 0 ∨ lo ≤ c) (hl : lo < hi) (h : c ≤ (lo + hi) / 2) :
    0 ≤ lo ∧ lo ≤ (lo + hi) / 2 ∧ (lo + hi) / 2 ≤ n ∧ (lo = 0 ∨ lo ≤ c) ∧ ((lo + hi) / 2 = n ∨ c ≤ (lo + hi) / 2) :=
  have g := inv_dn h1 h3 h1 h3 h6 hl h
  ⟨g.1, g.2.1, g.2.2.1, g.2.2.2.2.2.1, g.2.2.2.2.2.2⟩
theorem low_up {lo hi : Int} (hl : lo < hi) : (hi - ((lo + hi) / 2 + 1)).toNat < (hi - lo).toNat := by omega
theorem low_dn {lo hi : Int} (hl : lo < hi) : ((lo + hi) / 2 - lo).toNat < (hi - lo).toNat := by omega
theorem bisl2 (w : World) (p : Program) (loose : List Str) (mean : ExcName → Option Value) (mg mb : Str → Option Value)
  (dp un : Nat) (gd : Option (List Code)) (cn : Str) (cs : Scope) (a : Addr) (ccd : Value) (cl : List (Str × Addr)) (outer : List Env) (A₀ : Around) (base h₀ : Heap) (L : Addr) (m : Str → Option Value) (s : Shared) (Q E : Value → Shared → Prop) (news : List (Addr × Obj))
  (B : Below A₀ base outer h₀) (F : Fr h₀ L s.heap m) (X : (pre.heap_1 w.params).In h₀) (N : News h₀ L s.heap news) (T : Top p loose mean mg mb h₀) (hk : cs.kind = .function) (hdp : dp + 1 < recursionLimit)
  (la : Addr) (vs : List Value) (ns : List Int) (nn : Nat) (hm : (la, listOf vs.toArray nn) ∈ news) (hi : IntsAre vs ns) (hlen : vs.length < 2 ^ 40) (x : Int) (t1 : Tok)
  (c : Nat) (hc : c ≤ ns.length) (hcut : ∀ i : Nat, i < ns.length → ((ns.getD i 0 < x) ↔ i < c))
  (hret : ∀ (h' : Heap) (tk' : Nat) (u : Tok), Fr h₀ L h' m → News h₀ L h' news → Q (.int ((c : Int)) u) { s with heap := h', toks := tk' }) :
  wpAny (model PySem.Challenge.rw_ta0044_01.row.prog w) (ktrTop dp un gd cn cs L a ccd cl outer) (call (.ref 124) [.ref la, .int x t1]) Q E s := by
  revert X; k_fill; intro X
  refine wpAny_call ?_
  refine' code_def (binds := [("a", .ref la), ("x", .int x t1), ("lo", .int 0 360), ("hi", .none), ("key", .none)]) ?k1 ?k2 ?k3 ?k4 ?k5 ?kA ?kF ?kK ?k6 ?k7 ?k8 ?k9 ?kB ?_ ?c2 ?c3 ?c4 ?c5
  walk_at "my enter 1"
  k_steps
  refine Stop.out ?_
  rename Fr _ _ _ _ => F'
  rename News _ _ _ _ => N'
  refine ksw_while (σ := (Int × Int) × (Tok × Tok)) (fun _ => news) (fun c => [("lo", .int c.1.1 c.2.1), ("hi", .int c.1.2 c.2.2)]) (fun _ => True) ["mid"] (fun d => 0 ≤ d.1.1 ∧ d.1.1 ≤ d.1.2 ∧ d.1.2 ≤ ns.length ∧ 0 ≤ d.1.1 ∧ d.1.2 ≤ (ns.length : Int) ∧ (d.1.1 = 0 ∨ d.1.1 ≤ c) ∧ (d.1.2 = (ns.length : Int) ∨ c ≤ d.1.2)) (fun c => (c.1.2 - c.1.1).toNat) ((0, _), (_, _)) F' N' trivial (all2 rfl rfl) ?hp ?turn
  case hp => (simp [hi.length]) <;> omega
  case turn =>
    rintro ⟨⟨lo, hi⟩, ⟨u1, u2⟩⟩ u h tk - ⟨h1, h2, h3, h4, h5, h6, h7⟩ F N
    dsimp only at F N h1 h2 h3 h4 h5 h6 h7 ⊢
    refine ksw_opq fun K' hK => ?_
    k_steps
    · rw [fdiv2] at *
      have := cut_up hcut h1 (by assumption) h3 (by assumption)
      refine hK _ _ ?_
      refine ksw_end ((_, _), (_, _)) (by assumption) (by assumption) (fun _ h => h) trivial (all2 rfl rfl) (by intro z h2 h3; have a1 : ¬ z = _ := h2 _ (.head _); have a2 : ¬ z = _ := h2 _ (.tail _ (.head _)); have a3 : ¬ z = _ := not_mem1 h3; dsimp only at a1 a2 a3; first | exact (if_neg a1).trans ((if_neg a3).trans (kst_same2 a1 a2 h3)) | exact (if_neg a2).trans ((if_neg a3).trans (kst_same2 a1 a2 h3))) (inv_up h1 h3 h4 h5 h7 (by assumption) (by assumption)) (low_up (by assumption))
    · rw [fdiv2] at *
      have := cut_dn hcut h1 (by assumption) h3 (by assumption)
      refine hK _ _ ?_
      refine ksw_end ((_, _), (_, _)) (by assumption) (by assumption) (fun _ h => h) trivial (all2 rfl rfl) (by intro z h2 h3; have a1 : ¬ z = _ := h2 _ (.head _); have a2 : ¬ z = _ := h2 _ (.tail _ (.head _)); have a3 : ¬ z = _ := not_mem1 h3; dsimp only at a1 a2 a3; first | exact (if_neg a1).trans ((if_neg a3).trans (kst_same2 a1 a2 h3)) | exact (if_neg a2).trans ((if_neg a3).trans (kst_same2 a1 a2 h3))) (inv_dn h1 h3 h4 h5 h6 (by assumption) (by assumption)) (low_dn (by assumption))
    · have e : lo = (c : Int) := by omega
      rw [e]
      exact hret _ _ _ (by assumption) (by assumption)
theorem bisl4 (w : World) (p : Program) (loose : List Str) (mean : ExcName → Option Value) (mg mb : Str → Option Value)
  (dp un : Nat) (gd : Option (List Code)) (cn : Str) (cs : Scope) (a : Addr) (ccd : Value) (cl : List (Str × Addr)) (outer : List Env) (A₀ : Around) (base h₀ : Heap) (L : Addr) (m : Str → Option Value) (s : Shared) (Q E : Value → Shared → Prop) (news : List (Addr × Obj))
  (B : Below A₀ base outer h₀) (F : Fr h₀ L s.heap m) (X : (pre.heap_1 w.params).In h₀) (N : News h₀ L s.heap news) (T : Top p loose mean mg mb h₀) (hk : cs.kind = .function) (hdp : dp + 1 < recursionLimit)
  (la : Addr) (vs : List Value) (ns : List Int) (nn : Nat) (hm : (la, listOf vs.toArray nn) ∈ news) (hi : IntsAre vs ns) (hlen : vs.length < 2 ^ 40) (x : Int) (t1 : Tok)
  (c : Nat) (lo₀ hi₀ : Int) (t2 t3 : Tok) (hlo : 0 ≤ lo₀) (hlh : lo₀ ≤ hi₀) (hhi : hi₀ ≤ ns.length) (hcut : ∀ i : Nat, i < ns.length → ((ns.getD i 0 < x) ↔ i < c))
  (hret : ∀ (h' : Heap) (tk' : Nat) (u : Tok), Fr h₀ L h' m → News h₀ L h' news → Q (.int (min (max (c : Int) lo₀) hi₀) u) { s with heap := h', toks := tk' }) :
  wpAny (model PySem.Challenge.rw_ta0044_01.row.prog w) (ktrTop dp un gd cn cs L a ccd cl outer) (call (.ref 124) [.ref la, .int x t1, .int lo₀ t2, .int hi₀ t3]) Q E s := by
  revert X; k_fill; intro X
  refine wpAny_call ?_
  refine' code_def (binds := [("a", .ref la), ("x", .int x t1), ("lo", .int lo₀ t2), ("hi", .int hi₀ t3), ("key", .none)]) ?k1 ?k2 ?k3 ?k4 ?k5 ?kA ?kF ?kK ?k6 ?k7 ?k8 ?k9 ?kB ?_ ?c2 ?c3 ?c4 ?c5
  walk_at "my enter 1"
  k_steps
  refine Stop.out ?_
  rename Fr _ _ _ _ => F'
  rename News _ _ _ _ => N'
  refine ksw_while (σ := (Int × Int) × (Tok × Tok)) (fun _ => news) (fun c => [("lo", .int c.1.1 c.2.1), ("hi", .int c.1.2 c.2.2)]) (fun _ => True) ["mid"] (fun d => 0 ≤ d.1.1 ∧ d.1.1 ≤ d.1.2 ∧ d.1.2 ≤ ns.length ∧ lo₀ ≤ d.1.1 ∧ d.1.2 ≤ hi₀ ∧ (d.1.1 = lo₀ ∨ d.1.1 ≤ c) ∧ (d.1.2 = hi₀ ∨ c ≤ d.1.2)) (fun c => (c.1.2 - c.1.1).toNat) ((lo₀, hi₀), (_, _)) F' N' trivial (all2 rfl rfl) ?hp ?turn
  case hp => dsimp only; omega
  case turn =>
    rintro ⟨⟨lo, hi⟩, ⟨u1, u2⟩⟩ u h tk - ⟨h1, h2, h3, h4, h5, h6, h7⟩ F N
    dsimp only at F N h1 h2 h3 h4 h5 h6 h7 ⊢
    refine ksw_opq fun K' hK => ?_
    k_steps
    · rw [fdiv2] at *
      have := cut_up hcut h1 (by assumption) h3 (by assumption)
      refine hK _ _ ?_
      refine ksw_end ((_, _), (_, _)) (by assumption) (by assumption) (fun _ h => h) trivial (all2 rfl rfl) (by intro z h2 h3; have a1 : ¬ z = _ := h2 _ (.head _); have a2 : ¬ z = _ := h2 _ (.tail _ (.head _)); have a3 : ¬ z = _ := not_mem1 h3; dsimp only at a1 a2 a3; first | exact (if_neg a1).trans ((if_neg a3).trans (kst_same2 a1 a2 h3)) | exact (if_neg a2).trans ((if_neg a3).trans (kst_same2 a1 a2 h3))) (inv_up h1 h3 h4 h5 h7 (by assumption) (by assumption)) (low_up (by assumption))
    · rw [fdiv2] at *
      have := cut_dn hcut h1 (by assumption) h3 (by assumption)
      refine hK _ _ ?_
      refine ksw_end ((_, _), (_, _)) (by assumption) (by assumption) (fun _ h => h) trivial (all2 rfl rfl) (by intro z h2 h3; have a1 : ¬ z = _ := h2 _ (.head _); have a2 : ¬ z = _ := h2 _ (.tail _ (.head _)); have a3 : ¬ z = _ := not_mem1 h3; dsimp only at a1 a2 a3; first | exact (if_neg a1).trans ((if_neg a3).trans (kst_same2 a1 a2 h3)) | exact (if_neg a2).trans ((if_neg a3).trans (kst_same2 a1 a2 h3))) (inv_dn h1 h3 h4 h5 h6 (by assumption) (by assumption)) (low_dn (by assumption))
    · have e : lo = min (max (c : Int) lo₀) hi₀ := by omega
      rw [e]
      exact hret _ _ _ (by assumption) (by assumption)
theorem bisr2 (w : World) (p : Program) (loose : List Str) (mean : ExcName → Option Value) (mg mb : Str → Option Value)
  (dp un : Nat) (gd : Option (List Code)) (cn : Str) (cs : Scope) (a : Addr) (ccd : Value) (cl : List (Str × Addr)) (outer : List Env) (A₀ : Around) (base h₀ : Heap) (L : Addr) (m : Str → Option Value) (s : Shared) (Q E : Value → Shared → Prop) (news : List (Addr × Obj))
  (B : Below A₀ base outer h₀) (F : Fr h₀ L s.heap m) (X : (pre.heap_1 w.params).In h₀) (N : News h₀ L s.heap news) (T : Top p loose mean mg mb h₀) (hk : cs.kind = .function) (hdp : dp + 1 < recursionLimit)
  (la : Addr) (vs : List Value) (ns : List Int) (nn : Nat) (hm : (la, listOf vs.toArray nn) ∈ news) (hi : IntsAre vs ns) (hlen : vs.length < 2 ^ 40) (x : Int) (t1 : Tok)
  (c : Nat) (hc : c ≤ ns.length) (hcut : ∀ i : Nat, i < ns.length → ((¬ x < ns.getD i 0) ↔ i < c))
  (hret : ∀ (h' : Heap) (tk' : Nat) (u : Tok), Fr h₀ L h' m → News h₀ L h' news → Q (.int ((c : Int)) u) { s with heap := h', toks := tk' }) :
  wpAny (model PySem.Challenge.rw_ta0044_01.row.prog w) (ktrTop dp un gd cn cs L a ccd cl outer) (call (.ref 106) [.ref la, .int x t1]) Q E s := by
  revert X; k_fill; intro X
  refine wpAny_call ?_
  refine' code_def (binds := [("a", .ref la), ("x", .int x t1), ("lo", .int 0 333), ("hi", .none), ("key", .none)]) ?k1 ?k2 ?k3 ?k4 ?k5 ?kA ?kF ?kK ?k6 ?k7 ?k8 ?k9 ?kB ?_ ?c2 ?c3 ?c4 ?c5
  walk_at "my enter 1"
  k_steps
  refine Stop.out ?_
  rename Fr _ _ _ _ => F'
  rename News _ _ _ _ => N'
  refine ksw_while (σ := (Int × Int) × (Tok × Tok)) (fun _ => news) (fun c => [("lo", .int c.1.1 c.2.1), ("hi", .int c.1.2 c.2.2)]) (fun _ => True) ["mid"] (fun d => 0 ≤ d.1.1 ∧ d.1.1 ≤ d.1.2 ∧ d.1.2 ≤ ns.length ∧ 0 ≤ d.1.1 ∧ d.1.2 ≤ (ns.length : Int) ∧ (d.1.1 = 0 ∨ d.1.1 ≤ c) ∧ (d.1.2 = (ns.length : Int) ∨ c ≤ d.1.2)) (fun c => (c.1.2 - c.1.1).toNat) ((0, _), (_, _)) F' N' trivial (all2 rfl rfl) ?hp ?turn
  case hp => (simp [hi.length]) <;> omega
  case turn =>
    rintro ⟨⟨lo, hi⟩, ⟨u1, u2⟩⟩ u h tk - ⟨h1, h2, h3, h4, h5, h6, h7⟩ F N
    dsimp only at F N h1 h2 h3 h4 h5 h6 h7 ⊢
    refine ksw_opq fun K' hK => ?_
    k_steps
    · rw [fdiv2] at *
      have := cut_dn hcut h1 (by assumption) h3 (Decidable.not_not.mpr (by assumption))
      refine hK _ _ ?_
      refine ksw_end ((_, _), (_, _)) (by assumption) (by assumption) (fun _ h => h) trivial (all2 rfl rfl) (by intro z h2 h3; have a1 : ¬ z = _ := h2 _ (.head _); have a2 : ¬ z = _ := h2 _ (.tail _ (.head _)); have a3 : ¬ z = _ := not_mem1 h3; dsimp only at a1 a2 a3; first | exact (if_neg a1).trans ((if_neg a3).trans (kst_same2 a1 a2 h3)) | exact (if_neg a2).trans ((if_neg a3).trans (kst_same2 a1 a2 h3))) (inv_dn h1 h3 h4 h5 h6 (by assumption) (by assumption)) (low_dn (by assumption))
    · rw [fdiv2] at *
      have := cut_up hcut h1 (by assumption) h3 (by assumption)
      refine hK _ _ ?_
      refine ksw_end ((_, _), (_, _)) (by assumption) (by assumption) (fun _ h => h) trivial (all2 rfl rfl) (by intro z h2 h3; have a1 : ¬ z = _ := h2 _ (.head _); have a2 : ¬ z = _ := h2 _ (.tail _ (.head _)); have a3 : ¬ z = _ := not_mem1 h3; dsimp only at a1 a2 a3; first | exact (if_neg a1).trans ((if_neg a3).trans (kst_same2 a1 a2 h3)) | exact (if_neg a2).trans ((if_neg a3).trans (kst_same2 a1 a2 h3))) (inv_up h1 h3 h4 h5 h7 (by assumption) (by assumption)) (low_up (by assumption))
    · have e : lo = (c : Int) := by omega
      rw [e]
      exact hret _ _ _ (by assumption) (by assumption)
theorem bisr4 (w : World) (p : Program) (loose : List Str) (mean : ExcName → Option Value) (mg mb : Str → Option Value)
  (dp un : Nat) (gd : Option (List Code)) (cn : Str) (cs : Scope) (a : Addr) (ccd : Value) (cl : List (Str × Addr)) (outer : List Env) (A₀ : Around) (base h₀ : Heap) (L : Addr) (m : Str → Option Value) (s : Shared) (Q E : Value → Shared → Prop) (news : List (Addr × Obj))
  (B : Below A₀ base outer h₀) (F : Fr h₀ L s.heap m) (X : (pre.heap_1 w.params).In h₀) (N : News h₀ L s.heap news) (T : Top p loose mean mg mb h₀) (hk : cs.kind = .function) (hdp : dp + 1 < recursionLimit)
  (la : Addr) (vs : List Value) (ns : List Int) (nn : Nat) (hm : (la, listOf vs.toArray nn) ∈ news) (hi : IntsAre vs ns) (hlen : vs.length < 2 ^ 40) (x : Int) (t1 : Tok)
  (c : Nat) (lo₀ hi₀ : Int) (t2 t3 : Tok) (hlo : 0 ≤ lo₀) (hlh : lo₀ ≤ hi₀) (hhi : hi₀ ≤ ns.length) (hcut : ∀ i : Nat, i < ns.length → ((¬ x < ns.getD i 0) ↔ i < c))
  (hret : ∀ (h' : Heap) (tk' : Nat) (u : Tok), Fr h₀ L h' m → News h₀ L h' news → Q (.int (min (max (c : Int) lo₀) hi₀) u) { s with heap := h', toks := tk' }) :
  wpAny (model PySem.Challenge.rw_ta0044_01.row.prog w) (ktrTop dp un gd cn cs L a ccd cl outer) (call (.ref 106) [.ref la, .int x t1, .int lo₀ t2, .int hi₀ t3]) Q E s := by
  revert X; k_fill; intro X
  refine wpAny_call ?_
  refine' code_def (binds := [("a", .ref la), ("x", .int x t1), ("lo", .int lo₀ t2), ("hi", .int hi₀ t3), ("key", .none)]) ?k1 ?k2 ?k3 ?k4 ?k5 ?kA ?kF ?kK ?k6 ?k7 ?k8 ?k9 ?kB ?_ ?c2 ?c3 ?c4 ?c5
  walk_at "my enter 1"
  k_steps
  refine Stop.out ?_
  rename Fr _ _ _ _ => F'
  rename News _ _ _ _ => N'
  refine ksw_while (σ := (Int × Int) × (Tok × Tok)) (fun _ => news) (fun c => [("lo", .int c.1.1 c.2.1), ("hi", .int c.1.2 c.2.2)]) (fun _ => True) ["mid"] (fun d => 0 ≤ d.1.1 ∧ d.1.1 ≤ d.1.2 ∧ d.1.2 ≤ ns.length ∧ lo₀ ≤ d.1.1 ∧ d.1.2 ≤ hi₀ ∧ (d.1.1 = lo₀ ∨ d.1.1 ≤ c) ∧ (d.1.2 = hi₀ ∨ c ≤ d.1.2)) (fun c => (c.1.2 - c.1.1).toNat) ((lo₀, hi₀), (_, _)) F' N' trivial (all2 rfl rfl) ?hp ?turn
  case hp => dsimp only; omega
  case turn =>
    rintro ⟨⟨lo, hi⟩, ⟨u1, u2⟩⟩ u h tk - ⟨h1, h2, h3, h4, h5, h6, h7⟩ F N
    dsimp only at F N h1 h2 h3 h4 h5 h6 h7 ⊢
    refine ksw_opq fun K' hK => ?_
    k_steps
    · rw [fdiv2] at *
      have := cut_dn hcut h1 (by assumption) h3 (Decidable.not_not.mpr (by assumption))
      refine hK _ _ ?_
      refine ksw_end ((_, _), (_, _)) (by assumption) (by assumption) (fun _ h => h) trivial (all2 rfl rfl) (by intro z h2 h3; have a1 : ¬ z = _ := h2 _ (.head _); have a2 : ¬ z = _ := h2 _ (.tail _ (.head _)); have a3 : ¬ z = _ := not_mem1 h3; dsimp only at a1 a2 a3; first | exact (if_neg a1).trans ((if_neg a3).trans (kst_same2 a1 a2 h3)) | exact (if_neg a2).trans ((if_neg a3).trans (kst_same2 a1 a2 h3))) (inv_dn h1 h3 h4 h5 h6 (by assumption) (by assumption)) (low_dn (by assumption))
    · rw [fdiv2] at *
      have := cut_up hcut h1 (by assumption) h3 (by assumption)
      refine hK _ _ ?_
      refine ksw_end ((_, _), (_, _)) (by assumption) (by assumption) (fun _ h => h) trivial (all2 rfl rfl) (by intro z h2 h3; have a1 : ¬ z = _ := h2 _ (.head _); have a2 : ¬ z = _ := h2 _ (.tail _ (.head _)); have a3 : ¬ z = _ := not_mem1 h3; dsimp only at a1 a2 a3; first | exact (if_neg a1).trans ((if_neg a3).trans (kst_same2 a1 a2 h3)) | exact (if_neg a2).trans ((if_neg a3).trans (kst_same2 a1 a2 h3))) (inv_up h1 h3 h4 h5 h7 (by assumption) (by assumption)) (low_up (by assumption))
    · have e : lo = min (max (c : Int) lo₀) hi₀ := by omega
      rw [e]
      exact hret _ _ _ (by assumption) (by assumption)
end Mine
end -- B2
section -- M1
open PySem PySem.W PySem.Calls PyProof.Rows
namespace Mine
def Hide (P : Prop) : Prop := P
theorem Hide.mk {P : Prop} (h : P) : Hide P := h
theorem Hide.out {P : Prop} (h : Hide P) : P := h
def digs (b : Int) : Nat → Int → List Int
  | 0, _ => []
  | k + 1, x => x % b :: digs b k (x / b)
theorem digs_len (b : Int) : ∀ (k : Nat) (x : Int), (digs b k x).length = k
  | 0, _ => rfl
  | k + 1, x => by rw [digs, List.length_cons, digs_len b k]
theorem digs_split {b : Int} (hb : 0 < b) : ∀ (i j : Nat) (x : Int), digs b (i + j) x = digs b i (x % b ^ i) ++ digs b j (x / b ^ i)
  | 0, j, x => by simp [digs]
  | i + 1, j, x => by
    have e1 : i + 1 + j = (i + j) + 1 := by omega
    have hbi : 0 < b ^ i := Int.pow_pos hb
    rw [e1, digs, digs, digs_split hb i j, List.cons_append]
    have a1 : x % b ^ (i + 1) % b = x % b := Int.emod_emod_of_dvd x ⟨b ^ i, by rw [Int.pow_succ, Int.mul_comm]⟩
    have a2 : x % b ^ (i + 1) / b = x / b % b ^ i := by
      rw [Int.pow_succ, Int.mul_comm]
      rw [Int.emod_def x, Int.emod_def (x / b), Int.mul_assoc b (b ^ i), Int.sub_eq_add_neg, ← Int.mul_neg, Int.add_mul_ediv_left _ _ (by omega), Int.ediv_ediv_of_nonneg (by omega)]
      omega
    have a3 : x / b ^ (i + 1) = x / b / b ^ i := by
      rw [Int.pow_succ, Int.mul_comm, Int.ediv_ediv_of_nonneg (by omega)]
    rw [a1, a2, a3]
theorem splice {ds : List Int} {lo j k : Nat} {A B : List Int} (hA : A.length = j) (hB : B.length = k) (hl : lo + (j + k) ≤ ds.length) :
    (ds.take lo ++ A ++ ds.drop (lo + j)).take (lo + j) ++ B ++ (ds.take lo ++ A ++ ds.drop (lo + j)).drop (lo + (j + k)) = ds.take lo ++ (A ++ B) ++ ds.drop (lo + (j + k)) := by
  have l1 : (ds.take lo ++ A).length = lo + j := by rw [List.length_append, List.length_take, hA]; omega
  have t1 : (ds.take lo ++ A ++ ds.drop (lo + j)).take (lo + j) = ds.take lo ++ A := by
    rw [← l1, List.take_left]
  have t2 : (ds.take lo ++ A ++ ds.drop (lo + j)).drop (lo + (j + k)) = ds.drop (lo + (j + k)) := by
    rw [List.drop_append, l1, List.drop_eq_nil_of_le (by rw [l1]; omega), List.nil_append, List.drop_drop]
    congr 1; omega
  rw [t1, t2]
  simp only [List.append_assoc]
theorem and_high (x s : Nat) : x &&& (x / 2 ^ s * 2 ^ s) = x / 2 ^ s * 2 ^ s := by
  apply Nat.eq_of_testBit_eq
  intro i
  rw [Nat.testBit_and, ← Nat.shiftLeft_eq, ← Nat.shiftRight_eq_div_pow, Nat.testBit_shiftLeft, Nat.testBit_shiftRight]
  by_cases h : i ≥ s
  · have : s + (i - s) = i := by omega
    simp [h, this]
  · simp [h]
theorem xor_low (x s : Nat) : Builtin.bitXor (x : Int) ((x : Int) / 2 ^ s * 2 ^ s) = (x : Int) % 2 ^ s := by
  rw [bitXor_and]
  have e : (x : Int) / 2 ^ s * 2 ^ s = ((x / 2 ^ s * 2 ^ s : Nat) : Int) := by simp
  have h : Builtin.bitAnd (x : Int) ((x / 2 ^ s * 2 ^ s : Nat) : Int) = ((x &&& (x / 2 ^ s * 2 ^ s) : Nat) : Int) := by
    rfl
  rw [e, h, and_high]
  have h2 : x % 2 ^ s = x - x / 2 ^ s * 2 ^ s := by
    have := Nat.div_add_mod x (2 ^ s); rw [Nat.mul_comm] at this; omega
  have h3 : x / 2 ^ s * 2 ^ s ≤ x := Nat.div_mul_le_self x _
  have h4 : (x : Int) % 2 ^ s = ((x % 2 ^ s : Nat) : Int) := by simp
  rw [h4, h2]
  omega
theorem xor_low' {x : Int} {s : Nat} (hx : 0 ≤ x) : Builtin.bitXor x (x / 2 ^ s * 2 ^ s) = x % 2 ^ s := by
  obtain ⟨y, rfl⟩ := Int.eq_ofNat_of_zero_le hx
  exact xor_low y s
theorem ne_of_rest {rest : List (Addr × Obj)} {b c : Addr} (hr : ∀ p ∈ rest, p.1 < b) (h : @LE.le Nat _ b c) : ∀ p ∈ rest, p.1 ≠ c :=
  fun p hp => Nat.ne_of_lt (Nat.lt_of_lt_of_le (hr p hp) h)
end Mine
end -- M1
section -- D3
open PySem PySem.W PySem.Calls PyProof.Rows
set_option Elab.async false
set_option maxRecDepth 100000
set_option maxHeartbeats 1000000
namespace Mine
local macro_rules | `(tactic| k_all) => `(tactic| first | assumption | exact ne_of_rest (by assumption) (by omega))
local macro_rules | `(tactic| walk_at "call ref") => `(tactic| refine Stop.mk ?_)
local macro_rules | `(tactic| walk_at "ite") => `(tactic| (first | (refine ite_pos (by (try simp only [decide_eq_true_eq, beq_iff_eq]); omega) ?_; walk_say "MY PRUNE") | (refine ite_neg (by (try simp only [decide_eq_true_eq, beq_iff_eq]); omega) ?_; walk_say "MY PRUNE")))
local macro_rules | `(tactic| walk_at "binaryOp RShift int int") => `(tactic| refine Stop.mk ?_)
local macro_rules | `(tactic| walk_at "binaryOp LShift int int") => `(tactic| refine Stop.mk ?_)
local macro_rules | `(tactic| walk_at "binaryOp BitXor int int") => `(tactic| refine Stop.mk ?_)
theorem clear_3 : True := by
  first
  | (row_walk; done)
  | trivial
theorem mid_eq {lo hi : Int} {k : Nat} (_h0 : 0 ≤ lo) (h : hi = lo + k) : (lo + hi).fdiv (2 ^ Int.toNat 1) = lo + (k / 2 : Nat) := by
  have e : (2 : Int) ^ Int.toNat 1 = 2 := rfl
  rw [e, fdiv2]; omega
theorem sh_eq {lo : Int} {j n : Nat} : (lo + (j : Int) - lo) * (n : Int) = ((n * j : Nat) : Int) := by
  rw [Int.natCast_mul, Int.mul_comm]; congr 1; omega
theorem up_eq {x : Int} {j n : Nat} : x.fdiv (2 ^ (((n * j : Nat) : Int)).toNat) = x / (2 ^ n) ^ j := by
  rw [Int.toNat_natCast, Int.pow_mul, Int.fdiv_eq_ediv_of_nonneg _ (Int.le_of_lt (Int.pow_pos (Int.pow_pos (by decide))))]
theorem room3 {d j k R : Nat} (h : d + k + 1 < R) (h' : j < k) : d + 1 + j + 1 < R := by omega
theorem toNat_plus {a : Int} {k : Nat} (h : 0 ≤ a) : (a + (k : Int)).toNat = a.toNat + k := by
  rw [Int.toNat_add h (Int.natCast_nonneg k), Int.toNat_natCast]
theorem inner_ok (w : World) (p : Program) (loose : List Str) (mean : ExcName → Option Value) (mg mb : Str → Option Value)
  {oc0 : Value} {od0 : Option Addr} {osl0 : Array (Option Value)} {nm0 q0 : Str} {ps0 : Arguments} {s0 : Stmt} {nmI : Str} {P : Arguments} {Bd : List Stmt} {dc : List Expr} {rt : Option Expr} {tp : List TypeParam} {S : Scope} {ts : Option Scope} {bd : Str} {pos : Pos} {rs : List Stmt} {sc0 : Scope} {dV0 kV0 doc0 pm0 : Value} {an0 : Option Addr} {cdv0 ct0 : Value}
  (ho : (pre.heap_1 w.params).lookup 67 = some ⟨oc0, od0, .func (fnOf nm0 q0 ps0 (s0 :: .FunctionDef nmI P Bd dc rt tp S ts bd pos :: rs) sc0 dV0 kV0 doc0 pm0 an0 cdv0 ct0), osl0⟩)
  (f c' la cN cI cA : Addr) (oc oN oI oA : Obj) (qual : Str) (vc : Array Value) (tc tn : Tok) (doc pm ctv : Value) (n : Nat) (hn : 0 < n) (hn1 : n < 1000)
  (hoc : oc.data = .fields vc) (hvc : vc[1]? = some (.str qual tc)) (hoN : oN.data = .cell (some (.int n tn))) (hoI : oI.data = .cell (some (.ref f))) (hoA : oA.data = .cell (some (.ref la)))
  (hne : f ≠ la ∧ c' ≠ la ∧ cN ≠ la ∧ cI ≠ la ∧ cA ≠ la) :
  ∀ (k : Nat) (dp un : Nat) (gd : Option (List Code)) (cn : Str) (cs : Scope) (a : Addr) (ccd : Value) (cl : List (Str × Addr)) (outer : List Env) (A₀ : Around) (base h₀ : Heap) (L : Addr) (m : Str → Option Value) (s : Shared) (Q E : Value → Shared → Prop) (rest : List (Addr × Obj)) (vs : List Value) (ds : List Int) (nn : Nat)
  (_B : Below A₀ base outer h₀) (_F : Fr h₀ L s.heap m) (_C : CodeHd base 66 62) (_X : (pre.heap_1 w.params).In h₀)
  (_N : News h₀ L s.heap ((f, fnMade nmI qual P Bd S [("n", cN), ("inner", cI), ("a_digits", cA)] doc pm c' ctv) :: (c', oc) :: (la, listOf vs.toArray nn) :: (cI, oI) :: (cA, oA) :: (cN, oN) :: rest)) (_T : Top p loose mean mg mb h₀) (_hk : cs.kind = .function) (_hdp : dp + k + 1 < recursionLimit)
  (_hrla : ∀ q ∈ rest, q.1 ≠ la) (_hi : IntsAre vs ds) (x lo hi : Int) (t1 t2 t3 : Tok) (_hk0 : 0 < k) (_hlo : 0 ≤ lo) (_hhi : hi = lo + k) (_hlen : hi ≤ ds.length) (_hlen2 : ds.length ≤ 256) (_hx : 0 ≤ x) (_hxk : Hide (x < (2 ^ n) ^ k))
  (_hret : ∀ (h' : Heap) (tk' : Nat) (vs' : List Value), IntsAre vs' (ds.take lo.toNat ++ digs (2 ^ n) k x ++ ds.drop hi.toNat) → Fr h₀ L h' m → News h₀ L h' ((f, fnMade nmI qual P Bd S [("n", cN), ("inner", cI), ("a_digits", cA)] doc pm c' ctv) :: (c', oc) :: (la, listOf vs'.toArray nn) :: (cI, oI) :: (cA, oA) :: (cN, oN) :: rest) → Q .none { s with heap := h', toks := tk' }),
  wpAny (model PySem.Challenge.rw_ta0044_01.row.prog w) (ktrTop dp un gd cn cs L a ccd cl outer) (call (.ref f) [.int x t1, .int lo t2, .int hi t3]) Q E s := by
  cases ho
  intro k
  induction k using Nat.strongRecOn with
  | ind k ih =>
  intro dp un gd cn cs a ccd cl outer A₀ base h₀ L m s Q E rest vs ds nn B F C62 X N T hk hdp hrla hi x lo hi' t1 t2 t3 hk0 hlo hhi hlen hlen2 hx hxk hret
  replace ih := Hide.mk ih
  revert X; k_fill; intro X
  refine wpAny_call ?_
  refine' code_nest (binds := [("x", .int x t1), ("L", .int lo t2), ("R", .int hi' t3)]) B F X N T ?kA ?kF ?kK (.head _) (codeRec_news N (.tail _ (.head _)) hoc hvc) ?k8 ?k9 ?kB ?_ ?c2 ?c3 ?c4 ?c5
  (case kA => exact rfl); (case kF => exact rfl); (case kK => assumption); (case k8 => ktr_room); (case k9 => exact BindsTo.of_eq rfl); (case c5 => decide); (case kB => exact locs rfl); (case c2 => exact rfl); (case c3 => exact rfl); (case c4 => exact rfl)
  intro g' L' h' FG' F' N' B' X' T'; (try dsimp only); (try k_fold)
  rcases Nat.lt_or_ge 1 k with hk1 | hk1
  · k_steps
    refine Stop.out (rshift_int (by decide) ?_)
    rw [mid_eq hlo hhi]
    k_steps
    refine Stop.out (rshift_int (by rw [sh_eq]; omega) ?_)
    rename Fr _ _ _ _ => F'
    rw [sh_eq] at F' ⊢
    rw [up_eq]
    (try dsimp only)
    k_steps
    have hxk' := hxk.out
    have hj : 0 < k / 2 ∧ k / 2 < k := by omega
    have hbj : (0 : Int) < (2 ^ n) ^ (k / 2) := Int.pow_pos (Int.pow_pos (by decide))
    have hsz : (Builtin.Int.intBits (x / (2 ^ n) ^ (k / 2)) : Int) + ((n * (k / 2) : Nat) : Int) ≤ 2 ^ 27 := by
      have h1 : Builtin.Int.intBits (x / (2 ^ n) ^ (k / 2)) ≤ n * k := by
        refine intBits_le_iff.mpr ?_
        have h2 : x / (2 ^ n) ^ (k / 2) ≤ x := Int.ediv_le_self _ hx
        have h3 : 0 ≤ x / (2 ^ n) ^ (k / 2) := Int.ediv_nonneg hx (Int.le_of_lt hbj)
        have h4 : (x.natAbs : Int) < ((2 ^ (n * k) : Nat) : Int) := by
          rw [Int.natCast_pow, Int.pow_mul, Int.natAbs_of_nonneg hx]; exact hxk'
        omega
      have h5 : n * k ≤ 1000 * 256 := Nat.mul_le_mul (by omega) (by omega)
      have h6 : n * (k / 2) ≤ 1000 * 256 := Nat.mul_le_mul (by omega) (by omega)
      omega
    refine Stop.out (lshift_int (by omega) hsz ?_)
    (try dsimp only)
    k_steps
    refine Stop.out (xor_int ?_)
    have hxl : Builtin.bitXor x (x / (2 ^ n) ^ (k / 2) * 2 ^ (((n * (k / 2) : Nat) : Int)).toNat) = x % (2 ^ n) ^ (k / 2) := by
      rw [Int.toNat_natCast, ← Int.pow_mul]; exact xor_low' hx
    rw [hxl]
    (try dsimp only)
    k_steps
    rename Fr _ _ _ _ => F'
    rename News _ _ _ _ => N'
    have hx0 : 0 ≤ x % (2 ^ n) ^ (k / 2) := Int.emod_nonneg _ (by omega)
    have hx1 : x % (2 ^ n) ^ (k / 2) < (2 ^ n) ^ (k / 2) := Int.emod_lt_of_pos _ hbj
    refine Stop.out (ih.out (k / 2) hj.2 _ _ _ _ _ _ _ _ _ _ _ _ _ _ _ _ _ rest vs ds nn B' F' C62 X' N' T' rfl ?hd hrla hi _ _ _ _ _ _ hj.1 hlo rfl ?hl hlen2 hx0 (Hide.mk hx1) ?hret)
    case hd => exact room3 hdp hj.2
    case hl => omega
    intro h' tk' vs' hi2 F' N'
    (try dsimp only)
    k_steps
    rename Fr _ _ _ _ => F'
    rename News _ _ _ _ => N'
    have hlen' : (ds.take lo.toNat ++ digs (2 ^ n) (k / 2) (x % (2 ^ n) ^ (k / 2)) ++ ds.drop (lo + ((k / 2 : Nat) : Int)).toNat).length = ds.length := by
      have g1 : lo.toNat + k / 2 ≤ ds.length := by clear hx0 hx1 hbj hsz hxk' hlen2; omega
      rw [List.length_append, List.length_append, List.length_take, List.length_drop, digs_len, toNat_plus hlo, Nat.min_eq_left (Nat.le_trans (Nat.le_add_right _ _) g1)]
      exact Nat.add_sub_cancel' g1
    have hx2 : 0 ≤ x / (2 ^ n) ^ (k / 2) := Int.ediv_nonneg hx (Int.le_of_lt hbj)
    have hx3 : x / (2 ^ n) ^ (k / 2) < (2 ^ n) ^ (k - k / 2) := by
      refine Int.ediv_lt_of_lt_mul hbj ?_
      rw [← Int.pow_add, show k - k / 2 + k / 2 = k from Nat.sub_add_cancel (Nat.le_of_lt hj.2)]
      exact hxk'
    have hkk : k - k / 2 < k := Nat.sub_lt hk0 hj.1
    refine Stop.out (ih.out (k - k / 2) hkk _ _ _ _ _ _ _ _ _ _ _ _ _ _ _ _ _ rest vs' _ nn B' F' C62 X' N' T' rfl ?hd2 hrla hi2 _ _ _ _ _ _ (by omega) (by omega) ?he2 ?hl2 ?hl3 hx2 (Hide.mk hx3) ?hret2)
    case hd2 => exact room3 hdp hkk
    case he2 => omega
    case hl2 => rw [hlen']; omega
    case hl3 => rw [hlen']; omega
    intro h' tk' vs'' hi3 F' N'
    (try dsimp only)
    k_steps
    refine hret _ _ _ ?_ (by assumption) (by assumption)
    have e1 : (lo + ((k / 2 : Nat) : Int)).toNat = lo.toNat + k / 2 := toNat_plus hlo
    have e0 : k / 2 + (k - k / 2) = k := Nat.add_sub_cancel' (Nat.le_of_lt hj.2)
    have e2 : hi'.toNat = lo.toNat + (k / 2 + (k - k / 2)) := by rw [e0, hhi]; exact toNat_plus hlo
    rw [e1, e2, splice (digs_len _ _ _) (digs_len _ _ _) (by rw [← e2]; exact Int.toNat_le.mpr hlen)] at hi3
    rw [← digs_split (Int.pow_pos (by decide)), e0] at hi3
    rw [e2, e0]
    exact hi3
  · obtain rfl : k = 1 := by omega
    k_steps
    rename Fr _ _ _ _ => F'
    rename News _ _ _ _ => N'
    refine ksa_set F' N' (.tail hne.1 (.tail hne.2.1 (.head (List.forall_mem_cons.mpr ⟨hne.2.2.2.1, List.forall_mem_cons.mpr ⟨hne.2.2.2.2, List.forall_mem_cons.mpr ⟨hne.2.2.1, hrla⟩⟩⟩)))) hi hlo (by omega) (by omega) ?_
    intro h' F' N' hi2 _ _
    (try dsimp only)
    k_steps
    refine hret _ _ _ ?_ (by assumption) (by assumption)
    have hxk' := hxk.out
    rw [Int.pow_succ, Int.pow_zero, Int.one_mul] at hxk'
    have e : ds.take lo.toNat ++ digs (2 ^ n) 1 x ++ ds.drop hi'.toNat = ds.set lo.toNat x := by
      rw [List.set_eq_take_append_cons_drop, if_pos (by omega)]
      have : hi'.toNat = lo.toNat + 1 := by rw [hhi]; exact toNat_plus hlo
      rw [this]
      simp only [digs, Int.emod_eq_of_lt hx hxk', List.append_assoc, List.singleton_append]
    rw [e]
    exact hi2
end Mine
end -- D3
section -- D2
open PySem PySem.W PySem.Calls PyProof.Rows
set_option Elab.async false
set_option maxRecDepth 100000
set_option maxHeartbeats 1000000
namespace Mine
section
local macro_rules | `(tactic| walk_at "call ref") => `(tactic| refine Stop.mk ?_)
local macro_rules | `(tactic| walk_at "exec FunctionDef") => `(tactic| refine Stop.mk ?_)
local macro_rules | `(tactic| walk_at "binaryOp Mult ref int") => `(tactic| refine Stop.mk ?_)
local macro_rules | `(tactic| walk_at "call builtin:len") => `(tactic| ((with_reducible show wpAny _ _ (call (Value.builtin "len") [Value.ref _]) _ _ _); refine' len_list (News.isList ?N ?hm) ?hf ?_; (case N => assumption); (case hm => first | assumption | k_mem); (case hf => first | assumption | (simp only [List.size_toArray, List.length_replicate]; omega))))
local macro_rules | `(tactic| k_all) => `(tactic| first | assumption | exact ne_of_rest (by assumption) (by omega) | fail "k_all")
theorem clear_4 : True := by
  first
  | (row_walk; done)
  | trivial
theorem mulI0 {prog : Program} {w : World} {A : Around} {E : Value → Shared → Prop} {s : Shared} {h₀ : Heap} {L : Addr} {m : Str → Option Value} {news : List (Addr × Obj)} {l : Addr} {v : Value} {k : Nat} {x : Int} {u : Tok} {Q : Value → Shared → Prop} {D : Nat} (e : x = (D : Int)) (hD : D ≤ 256)
   (F : Fr h₀ L s.heap m) (N : News h₀ L s.heap news) (hm : (l, listOf #[v] k) ∈ news)
   (h : ∀ l' h', Fr h₀ L h' m → News h₀ L h' ((l', listOf (List.replicate D v).toArray 0) :: news) → (∀ p ∈ news, p.1 < l') → Q (.ref l') { s with heap := h' }) : wpAny (model prog w) A (binaryOp .Mult (.ref l) (.int x u)) Q E s := by
  subst e
  refine KMa.mul (vs := [v]) F N (News.isList N hm) (by omega) (by omega) (by simp; omega) ?_ h
  simp
-- a code's table: nothing made yet, or the nested def's code
def Seg (P : Addr) (pos : Pos) (qual : Str) (seg : List (Addr × Obj)) : Prop :=
  seg = [(P, tabObj #[])] ∨ ∃ c' oc vs t, seg = [(c', oc), (P, tabObj #[rawInt pos.line, rawInt pos.col, .ref c'])] ∧ oc.data = .fields vs ∧ vs[1]? = some (.str qual t)
def Full (P : Addr) (pos : Pos) (qual : Str) (seg : List (Addr × Obj)) : Prop :=
  ∃ c' oc vs t, seg = [(c', oc), (P, tabObj #[rawInt pos.line, rawInt pos.col, .ref c'])] ∧ oc.data = .fields vs ∧ vs[1]? = some (.str qual t)
theorem Full.seg {P : Addr} {pos : Pos} {qual : Str} {seg : List (Addr × Obj)} (h : Full P pos qual seg) : Seg P pos qual seg := .inr h
theorem Seg.mem {P : Addr} {pos : Pos} {qual : Str} {seg : List (Addr × Obj)} (h : Seg P pos qual seg) : ∃ o, (P, o) ∈ seg := by
  rcases h with rfl | ⟨_, _, _, _, rfl, _⟩
  · exact ⟨_, .head _⟩
  · exact ⟨_, .tail _ (.head _)⟩
theorem News.sub {h₀ h : Heap} {L : Addr} {l l' : List (Addr × Obj)} (N : News h₀ L h l) (hs : ∀ p ∈ l', p ∈ l) : News h₀ L h l' := fun p hp => N p (hs p hp)
theorem nestBoth {M : Model} {A : Around} {E : Value → Shared → Prop} {s : Shared} {h₀ : Heap} {L a c P : Addr} {m mg mb : Str → Option Value} {cn : Str} {cs : Scope} {ccd : Value} {cl : List (Str × Addr)} {seg others : List (Addr × Obj)}
  {p : Program} {loose : List Str} {mean : ExcName → Option Value} {name qual : Str} {params : Arguments} {body : List Stmt} {scope : Scope} {pos : Pos} {firstLine : Nat} {clos : List (Str × Addr)} {Q : Value → Shared → Prop}
  (F : Fr h₀ L s.heap m) (T : Top p loose mean mg mb h₀) (N : News h₀ L s.heap (seg ++ others)) (C : CodeHd h₀ c P) (hcd : ccd = .ref c) (hseg : Seg P pos qual seg) (hoth : ∀ q ∈ others, q.1 ≠ P) (hd : ∀ r ∈ seg, ∀ q ∈ others, q.1 ≠ r.1)
  (hcl : closureFor scope (envX cn cs L a ccd cl) = pure clos)
  (h : ∀ f c' oc vs t ctv doc h' tk, Fr h₀ L h' m → News h₀ L h' ((f, fnMade name qual params body scope clos doc ((mg "__name__").getD .none) c' ctv) :: (c', oc) :: (P, tabObj #[rawInt pos.line, rawInt pos.col, .ref c']) :: others) →
      oc.data = .fields vs → vs[1]? = some (.str qual t) → (∀ q ∈ others, q.1 < f) → (∀ q ∈ others, q.1 ≠ c') → Q (.ref f) { s with heap := h', toks := tk }) :
  wpAny M A (makeFunction name qual params (.stmts body) scope (envX cn cs L a ccd cl) [] [] [] pos firstLine) Q E s := by
  rcases hseg with rfl | ⟨c₁, oc₁, vs₁, t₁, rfl, ho1, hv1⟩
  · refine nest_K F N T C hcd (.head hoth) trivial rfl hcl fun f c' oc vs t ctv doc h' tk F' N' d1 d2 l1 l2 => ?_
    exact h f c' oc vs t ctv doc h' tk F' N' d1 d2 (fun q hq => Nat.lt_trans (l1 q (.tail _ hq)) l2) (fun q hq => Nat.ne_of_lt (l1 q (.tail _ hq)))
  · refine nestHit_K (c' := c₁) F N T C hcd (.tail _ (.head _)) trivial (by simp [codeAmong, rawInt]) hcl fun f ctv doc h' tk F' N' l1 => ?_
    exact h f c₁ oc₁ vs₁ t₁ ctv doc h' tk F' N' ho1 hv1 (fun q hq => l1 q (.tail _ (.tail _ hq))) (fun q hq => hd _ (.head _) q hq)
theorem ints_rep0 {v : Value} {i : Int} {t : Tok} (h : v = .int i t) : ∀ k : Nat, IntsAre (List.replicate k v) (List.replicate k i)
  | 0 => .nil
  | k + 1 => by subst h; exact .cons i t (ints_rep0 rfl k)
theorem bits_digits {x : Int} {n D : Nat} (hn : 0 < n) (hx : 0 ≤ x) (hD : ((Builtin.Int.intBits x : Int) + n - 1).fdiv n = D) : x < (2 ^ n) ^ D := by
  rw [Int.fdiv_eq_ediv_of_nonneg _ (by omega)] at hD
  have h1 : Builtin.Int.intBits x ≤ n * D := by
    have h2 : ((Builtin.Int.intBits x : Int) + n - 1) < n * (D + 1) := by
      have := Int.lt_mul_ediv_self_add (x := (Builtin.Int.intBits x : Int) + n - 1) (k := n) (by omega)
      rw [hD] at this
      rw [Int.mul_add, Int.mul_one]; exact this
    rw [Int.mul_add, Int.mul_one] at h2
    have h3 : ((n * D : Nat) : Int) = (n : Int) * D := Int.natCast_mul _ _
    omega
  have h4 := intBits_le_iff.mp h1
  have h5 : ((2 ^ (n * D) : Nat) : Int) = (2 ^ n) ^ D := by rw [Int.natCast_pow, Int.pow_mul]; rfl
  rw [← h5]; omega
theorem D_zero {x : Int} {n D : Nat} (hn : 0 < n) (hx : x = 0) (hD : ((Builtin.Int.intBits x : Int) + n - 1).fdiv n = D) : D = 0 := by
  subst hx
  have e : Builtin.Int.intBits 0 = 0 := rfl
  rw [e, Int.fdiv_eq_ediv_of_nonneg _ (by omega), Int.ediv_eq_zero_of_lt (by omega) (by omega)] at hD
  omega
theorem D_pos {x : Int} {n D : Nat} (hn : 0 < n) (hx0 : 0 ≤ x) (hx : x ≠ 0) (hD : ((Builtin.Int.intBits x : Int) + n - 1).fdiv n = D) : 0 < D := by
  have := bits_digits hn hx0 hD
  rcases Nat.eq_zero_or_pos D with h | h
  · subst h; rw [Int.pow_zero] at this; omega
  · exact h
theorem perm5 {h₀ h : Heap} {L : Addr} {a g b c d : Addr × Obj} {seg rest : List (Addr × Obj)} (N : News h₀ L h (a :: g :: b :: c :: d :: (seg ++ rest))) : News h₀ L h (seg ++ (a :: b :: c :: d :: rest)) := by
  refine News.sub N fun q hq => ?_
  simp only [List.mem_append, List.mem_cons] at hq ⊢
  rcases hq with h | h | h | h | h | h <;> simp [h]
theorem permA {h₀ h : Heap} {L : Addr} {f c P l i a n : Addr × Obj} {rest : List (Addr × Obj)} (N : News h₀ L h (f :: c :: P :: l :: i :: a :: n :: rest)) : News h₀ L h (f :: c :: l :: i :: a :: n :: P :: rest) := by
  refine News.sub N fun q hq => ?_
  simp only [List.mem_cons] at hq ⊢
  rcases hq with h | h | h | h | h | h | h | h <;> simp [h]
theorem int2digits (w : World) (p : Program) (loose : List Str) (mean : ExcName → Option Value) (mg mb : Str → Option Value)
  (dp un : Nat) (gd : Option (List Code)) (cn : Str) (cs : Scope) (a : Addr) (ccd : Value) (cl : List (Str × Addr)) (outer : List Env) (A₀ : Around) (base h₀ : Heap) (L : Addr) (m : Str → Option Value) (s : Shared) (Q E : Value → Shared → Prop) (seg rest : List (Addr × Obj))
  (B : Below A₀ base outer h₀) (F : Fr h₀ L s.heap m) (X : (pre.heap_1 w.params).In h₀) (N : News h₀ L s.heap (seg ++ rest)) (T : Top p loose mean mg mb h₀) (hk : cs.kind = .function) 
  (C62 : CodeHd base 66 62) (hseg : Seg 62 ⟨54, 4, 63, 28⟩ "_int2digits.<locals>.inner" seg) (hr62 : ∀ q ∈ rest, q.1 ≠ 62) (hsd : ∀ r ∈ seg, ∀ q ∈ rest, q.1 ≠ r.1)
  (x : Int) (n : Nat) (t1 t2 : Tok) (hx : 0 ≤ x) (hn : 0 < n) (hn1 : n < 1000) (D : Nat) (hD : ((Builtin.Int.intBits x : Int) + n - 1).fdiv n = D) (hD1 : D ≤ 256) (hdp : dp + D + 2 < recursionLimit)
  (hret : ∀ (h' : Heap) (tk' : Nat) (la : Addr) (vs : List Value) (seg' : List (Addr × Obj)), Full 62 ⟨54, 4, 63, 28⟩ "_int2digits.<locals>.inner" seg' → (∀ r ∈ seg', ∀ q ∈ rest, q.1 ≠ r.1) → IntsAre vs (digs (2 ^ n) D x) → Fr h₀ L h' m → News h₀ L h' ((la, listOf vs.toArray 0) :: (seg' ++ rest)) → Q (.ref la) { s with heap := h', toks := tk' }) :
  wpAny (model PySem.Challenge.rw_ta0044_01.row.prog w) (ktrTop dp un gd cn cs L a ccd cl outer) (call (.ref 67) [.int x t1, .int n t2]) Q E s := by
  revert X; k_fill; intro X
  refine wpAny_call ?_
  refine' code_defC (binds := [("a", .int x t1), ("n", .int n t2)]) ?k1 ?k2 ?k3 ?k4 ?k5 ?kA ?kF ?kK ?k6 ?k7 ?k8 ?k9 ?kB ?kD ?_ ?c2 ?c3 ?c4
  walk_at "my enter 2"
  intro g' L' h' tk' cells' FG' F' N' Y' B' X' T' l1
  have hr : ∀ p ∈ rest, p.1 < L' := fun p hp => l1 p (List.mem_append_right _ hp)
  have hsl : ∀ p ∈ seg, p.1 < L' := fun p hp => l1 p (List.mem_append_left _ hp)
  k_cells Y'
  rename_i oI0 oA0 oN dI0 dA0 dN
  simp only [List.cons_append, List.nil_append] at N'
  (try dsimp only); (try k_fold)
  k_steps
  rename Fr _ _ _ _ => F'
  rename News _ _ _ _ => N'
  refine Stop.out (mulI0 hD hD1 F' N' (.head _) ?_)
  intro l' h' F' N' l1
  have l1c := l1
  k_lt l1
  (try dsimp only)
  k_steps
  refine Stop.out (nestDef_K rfl rfl rfl ?_)
  rename Fr _ _ _ _ => F'
  rename News _ _ _ _ => N'
  have h62 : @LT.lt Nat _ 62 L' := by obtain ⟨o, ho⟩ := hseg.mem; exact hsl _ ho
  have hd1 : ∀ r ∈ seg, ∀ q ∈ rest, q.1 ≠ r.1 := hsd
  refine nestBoth F' T' (perm5 N') (CodeHd.keeps C62 (Below.stays B')) rfl hseg ?ho ?hdd rfl ?_
  case ho => k_all
  case hdd =>
    intro r hr2
    have := hsl r hr2
    refine List.forall_mem_cons.mpr ⟨?_, List.forall_mem_cons.mpr ⟨?_, List.forall_mem_cons.mpr ⟨?_, List.forall_mem_cons.mpr ⟨?_, hsd r hr2⟩⟩⟩⟩ <;> (refine neN ?_; dsimp only; have := ltN this; omega)
  intro f' c' oc' vs' t' ctv dc h' tk' F' N' d1 d2 lf lc
  have lf2 := lf
  k_lt lf2
  have lc1 : @Ne Nat l' c' := lc _ (.head _)
  have lc2 : @Ne Nat (L' + 1 + 1 + 1) c' := lc _ (.tail _ (.head _))
  have lc3 : @Ne Nat (L' + 1 + 1) c' := lc _ (.tail _ (.tail _ (.head _)))
  have lc4 : @Ne Nat (L' + 1) c' := lc _ (.tail _ (.tail _ (.tail _ (.head _))))
  (try dsimp only)
  k_steps
  rename Fr _ _ _ _ => F'
  rename News _ _ _ _ => N'
  · refine len_list (News.isList N' (by k_mem)) (by simp only [List.size_toArray, List.length_replicate]; omega) ?_
    k_steps
    rename _ = Data.cell (some (Value.ref l')) => dA
    rename _ = Data.cell (some (Value.ref f')) => dI
    rename x ≠ 0 => hx0
    rename Fr _ _ _ _ => F'
    rename News _ _ _ _ => N'
    refine Stop.out (inner_ok w p loose mean mg mb (ho := rfl) f' c' l' (L' + 1) (L' + 1 + 1 + 1) (L' + 1 + 1) oc' oN _ _ _ vs' t' _ dc _ ctv n hn hn1 d1 d2 dN dI dA ?hne D _ _ _ _ _ _ _ _ _ _ _ _ _ _ _ _ _ _ _ _ 0 B' F' C62 X' (permA N') T' ?hk1 ?hd1 ?hrl (ints_rep0 rfl D) _ _ _ _ _ _ (D_pos hn hx hx0 hD) (Int.le_refl 0) ?hhi ?hl1 ?hl2 hx (Hide.mk (bits_digits hn hx hD)) ?hret1)
    case hne => exact ⟨neN (by omega), neN (by omega), neN (by omega), neN (by omega), neN (by omega)⟩
    case hk1 => rfl
    case hd1 => show dp + 1 + D + 1 < recursionLimit; omega
    case hrl => exact List.forall_mem_cons.mpr ⟨neN (by dsimp only; omega), ne_of_rest hr (by omega)⟩
    case hhi => simp
    case hl1 => simp
    case hl2 => simpa using hD1
    intro h' tk' vs'' hi2 F' N'
    have hi3 : IntsAre vs'' (digs (2 ^ n) D x) := by
      have e : (List.replicate D (0 : Int)).take (Int.toNat 0) ++ digs (2 ^ n) D x ++ (List.replicate D (0 : Int)).drop (((List.replicate D (Value.int 0 0)).toArray.size : Int)).toNat = digs (2 ^ n) D x := by simp
      rw [List.size_toArray, List.length_replicate] at e hi2
      rw [e] at hi2; exact hi2
    (try dsimp only)
    k_steps
    rename News _ _ _ _ => N'
    refine hret _ _ _ _ [(c', oc'), (62, _)] ⟨c', oc', vs', t', rfl, d1, d2⟩ (all2 (fun q hq => lc q (.tail _ (.tail _ (.tail _ (.tail _ hq))))) hr62) hi3 (by assumption) (News.sub N' ?hsub)
    intro q hq
    simp only [List.mem_append, List.mem_cons, List.cons_append, List.nil_append] at hq ⊢
    rcases hq with h | h | h | h <;> simp [h]
  · rename x = 0 => hx0
    have hD0 := D_zero hn hx0 hD
    subst hD0
    rename News _ _ _ _ => N'
    refine hret _ _ _ [] [(c', oc'), (62, _)] ⟨c', oc', vs', t', rfl, d1, d2⟩ (all2 (fun q hq => lc q (.tail _ (.tail _ (.tail _ (.tail _ hq))))) hr62) .nil (by assumption) (News.sub N' ?hsub2)
    intro q hq
    simp only [List.mem_append, List.mem_cons, List.cons_append, List.nil_append] at hq ⊢
    rcases hq with h | h | h | h <;> simp [h]
end
end Mine
end -- D2
section -- M2
open PySem PySem.W PySem.Calls PyProof.Rows
namespace Mine
def undig (b : Int) : List Int → Int
  | [] => 0
  | d :: r => d + b * undig b r
theorem undig_append {b : Int} : ∀ (A B : List Int), undig b (A ++ B) = undig b A + b ^ A.length * undig b B
  | [], B => by simp [undig]
  | a :: A, B => by
    rw [List.cons_append, undig, undig, undig_append A B, List.length_cons, Int.pow_succ, Int.mul_add, Int.add_assoc, ← Int.mul_assoc, Int.mul_comm (b ^ A.length) b]
def Digs (b : Int) (l : List Int) : Prop := ∀ d ∈ l, 0 ≤ d ∧ d < b
theorem undig_lt {b : Int} (hb : 0 < b) : ∀ {l : List Int}, Digs b l → 0 ≤ undig b l ∧ undig b l < b ^ l.length
  | [], _ => by simp [undig]
  | d :: r, h => by
    have ⟨h1, h2⟩ := undig_lt hb (l := r) fun x hx => h x (.tail _ hx)
    have ⟨h3, h4⟩ := h d (.head _)
    rw [undig, List.length_cons, Int.pow_succ]
    have h5 : 0 ≤ b * undig b r := Int.mul_nonneg (by omega) h1
    have h6 : b * undig b r ≤ b * (b ^ r.length - 1) := Int.mul_le_mul_of_nonneg_left (by omega) (by omega)
    rw [Int.mul_sub, Int.mul_one, Int.mul_comm b (b ^ _)] at h6
    exact ⟨by omega, by omega⟩
theorem Digs.drop {b : Int} {l : List Int} (h : Digs b l) (n : Nat) : Digs b (l.drop n) := fun d hd => h d (List.mem_of_mem_drop hd)
theorem Digs.take {b : Int} {l : List Int} (h : Digs b l) (n : Nat) : Digs b (l.take n) := fun d hd => h d (List.mem_of_mem_take hd)
-- a stretch of the digits: k of them from lo on
def part (ds : List Int) (lo k : Nat) : List Int := (ds.drop lo).take k
theorem part_len {ds : List Int} {lo k : Nat} (h : lo + k ≤ ds.length) : (part ds lo k).length = k := by
  unfold part; rw [List.length_take, List.length_drop]; omega
theorem part_one {ds : List Int} {lo : Nat} (h : lo < ds.length) : part ds lo 1 = [ds.getD lo 0] := by
  unfold part
  rw [List.drop_eq_getElem_cons h, List.take_succ_cons, List.take_zero, List.getD_eq_getElem?_getD, List.getElem?_eq_getElem h]
  rfl
theorem part_split {ds : List Int} {lo j k : Nat} : part ds lo (j + k) = part ds lo j ++ part ds (lo + j) k := by
  unfold part
  rw [List.take_add, List.drop_drop]
theorem part_all {ds : List Int} : part ds 0 ds.length = ds := by unfold part; simp
end Mine
end -- M2
section -- D4
open PySem PySem.W PySem.Calls PyProof.Rows
set_option Elab.async false
set_option maxRecDepth 100000
set_option maxHeartbeats 1000000
namespace Mine
section
local macro_rules | `(tactic| k_all) => `(tactic| first | assumption | exact ne_of_rest (by assumption) (by omega) | fail "k_all")
local macro_rules | `(tactic| walk_at "call ref") => `(tactic| refine Stop.mk ?_)
local macro_rules | `(tactic| walk_at "ite") => `(tactic| (first | (refine ite_pos (by (try simp only [decide_eq_true_eq, beq_iff_eq]); omega) ?_; walk_say "MY PRUNE") | (refine ite_neg (by (try simp only [decide_eq_true_eq, beq_iff_eq]); omega) ?_; walk_say "MY PRUNE")))
local macro_rules | `(tactic| walk_at "binaryOp RShift int int") => `(tactic| refine Stop.mk ?_)
local macro_rules | `(tactic| walk_at "binaryOp LShift int int") => `(tactic| refine Stop.mk ?_)
local macro_rules | `(tactic| walk_at "subscriptTail") => `(tactic| refine Stop.mk ?_)
theorem clear_5 : True := by
  first
  | (row_walk; done)
  | trivial
theorem inner2_ok (w : World) (p : Program) (loose : List Str) (mean : ExcName → Option Value) (mg mb : Str → Option Value)
  {oc0 : Value} {od0 : Option Addr} {osl0 : Array (Option Value)} {nm0 q0 : Str} {ps0 : Arguments} {nmI : Str} {P : Arguments} {Bd : List Stmt} {dc : List Expr} {rt : Option Expr} {tp : List TypeParam} {S : Scope} {ts : Option Scope} {bd : Str} {pos : Pos} {rs : List Stmt} {sc0 : Scope} {dV0 kV0 doc0 pm0 : Value} {an0 : Option Addr} {cdv0 ct0 : Value}
  (ho : (pre.heap_1 w.params).lookup 74 = some ⟨oc0, od0, .func (fnOf nm0 q0 ps0 (.FunctionDef nmI P Bd dc rt tp S ts bd pos :: rs) sc0 dV0 kV0 doc0 pm0 an0 cdv0 ct0), osl0⟩)
  (f c' la cN cI cA : Addr) (oc oN oI oA : Obj) (qual : Str) (vc : Array Value) (tc tn : Tok) (doc pm ctv : Value) (n : Nat) (hn : 0 < n) (hn1 : n < 1000)
  (hoc : oc.data = .fields vc) (hvc : vc[1]? = some (.str qual tc)) (hoN : oN.data = .cell (some (.int n tn))) (hoI : oI.data = .cell (some (.ref f))) (hoA : oA.data = .cell (some (.ref la)))
  (vs : List Value) (ds : List Int) (nn : Nat) (hi : IntsAre vs ds) (hlen2 : ds.length ≤ 256) (hdg : Digs (2 ^ n) ds) :
  ∀ (k : Nat) (dp un : Nat) (gd : Option (List Code)) (cn : Str) (cs : Scope) (a : Addr) (ccd : Value) (cl : List (Str × Addr)) (outer : List Env) (A₀ : Around) (base h₀ : Heap) (L : Addr) (m : Str → Option Value) (s : Shared) (Q E : Value → Shared → Prop) (rest : List (Addr × Obj))
  (_B : Below A₀ base outer h₀) (_F : Fr h₀ L s.heap m) (_C : CodeHd base 73 69) (_X : (pre.heap_1 w.params).In h₀)
  (_N : News h₀ L s.heap ((f, fnMade nmI qual P Bd S [("n", cN), ("inner", cI), ("digits", cA)] doc pm c' ctv) :: (c', oc) :: (cI, oI) :: (cA, oA) :: (cN, oN) :: rest)) (_T : Top p loose mean mg mb h₀) (_hk : cs.kind = .function) (_hdp : dp + k + 1 < recursionLimit)
  (_hm : (la, listOf vs.toArray nn) ∈ rest) (lo hi : Int) (t2 t3 : Tok) (_hk0 : 0 < k) (_hlo : 0 ≤ lo) (_hhi : hi = lo + k) (_hlen : hi ≤ ds.length)
  (_hret : ∀ (h' : Heap) (tk' : Nat) (u : Tok), Fr h₀ L h' m → News h₀ L h' ((f, fnMade nmI qual P Bd S [("n", cN), ("inner", cI), ("digits", cA)] doc pm c' ctv) :: (c', oc) :: (cI, oI) :: (cA, oA) :: (cN, oN) :: rest) → Q (.int (undig (2 ^ n) (part ds lo.toNat k)) u) { s with heap := h', toks := tk' }),
  wpAny (model PySem.Challenge.rw_ta0044_01.row.prog w) (ktrTop dp un gd cn cs L a ccd cl outer) (call (.ref f) [.int lo t2, .int hi t3]) Q E s := by
  cases ho
  intro k
  induction k using Nat.strongRecOn with
  | ind k ih =>
  intro dp un gd cn cs a ccd cl outer A₀ base h₀ L m s Q E rest B F C62 X N T hk hdp hm lo hi' t2 t3 hk0 hlo hhi hlen hret
  replace ih := Hide.mk ih
  replace hdg := Hide.mk hdg
  revert X; k_fill; intro X
  refine wpAny_call ?_
  refine' code_nest (binds := [("L", .int lo t2), ("R", .int hi' t3)]) B F X N T ?kA ?kF ?kK (.head _) (codeRec_news N (.tail _ (.head _)) hoc hvc) ?k8 ?k9 ?kB ?_ ?c2 ?c3 ?c4 ?c5
  (case kA => exact rfl); (case kF => exact rfl); (case kK => assumption); (case k8 => ktr_room); (case k9 => exact BindsTo.of_eq rfl); (case c5 => decide); (case kB => exact locs rfl); (case c2 => exact rfl); (case c3 => exact rfl); (case c4 => exact rfl)
  intro g' L' h' FG' F' N' B' X' T'; (try dsimp only); (try k_fold)
  rcases Nat.lt_or_ge 1 k with hk1 | hk1
  · k_steps
    refine Stop.out (rshift_int (by decide) ?_)
    rw [mid_eq hlo hhi]
    k_steps
    rename Fr _ _ _ _ => F'
    rename News _ _ _ _ => N'
    have hj : 0 < k / 2 ∧ k / 2 < k := by omega
    have hkk : k - k / 2 < k := Nat.sub_lt hk0 hj.1
    have e0 : k / 2 + (k - k / 2) = k := Nat.add_sub_cancel' (Nat.le_of_lt hj.2)
    have g0 : lo.toNat + k ≤ ds.length := by rw [← toNat_plus hlo, ← hhi]; exact Int.toNat_le.mpr hlen
    refine Stop.out (ih.out (k - k / 2) hkk _ _ _ _ _ _ _ _ _ _ _ _ _ _ _ _ _ rest B' F' C62 X' N' T' rfl ?hd1 hm _ _ _ _ (by omega) (by omega) ?he1 hlen ?hret1)
    case hd1 => exact room3 hdp hkk
    case he1 => omega
    intro h' tk' u F' N'
    (try dsimp only)
    k_steps
    rw [sh_eq]
    have e1 : (lo + ((k / 2 : Nat) : Int)).toNat = lo.toNat + k / 2 := toNat_plus hlo
    have hl1 : (part ds (lo.toNat + k / 2) (k - k / 2)).length = k - k / 2 := part_len (by rw [Nat.add_assoc, e0]; exact g0)
    have hl2 : (part ds lo.toNat (k / 2)).length = k / 2 := part_len (Nat.le_trans (Nat.add_le_add_left (Nat.le_of_lt hj.2) _) g0)
    have hb : (0 : Int) < 2 ^ n := Int.pow_pos (by decide)
    have ⟨hv1, hv2⟩ := undig_lt hb ((hdg.out.drop (lo.toNat + k / 2)).take (k - k / 2))
    change _ < (2 ^ n) ^ (part ds (lo.toNat + k / 2) (k - k / 2)).length at hv2
    change 0 ≤ undig (2 ^ n) (part ds (lo.toNat + k / 2) (k - k / 2)) at hv1
    change undig (2 ^ n) (part ds (lo.toNat + k / 2) (k - k / 2)) < _ at hv2
    rw [hl1] at hv2
    rw [e1]
    have hsz : (Builtin.Int.intBits (undig (2 ^ n) (part ds (lo.toNat + k / 2) (k - k / 2))) : Int) + ((n * (k / 2) : Nat) : Int) ≤ 2 ^ 27 := by
      have h1 : Builtin.Int.intBits (undig (2 ^ n) (part ds (lo.toNat + k / 2) (k - k / 2))) ≤ n * (k - k / 2) := by
        refine intBits_le_iff.mpr ?_
        have h4 : ((undig (2 ^ n) (part ds (lo.toNat + k / 2) (k - k / 2))).natAbs : Int) < ((2 ^ (n * (k - k / 2)) : Nat) : Int) := by
          rw [Int.natCast_pow, Int.pow_mul, Int.natAbs_of_nonneg hv1]; exact hv2
        omega
      have h5 : n * (k - k / 2) ≤ 1000 * 256 := Nat.mul_le_mul (by omega) (by omega)
      have h6 : n * (k / 2) ≤ 1000 * 256 := Nat.mul_le_mul (by omega) (by omega)
      omega
    refine Stop.out (lshift_int (by omega) hsz ?_)
    rw [Int.toNat_natCast]
    (try dsimp only)
    k_steps
    rename Fr _ _ _ _ => F'
    rename News _ _ _ _ => N'
    refine Stop.out (ih.out (k / 2) hj.2 _ _ _ _ _ _ _ _ _ _ _ _ _ _ _ _ _ rest B' F' C62 X' N' T' rfl ?hd2 hm _ _ _ _ hj.1 hlo rfl ?hl3 ?hret2)
    case hd2 => exact room3 hdp hj.2
    case hl3 => omega
    intro h' tk' u F' N'
    (try dsimp only)
    k_steps
    have ef : undig (2 ^ n) (part ds (lo.toNat + k / 2) (k - k / 2)) * 2 ^ (n * (k / 2)) + undig (2 ^ n) (part ds lo.toNat (k / 2)) = undig (2 ^ n) (part ds lo.toNat k) := by
      have := part_split (ds := ds) (lo := lo.toNat) (j := k / 2) (k := k - k / 2)
      rw [e0] at this
      rw [this, undig_append, hl2, Int.pow_mul, Int.mul_comm, Int.add_comm]
    rw [ef]
    exact hret _ _ _ (by assumption) (by assumption)
  · obtain rfl : k = 1 := by omega
    k_steps
    rename News _ _ _ _ => N'
    refine Stop.out (ksa_sub N' (.tail _ (.tail _ (.tail _ (.tail _ (.tail _ hm))))) hi hlo (by omega) (by omega) ?_)
    intro t
    (try dsimp only)
    k_steps
    have ef : ds.getD lo.toNat 0 = undig (2 ^ n) (part ds lo.toNat 1) := by
      rw [part_one (by omega)]; simp [undig]
    rw [ef]
    exact hret _ _ _ (by assumption) (by assumption)
end
end Mine
end -- D4
section -- D5
open PySem PySem.W PySem.Calls PyProof.Rows
set_option Elab.async false
set_option maxRecDepth 100000
set_option maxHeartbeats 1000000
namespace Mine
section
local macro_rules | `(tactic| walk_at "call ref") => `(tactic| refine Stop.mk ?_)
local macro_rules | `(tactic| walk_at "exec FunctionDef") => `(tactic| refine Stop.mk ?_)
local macro_rules | `(tactic| walk_at "call builtin:len") => `(tactic| refine Stop.mk ?_)
local macro_rules | `(tactic| walk_at "truthy ref") => `(tactic| refine Stop.mk ?_)
local macro_rules | `(tactic| k_all) => `(tactic| first | assumption | exact ne_of_rest (by assumption) (by omega) | fail "k_all")
theorem clear_6 : True := by
  first
  | (row_walk; done)
  | trivial
theorem perm3 {h₀ h : Heap} {L : Addr} {b c d : Addr × Obj} {seg rest : List (Addr × Obj)} (N : News h₀ L h (b :: c :: d :: (seg ++ rest))) : News h₀ L h (seg ++ (b :: c :: d :: rest)) := by
  refine News.sub N fun q hq => ?_
  simp only [List.mem_append, List.mem_cons] at hq ⊢
  rcases hq with h | h | h | h | h <;> simp [h]
theorem permB {h₀ h : Heap} {L : Addr} {f c P i n a : Addr × Obj} {rest : List (Addr × Obj)} (N : News h₀ L h (f :: c :: P :: i :: n :: a :: rest)) : News h₀ L h (f :: c :: i :: a :: n :: P :: rest) := by
  refine News.sub N fun q hq => ?_
  simp only [List.mem_cons] at hq ⊢
  rcases hq with h | h | h | h | h | h | h <;> simp [h]
theorem digits2int (w : World) (p : Program) (loose : List Str) (mean : ExcName → Option Value) (mg mb : Str → Option Value)
  (dp un : Nat) (gd : Option (List Code)) (cn : Str) (cs : Scope) (a : Addr) (ccd : Value) (cl : List (Str × Addr)) (outer : List Env) (A₀ : Around) (base h₀ : Heap) (L : Addr) (m : Str → Option Value) (s : Shared) (Q E : Value → Shared → Prop) (seg rest : List (Addr × Obj))
  (B : Below A₀ base outer h₀) (F : Fr h₀ L s.heap m) (X : (pre.heap_1 w.params).In h₀) (N : News h₀ L s.heap (seg ++ rest)) (T : Top p loose mean mg mb h₀) (hk : cs.kind = .function) 
  (C69 : CodeHd base 73 69) (hseg : Seg 69 ⟨69, 4, 74, 55⟩ "_digits2int.<locals>.inner" seg) (hr69 : ∀ q ∈ rest, q.1 ≠ 69) (hsd : ∀ r ∈ seg, ∀ q ∈ rest, q.1 ≠ r.1)
  (la : Addr) (vs : List Value) (ds : List Int) (nn : Nat) (hm : (la, listOf vs.toArray nn) ∈ rest) (hi : IntsAre vs ds) (hlen : ds.length ≤ 256) (n : Nat) (t2 : Tok) (hn : 0 < n) (hn1 : n < 1000) (hdg : Digs (2 ^ n) ds) (hdp : dp + ds.length + 2 < recursionLimit)
  (hret : ∀ (h' : Heap) (tk' : Nat) (u : Tok) (seg' : List (Addr × Obj)), Full 69 ⟨69, 4, 74, 55⟩ "_digits2int.<locals>.inner" seg' → (∀ r ∈ seg', ∀ q ∈ rest, q.1 ≠ r.1) → Fr h₀ L h' m → News h₀ L h' (seg' ++ rest) → Q (.int (undig (2 ^ n) ds) u) { s with heap := h', toks := tk' }) :
  wpAny (model PySem.Challenge.rw_ta0044_01.row.prog w) (ktrTop dp un gd cn cs L a ccd cl outer) (call (.ref 74) [.ref la, .int n t2]) Q E s := by
  revert X; k_fill; intro X
  replace hdg := Hide.mk hdg
  refine wpAny_call ?_
  refine' code_defC (binds := [("digits", .ref la), ("n", .int n t2)]) ?k1 ?k2 ?k3 ?k4 ?k5 ?kA ?kF ?kK ?k6 ?k7 ?k8 ?k9 ?kB ?kD ?_ ?c2 ?c3 ?c4
  walk_at "my enter 2"
  intro g' L' h' tk' cells' FG' F' N' Y' B' X' T' l1
  have hr : ∀ p ∈ rest, p.1 < L' := fun p hp => l1 p (List.mem_append_right _ hp)
  have hsl : ∀ p ∈ seg, p.1 < L' := fun p hp => l1 p (List.mem_append_left _ hp)
  k_cells Y'
  rename_i oI0 oN oA dI0 dN dA
  simp only [List.cons_append, List.nil_append] at N'
  (try dsimp only); (try k_fold)
  k_steps
  have h69 : @LT.lt Nat _ 69 L' := by obtain ⟨o, ho⟩ := hseg.mem; exact hsl _ ho
  refine Stop.out (nestDef_K rfl rfl rfl ?_)
  refine nestBoth F' T' (perm3 N') (CodeHd.keeps C69 (Below.stays B')) rfl hseg ?ho ?hdd rfl ?_
  case ho => k_all
  case hdd =>
    intro r hr2
    have := hsl r hr2
    refine List.forall_mem_cons.mpr ⟨?_, List.forall_mem_cons.mpr ⟨?_, List.forall_mem_cons.mpr ⟨?_, hsd r hr2⟩⟩⟩ <;> (refine neN ?_; dsimp only; have := ltN this; omega)
  intro f' c' oc' vs' t' ctv dc h' tk' F' N' d1 d2 lf lc
  have lf2 := lf
  k_lt lf2
  have lc2 : @Ne Nat (L' + 1 + 1 + 1) c' := lc _ (.head _)
  have lc3 : @Ne Nat (L' + 1 + 1) c' := lc _ (.tail _ (.head _))
  have lc4 : @Ne Nat (L' + 1) c' := lc _ (.tail _ (.tail _ (.head _)))
  (try dsimp only)
  k_steps
  rename_i dI
  rename Fr _ _ _ _ => F'
  rename News _ _ _ _ => N'
  have hvl := hi.length
  refine Stop.out (wpAny_truthy_list (News.isList N' (.tail _ (.tail _ (.tail _ (.tail _ (.tail _ (.tail _ hm))))))) (by rw [List.size_toArray]; omega) ?_)
  rcases Nat.eq_zero_or_pos ds.length with h0 | h0
  · have hv0 : vs = [] := List.eq_nil_of_length_eq_zero (by omega)
    have hd0 : ds = [] := List.eq_nil_of_length_eq_zero h0
    rw [if_neg (by rw [hv0]; decide)]
    (try dsimp only)
    k_steps
    rename News _ _ _ _ => N'
    subst hd0
    refine hret _ _ _ [(c', oc'), (69, _)] ⟨c', oc', vs', t', rfl, d1, d2⟩ (all2 (fun q hq => lc q (.tail _ (.tail _ (.tail _ hq)))) hr69) (by assumption) (News.sub N' ?hsub)
    intro q hq
    simp only [List.mem_append, List.mem_cons, List.cons_append, List.nil_append] at hq ⊢
    rcases hq with h | h | h <;> simp [h]
  · rw [if_pos (by cases vs with | nil => (exact absurd hvl (by simp; omega)) | cons => rfl)]
    (try dsimp only)
    k_steps
    rename Fr _ _ _ _ => F'
    rename News _ _ _ _ => N'
    refine Stop.out (len_list (News.isList N' (.tail _ (.tail _ (.tail _ (.tail _ (.tail _ (.tail _ hm))))))) (by rw [List.size_toArray]; omega) ?_)
    (try dsimp only)
    k_steps
    rename Fr _ _ _ _ => F'
    rename News _ _ _ _ => N'
    refine Stop.out (inner2_ok w p loose mean mg mb (ho := rfl) f' c' la (L' + 1 + 1) (L' + 1 + 1 + 1) (L' + 1) oc' oN _ oA _ vs' t' _ dc _ ctv n hn hn1 d1 d2 dN dI dA vs ds nn hi hlen hdg.out ds.length _ _ _ _ _ _ _ _ _ _ _ _ _ _ _ _ _ _ B' F' C69 X' (permB N') T' ?hk1 ?hd1 (.tail _ hm) 0 _ _ _ h0 (Int.le_refl 0) ?hhi ?hl1 ?hret1)
    case hk1 => rfl
    case hd1 => show dp + 1 + ds.length + 1 < recursionLimit; omega
    case hhi => rw [List.size_toArray]; omega
    case hl1 => rw [List.size_toArray]; omega
    intro h' tk' u F' N'
    have e0 : part ds (Int.toNat 0) ds.length = ds := part_all
    rw [e0]
    (try dsimp only)
    k_steps
    rename News _ _ _ _ => N'
    refine hret _ _ _ [(c', oc'), (69, _)] ⟨c', oc', vs', t', rfl, d1, d2⟩ (all2 (fun q hq => lc q (.tail _ (.tail _ (.tail _ hq)))) hr69) (by assumption) (News.sub N' ?hsub2)
    intro q hq
    simp only [List.mem_append, List.mem_cons, List.cons_append, List.nil_append] at hq ⊢
    rcases hq with h | h | h <;> simp [h]
end
end Mine
end -- D5
section -- L1
open PySem PySem.W PySem.Calls PyProof.Rows
set_option Elab.async false
set_option maxRecDepth 100000
set_option maxHeartbeats 1000000
namespace Mine
-- what comes behind made opaque: a walk's terms name it at every step
theorem wpAny_opq {α : Type} {M : Model} {A : Around} {x : Sem α} {Q : α → Shared → Prop} {E : Value → Shared → Prop} {s : Shared}
  (H : ∀ Q' : α → Shared → Prop, (∀ a s', Q a s' → Q' a s') → wpAny M A x Q' E s) : wpAny M A x Q E s := H Q fun _ _ q => q
-- a for over whatever walks, its whole state told by c : σ; the ledger may grow
def MfEnd {σ : Type} (h₀ : Heap) (L : Addr) (Led : σ → List (Addr × Obj)) (ps : σ → List (Str × Value)) (x : Str) (stored : List Str) (m₀ : Str → Option Value) (Pr : Nat → σ → Prop) (j : Nat) (wr : List Addr) (own : List (Addr × Obj)) (s₁ s₂ : Shared) : Prop :=
  ∃ (c : σ) (h' : Heap) (tk : Nat) (m' : Str → Option Value) (news' : List (Addr × Obj)), s₂ = { s₁ with heap := h', toks := tk } ∧ Fr h₀ L h' m' ∧ News h₀ L h' news' ∧ (∀ p ∈ Led c, p ∈ news') ∧ (∀ p ∈ own, p ∈ news') ∧ (∀ p ∈ Led c, p.1 ∉ wr) ∧
    (∀ p ∈ ps c, m' p.1 = some p.2) ∧ (∀ z, z ≠ x → (∀ p ∈ ps c, z ≠ p.1) → stored.contains z = false → m' z = m₀ z) ∧ Pr j c
def MfPost {σ : Type} (h₀ : Heap) (L : Addr) (Led : σ → List (Addr × Obj)) (ps : σ → List (Str × Value)) (x : Str) (stored : List Str) (m₀ : Str → Option Value) (Pr : Nat → σ → Prop) (j : Nat) (wr : List Addr) (own : List (Addr × Obj)) (s₁ : Shared) (Q : Flow → Shared → Prop) (f : Flow) (s₂ : Shared) : Prop :=
  match f with
  | .ret v => Q (.ret v) s₂
  | .brk => Q .next s₂
  | _ => MfEnd h₀ L Led ps x stored m₀ Pr j wr own s₁ s₂
theorem MfPost.next {σ : Type} {h₀ : Heap} {L : Addr} {Led : σ → List (Addr × Obj)} {ps : σ → List (Str × Value)} {x : Str} {stored : List Str} {m₀ : Str → Option Value} {Pr : Nat → σ → Prop} {j : Nat} {wr : List Addr} {own : List (Addr × Obj)} {s₁ : Shared} {Q : Flow → Shared → Prop}
    (c : σ) {h' : Heap} {tk : Nat} {m' : Str → Option Value} {news' : List (Addr × Obj)} (F : Fr h₀ L h' m') (N : News h₀ L h' news') (h1 : ∀ p ∈ Led c, p ∈ news') (h2 : ∀ p ∈ own, p ∈ news') (h3 : ∀ p ∈ Led c, p.1 ∉ wr)
    (h4 : ∀ p ∈ ps c, m' p.1 = some p.2) (h5 : ∀ z, z ≠ x → (∀ p ∈ ps c, z ≠ p.1) → stored.contains z = false → m' z = m₀ z) (h6 : Pr j c) :
    MfPost h₀ L Led ps x stored m₀ Pr j wr own s₁ Q .next { s₁ with heap := h', toks := tk } := ⟨c, h', tk, m', news', rfl, F, N, h1, h2, h3, h4, h5, h6⟩
theorem my_for {prog : Program} {w : World} {A : Around} {E : Value → Shared → Prop} {s : Shared} {env : Env} {h₀ : Heap} {x : Str} {body : List Stmt} {Q : Flow → Shared → Prop} {σ : Type}
    {I : Addr} {fp wr : List Addr} {n : Nat} {P : Nat → Value → Prop} {St : Nat → Heap → Prop} {m₀ : Str → Option Value}
    (Led : σ → List (Addr × Obj)) (ps : σ → List (Str × Value)) (stored : List Str) (Pr : Nat → σ → Prop) (c₀ : σ)
    (W : Walks prog w A I fp wr n P St) (hLf : env.locals ∉ fp) (hwr : ∀ b ∈ wr, h₀.get? b = none) (hnw : ∀ p ∈ Led c₀, p.1 ∉ wr) (hst : St 0 s.heap)
    (F : Fr h₀ env.locals s.heap m₀) (N : News h₀ env.locals s.heap (Led c₀)) (hk : ∀ p ∈ ps c₀, m₀ p.1 = some p.2) (hp : Pr 0 c₀)
    (turn : ∀ (c : σ) i v (u : Str → Option Value) h tk own, i < n → P i v → (∀ p ∈ Led c, p.1 ∉ wr) → (∀ p ∈ own, p.1 ∈ fp) → (∀ b ∈ fp, h₀.get? b = none → ∀ o, h.get? b = some o → (b, o) ∈ own) → Pr i c → St (i + 1) h →
      Fr h₀ env.locals h (fun y => if y = x then some v else kstB (fun z => if stored.contains z then u z else m₀ z) (ps c) y) → News h₀ env.locals h (Led c ++ own) →
      wpAny (model prog w) A (execs body env) (MfPost h₀ env.locals Led ps x stored m₀ Pr (i + 1) wr own { s with heap := h, toks := tk } Q) E { s with heap := h, toks := tk })
    (done : ∀ (c : σ) (u : Str → Option Value) h tk, Pr n c → Fr h₀ env.locals h (fun y => if y = x then u y else kstB (fun z => if stored.contains z then u z else m₀ z) (ps c) y) → News h₀ env.locals h (Led c) → Q .next { s with heap := h, toks := tk }) :
    LoopAtV prog w A h₀ env x body Q E (.ref I) s := by
  refine ⟨I, fp, wr, n, P, St, m₀, Led c₀, fun i m nx => ∃ c : σ, nx = Led c ∧ (∀ p ∈ ps c, m p.1 = some p.2) ∧ (∀ z, z ≠ x → (∀ p ∈ ps c, z ≠ p.1) → stored.contains z = false → m z = m₀ z) ∧ Pr i c, rfl, W, hLf, hwr, hnw, hst, F, N, ⟨c₀, rfl, hk, fun _ _ _ _ => rfl, hp⟩, ?_, ?_⟩
  · rintro i v m₁ news₁ s₁ own ⟨hh', tk', rfl⟩ hin hP ⟨c, rfl, k1, k2, hpc⟩ hoff hof _ hown hst' F₁ N₁
    have N₂ : News h₀ env.locals hh' (Led c ++ own) := News.sub N₁ fun p hp => (List.mem_append.mp hp).elim (fun h => List.mem_append_right _ h) fun h => List.mem_append_left _ h
    refine wpAny_mono (turn c i v m₁ hh' tk' own hin hP hoff hof hown hpc hst' (kst_fr k1 k2 F₁) N₂) (fun f s₂ p => ?_) fun _ _ e => e
    have fin : MfEnd h₀ env.locals Led ps x stored m₀ Pr (i + 1) wr own { s with heap := hh', toks := tk' } s₂ → LoopStepU h₀ env.locals wr own (fun m nx => ∃ c : σ, nx = Led c ∧ (∀ p ∈ ps c, m p.1 = some p.2) ∧ (∀ z, z ≠ x → (∀ p ∈ ps c, z ≠ p.1) → stored.contains z = false → m z = m₀ z) ∧ Pr (i + 1) c) { s with heap := hh', toks := tk' } .next s₂ := by
      rintro ⟨c', h', tk, m', news', e, F', N', g1, g2, g3, g4, g5, g6⟩
      exact ⟨rfl, h', tk, m', Led c', e, F', fun p hp => N' p ((List.mem_append.mp hp).elim (g2 p) (g1 p)), g3, c', rfl, g4, g5, g6⟩
    cases f with
    | ret v => exact .ret p
    | brk => exact .brk p
    | next => exact .next (fin p)
    | cont => exact .cont (fin p)
  · rintro h' tk m' news' F' N' _ ⟨c, rfl, k1, k2, hpc⟩
    exact done c m' h' tk hpc (kst_frOut k1 k2 F') N'
end Mine
end -- L1
section -- D6
open PySem PySem.W PySem.Calls PyProof.Rows
set_option Elab.async false
set_option maxRecDepth 100000
set_option maxHeartbeats 1000000
namespace Mine
abbrev tupObj (vs : List Value) : Obj := { cls := .type "tuple", data := .seq vs.toArray }
section
local macro_rules | `(tactic| walk_at "call builtin:divmod") => `(tactic| ((with_reducible show wpAny _ _ (call (Value.builtin _) [Value.int _ _, Value.int _ _]) _ _ _); refine divmod_N (by assumption) (by assumption) (by omega) ?_ (Or.inl (PyProof.noPylong_of_log2 (by assumption))); intro h' F' N'))
theorem clear_7 : True := by
  first
  | (row_walk; done)
  | trivial
theorem div2n1n (w : World) (p : Program) (loose : List Str) (mean : ExcName → Option Value) (mg mb : Str → Option Value) 
  (dp un : Nat) (gd : Option (List Code)) (cn : Str) (cs : Scope) (a : Addr) (ccd : Value) (cl : List (Str × Addr)) (outer : List Env) (A₀ : Around) (base h₀ : Heap) (L : Addr) (m : Str → Option Value) (s : Shared) (Q E : Value → Shared → Prop) (news : List (Addr × Obj))
  (B : Below A₀ base outer h₀) (F : Fr h₀ L s.heap m) (X : (pre.heap_1 w.params).In h₀) (N : News h₀ L s.heap news) (T : Top p loose mean mg mb h₀) (hk : cs.kind = .function) (hdp : dp + 1 < recursionLimit)
  (x y n : Int) (t1 t2 t3 : Tok) (hx : 0 ≤ x) (hy : 0 < y) (hlim : (Builtin.Int.intBits x : Int) - n ≤ 4000) (hlog : y.natAbs.log2 < 9000)
  (hret : ∀ (h' : Heap) (tk' : Nat) (t : Addr) (u1 u2 : Tok), Fr h₀ L h' m → News h₀ L h' ((t, tupObj [.int (x / y) u1, .int (x % y) u2]) :: news) → (∀ q ∈ news, q.1 < t) → Q (.ref t) { s with heap := h', toks := tk' }) :
  wpAny (model PySem.Challenge.rw_ta0044_01.row.prog w) (ktrTop dp un gd cn cs L a ccd cl outer) (call (.ref 53) [.int x t1, .int y t2, .int n t3]) Q E s := by
  revert X; k_fill; intro X
  refine wpAny_call ?_
  refine' code_def (binds := [("a", .int x t1), ("b", .int y t2), ("n", .int n t3)]) ?k1 ?k2 ?k3 ?k4 ?k5 ?kA ?kF ?kK ?k6 ?k7 ?k8 ?k9 ?kB ?_ ?c2 ?c3 ?c4 ?c5
  walk_at "my enter 3"
  intro g' L' h' FG' F' N' B' X' T'; (try dsimp only); (try k_fold)
  have Nold := N'
  k_steps
  have e1 : x.fdiv y = x / y := Int.fdiv_eq_ediv_of_nonneg _ (by omega)
  have e2 : x.fmod y = x % y := Int.fmod_eq_emod_of_nonneg _ (by omega)
  rw [← e1, ← e2] at hret
  rename Fr h₀ L _ m => kF
  rename News h₀ L _ _ => kN
  exact hret _ _ _ _ _ kF kN (fun q hq => Heap.lt_size (Nold q hq).1)
end
section
local macro_rules | `(tactic| walk_at "call ref") => `(tactic| refine Stop.mk ?_)
local macro_rules | `(tactic| walk_at "pyIter ref") => `(tactic| refine Stop.mk ?_)
local macro_rules | `(tactic| walk_at "call type:reversed") => `(tactic| refine Stop.mk ?_)
local macro_rules | `(tactic| walk_at "newTuple") => `(tactic| refine Stop.mk ?_)
local macro_rules | `(tactic| walk_at "newList") => `(tactic| refine Stop.mk ?_)
local macro_rules | `(tactic| walk_at "binaryOp LShift int int") => `(tactic| refine Stop.mk ?_)
local macro_rules | `(tactic| k_all) => `(tactic| first | assumption | fail "k_all")
theorem clear_8 : True := by
  first
  | (row_walk; done)
  | trivial
theorem head_eq {h₀ h : Heap} {L l : Addr} {o : Obj} {r : List (Addr × Obj)} (_N : News h₀ L h ((l, o) :: r)) : ∃ l', l' = l := ⟨l, rfl⟩
theorem all1 {α : Type} {P : α → Prop} {a : α} (h1 : P a) : ∀ q ∈ [a], P q := by
  intro q hq
  rcases hq with _ | ⟨_, ⟨⟩⟩
  exact h1
abbrev p62 : Pos := ⟨54, 4, 63, 28⟩
abbrev p69 : Pos := ⟨69, 4, 74, 55⟩
structure Segs (seg62 seg69 rest : List (Addr × Obj)) : Prop where
  s62 : Seg 62 p62 "_int2digits.<locals>.inner" seg62
  s69 : Seg 69 p69 "_digits2int.<locals>.inner" seg69
  a62 : ∀ r ∈ seg62, ∀ q ∈ seg69 ++ rest, q.1 ≠ r.1
  a69 : ∀ r ∈ seg69, ∀ q ∈ rest, q.1 ≠ r.1
structure Fulls (seg62 seg69 rest : List (Addr × Obj)) : Prop extends Segs seg62 seg69 rest where
  f62 : Full 62 p62 "_int2digits.<locals>.inner" seg62
  f69 : Full 69 p69 "_digits2int.<locals>.inner" seg69
theorem digs_digs {b : Int} (hb : 0 < b) : ∀ (k : Nat) (x : Int), Digs b (digs b k x)
  | 0, _ => fun _ h => nomatch h
  | k + 1, x => fun d hd => by
    rw [digs] at hd
    rcases List.mem_cons.mp hd with rfl | hd
    · exact ⟨Int.emod_nonneg _ (by omega), Int.emod_lt_of_pos _ hb⟩
    · exact digs_digs hb k _ d hd
theorem ints_snoc {x : Int} {t : Tok} : ∀ {vs : List Value} {ns : List Int}, IntsAre vs ns → IntsAre (vs ++ [.int x t]) (ns ++ [x])
  | _, _, .nil => .cons x t .nil
  | _, _, .cons i u h => .cons i u (ints_snoc h)
theorem ints_rev : ∀ {vs : List Value} {ns : List Int}, IntsAre vs ns → IntsAre vs.reverse ns.reverse
  | _, _, .nil => .nil
  | _, _, .cons i u h => by rw [List.reverse_cons, List.reverse_cons]; exact ints_snoc (ints_rev h)
theorem undig_digs {b : Int} (hb : 0 < b) : ∀ (k : Nat) (x : Int), undig b (digs b k x) = x % b ^ k
  | 0, x => by simp [undig, digs, Int.emod_one]
  | k + 1, x => by
    rw [digs, undig, undig_digs hb k]
    have h1 := Int.emod_def (x % b ^ (k + 1)) b
    have a1 : x % b ^ (k + 1) % b = x % b := Int.emod_emod_of_dvd x ⟨b ^ k, by rw [Int.pow_succ, Int.mul_comm]⟩
    have a2 : x % b ^ (k + 1) / b = x / b % b ^ k := by
      rw [Int.pow_succ, Int.mul_comm, Int.emod_def x, Int.emod_def (x / b), Int.mul_assoc b (b ^ k), Int.sub_eq_add_neg, ← Int.mul_neg, Int.add_mul_ediv_left _ _ (by omega), Int.ediv_ediv_of_nonneg (by omega)]
      omega
    rw [a1, a2] at h1
    omega
theorem divstep {b y r d : Int} (hy : 0 < y) (r0 : 0 ≤ r) (ry : r < y) (d0 : 0 ≤ d) (db : d < b) (hb : 0 < b) :
    0 ≤ (r * b + d) / y ∧ 0 ≤ (r * b + d) % y ∧ (r * b + d) % y < y ∧ (r * b + d) / y < b := by
  have h0 : 0 ≤ r * b + d := Int.add_nonneg (Int.mul_nonneg r0 (Int.le_of_lt hb)) d0
  have h1 : r * b ≤ (y - 1) * b := Int.mul_le_mul_of_nonneg_right (by omega) (Int.le_of_lt hb)
  rw [Int.sub_mul, Int.one_mul] at h1
  refine ⟨Int.ediv_nonneg h0 (Int.le_of_lt hy), Int.emod_nonneg _ (by omega), Int.emod_lt_of_pos _ hy, Int.ediv_lt_of_lt_mul hy ?_⟩
  rw [Int.mul_comm b y]; omega
theorem divstep_val (b y r d : Int) {q : Int} : d + b * (q * y + r) = ((r * b + d) / y + b * q) * y + (r * b + d) % y := by
  have h := Int.emod_def (r * b + d) y
  rw [Int.mul_add, Int.add_mul, Int.mul_comm ((r * b + d) / y) y, Int.mul_assoc b q y, Int.mul_comm b r]
  omega
theorem permC {h₀ h : Heap} {L : Addr} {q : Addr × Obj} {s1 s2 rest : List (Addr × Obj)} (N : News h₀ L h (q :: (s1 ++ (s2 ++ rest)))) : News h₀ L h (s2 ++ (q :: (s1 ++ rest))) := by
  refine News.sub N fun p hp => ?_
  simp only [List.mem_append, List.mem_cons] at hp ⊢
  rcases hp with h | h | h | h <;> simp [h]
theorem divmod_pos (w : World) (p : Program) (loose : List Str) (mean : ExcName → Option Value) (mg mb : Str → Option Value)
  (dp un : Nat) (gd : Option (List Code)) (cn : Str) (cs : Scope) (a : Addr) (ccd : Value) (cl : List (Str × Addr)) (outer : List Env) (A₀ : Around) (base h₀ : Heap) (L : Addr) (m : Str → Option Value) (s : Shared) (Q E : Value → Shared → Prop) (seg62 seg69 rest : List (Addr × Obj))
  (B : Below A₀ base outer h₀) (F : Fr h₀ L s.heap m) (X : (pre.heap_1 w.params).In h₀) (N : News h₀ L s.heap (seg62 ++ (seg69 ++ rest))) (T : Top p loose mean mg mb h₀) (hk : cs.kind = .function) 
  (C62 : CodeHd base 66 62) (C69 : CodeHd base 73 69) (hS : Segs seg62 seg69 rest)
  (x y : Int) (t1 t2 : Tok) (hx : 0 ≤ x) (hy : 0 < y) (hyb : Builtin.Int.intBits y < 900) (D : Nat) (hD : ((Builtin.Int.intBits x : Int) + (Builtin.Int.intBits y : Nat) - 1).fdiv (Builtin.Int.intBits y : Nat) = D) (hD1 : D ≤ 100) (hdp : dp + 200 < recursionLimit)
  (hret : ∀ (h' : Heap) (tk' : Nat) (t : Addr) (u1 u2 : Tok) (seg62' seg69' : List (Addr × Obj)), Fulls seg62' seg69' rest → Fr h₀ L h' m → News h₀ L h' ((t, tupObj [.int (x / y) u1, .int (x % y) u2]) :: (seg62' ++ (seg69' ++ rest))) → (∀ q ∈ seg62' ++ (seg69' ++ rest), q.1 < t) → Q (.ref t) { s with heap := h', toks := tk' }) :
  wpAny (model PySem.Challenge.rw_ta0044_01.row.prog w) (ktrTop dp un gd cn cs L a ccd cl outer) (call (.ref 81) [.int x t1, .int y t2]) Q E s := by
  revert X; k_fill; intro X
  refine wpAny_call ?_
  refine' code_def (binds := [("a", .int x t1), ("b", .int y t2)]) ?k1 ?k2 ?k3 ?k4 ?k5 ?kA ?kF ?kK ?k6 ?k7 ?k8 ?k9 ?kB ?_ ?c2 ?c3 ?c4 ?c5
  walk_at "my enter 3"
  intro g' L' h' FG' F' N' B' X' T'; (try dsimp only); (try k_fold)
  k_steps
  rename Fr _ _ _ _ => F'
  rename News _ _ _ _ => N'
  have hn : 0 < Builtin.Int.intBits y := by
    rcases Nat.eq_zero_or_pos (Builtin.Int.intBits y) with h | h
    · have := intBits_le_iff.mp (Nat.le_of_eq h); omega
    · exact h
  refine Stop.out (int2digits w p loose mean mg mb _ _ _ _ _ _ _ _ _ _ _ _ _ _ _ _ _ seg62 (seg69 ++ rest) B' F' X' N' T' rfl C62 hS.s62 ?hr hS.a62 x _ _ _ hx hn (by omega) D hD (by omega) ?hd1 ?hret1)
  case hr => obtain ⟨o, ho⟩ := hS.s62.mem; exact hS.a62 _ ho
  case hd1 => show dp + 1 + D + 2 < recursionLimit; omega
  intro h' tk' la vs seg62' f62 a62 hi F' N'
  have hvl := hi.length
  rw [digs_len] at hvl
  (try dsimp only)
  k_steps
  refine Stop.out (newList_K (by assumption) (by assumption) ?_)
  intro lq h' F' N' l1
  (try dsimp only)
  k_steps
  rename Fr _ _ _ _ => F'
  rename News _ _ _ _ => N'
  refine Stop.out (krv_reversed F' N' (News.isList N' (.tail _ (.head _))) ?_)
  intro I h' F' N' lI
  (try dsimp only)
  k_steps
  refine Stop.out (wpAny_pyIter_revIter ⟨_, (N' _ (.head _)).1, rfl, rfl⟩ ?_)
  refine my_for (σ := (Int × List Int) × (List Value × Nat × Tok)) (fun c => (lq, listOf c.2.1.toArray c.2.2.1) :: (seg62' ++ (seg69 ++ rest))) (fun c => [("r", .int c.1.1 c.2.2.2)]) ["q_digit"]
    (fun i c => IntsAre c.2.1 c.1.2 ∧ c.1.2.length = i ∧ 0 ≤ c.1.1 ∧ c.1.1 < y ∧ Digs (2 ^ Builtin.Int.intBits y) c.1.2 ∧ Hide (undig (2 ^ Builtin.Int.intBits y) ((digs (2 ^ Builtin.Int.intBits y) D x).drop (D - i)) = undig (2 ^ Builtin.Int.intBits y) c.1.2.reverse * y + c.1.1)) ((0, []), ([], 0, _)) (Walks.listRev rfl I la ?hne vs.toArray) ?hLf ?hwr ?hnw ?hst F' (News.sub N' ?hs) (all1 rfl) ?hp ?turn ?done
  case hne => exact Nat.ne_of_lt (lI _ (.tail _ (.head _)))
  case hLf =>
    intro q
    rcases List.mem_cons.mp q with q | q
    · exact (N' _ (.head _)).2.1 q.symm
    · exact (N' _ (.tail _ (.tail _ (.head _)))).2.1 (List.mem_singleton.mp q).symm
  case hwr => exact all1 (N' _ (.head _)).2.2
  case hnw =>
    refine List.forall_mem_cons.mpr ⟨fun q => ?_, fun p hp q => ?_⟩
    · exact Nat.ne_of_lt (lI _ (.head _)) (List.mem_singleton.mp q)
    · exact Nat.ne_of_lt (lI _ (.tail _ (.tail _ hp))) (List.mem_singleton.mp q)
  case hst =>
    refine ⟨Nat.zero_le _, ⟨_, (N' _ (.head _)).1, rfl, ?_⟩, News.isList N' (.tail _ (.tail _ (.head _)))⟩
    simp [revObj]
  case hs =>
    intro q hq
    simp only [List.mem_cons] at hq ⊢
    rcases hq with h | h <;> simp [h]
  case hp => exact ⟨.nil, rfl, Int.le_refl _, hy, fun _ h => (nomatch h), Hide.mk (by rw [Nat.sub_zero, List.drop_eq_nil_of_le (by rw [digs_len]; exact Nat.le_refl _)]; simp [undig])⟩
  case turn =>
    rintro ⟨⟨r, qs⟩, ⟨qv, kq, tr⟩⟩ i v u h tk own hin hv hoff hof hown ⟨iq, lnq, r0, ry, dq, hval⟩ hst F N
    dsimp only at iq lnq r0 ry dq hval F N
    rw [List.size_toArray, hvl] at hin
    rw [List.size_toArray, hvl, List.getElem?_toArray] at hv
    have hdl : (digs (2 ^ Builtin.Int.intBits y) D x).length = D := digs_len _ _ _
    obtain ⟨d, hd⟩ : ∃ d, (digs (2 ^ Builtin.Int.intBits y) D x)[D - 1 - i]? = some d := ⟨_, List.getElem?_eq_getElem (by rw [hdl]; omega)⟩
    obtain ⟨td, hvd⟩ := hi.get _ _ hd
    obtain rfl : v = .int d td := by rw [hvd] at hv; exact (Option.some.inj hv).symm
    have hdd := digs_digs (b := 2 ^ Builtin.Int.intBits y) (Int.pow_pos (by decide)) D x d (List.mem_of_getElem? hd)
    have hX : ∀ p ∈ (seg62' ++ (seg69 ++ rest)) ++ own, p.1 ≠ lq := by
      intro p hp
      rcases List.mem_append.mp hp with hp | hp
      · exact Nat.ne_of_lt (l1 _ (.tail _ hp))
      · rcases List.mem_cons.mp (hof p hp) with q | q
        · rw [q]; exact Nat.ne_of_gt (lI _ (.head _))
        · rw [List.mem_singleton.mp q]; exact Nat.ne_of_lt (l1 _ (.head _))
    rw [List.cons_append] at N
    refine wpAny_opq fun Q' hQ => ?_
    k_steps
    have hrb : Builtin.Int.intBits r ≤ Builtin.Int.intBits y := intBits_le_of_natAbs (by omega) (Nat.le_refl _)
    refine Stop.out (lshift_int (by omega) (by omega) ?_)
    rw [Int.toNat_natCast]
    (try dsimp only)
    k_steps
    rename Fr _ _ _ _ => F
    rename News _ _ _ _ => N
    have hpw : (0 : Int) < 2 ^ Builtin.Int.intBits y := Int.pow_pos (by decide)
    have hyl : y < 2 ^ Builtin.Int.intBits y := by
      have := intBits_le_iff.mp (Nat.le_refl (Builtin.Int.intBits y))
      have e : ((2 ^ Builtin.Int.intBits y : Nat) : Int) = 2 ^ Builtin.Int.intBits y := by rw [Int.natCast_pow]; rfl
      omega
    have hz0 : 0 ≤ r * 2 ^ Builtin.Int.intBits y + d := Int.add_nonneg (Int.mul_nonneg r0 (Int.le_of_lt hpw)) hdd.1
    have hz1 : r * 2 ^ Builtin.Int.intBits y + d < y * 2 ^ Builtin.Int.intBits y := by
      have h1 : r * 2 ^ Builtin.Int.intBits y ≤ (y - 1) * 2 ^ Builtin.Int.intBits y := Int.mul_le_mul_of_nonneg_right (by omega) (Int.le_of_lt hpw)
      rw [Int.sub_mul, Int.one_mul] at h1
      have := hdd.2
      omega
    have hzb : Builtin.Int.intBits (r * 2 ^ Builtin.Int.intBits y + d) ≤ 2 * Builtin.Int.intBits y := by
      refine intBits_le_iff.mpr ?_
      have h2 : y * 2 ^ Builtin.Int.intBits y ≤ 2 ^ Builtin.Int.intBits y * 2 ^ Builtin.Int.intBits y := Int.mul_le_mul_of_nonneg_right (by omega) (Int.le_of_lt hpw)
      rw [← Int.pow_add, show Builtin.Int.intBits y + Builtin.Int.intBits y = 2 * Builtin.Int.intBits y by omega] at h2
      have e : ((2 ^ (2 * Builtin.Int.intBits y) : Nat) : Int) = 2 ^ (2 * Builtin.Int.intBits y) := by rw [Int.natCast_pow]; rfl
      omega
    have hlog : y.natAbs.log2 < 9000 := by
      have h1 : Builtin.Int.intBits y = y.natAbs.log2 + 1 := by unfold Builtin.Int.intBits; rw [if_neg (by simpa using (show y ≠ 0 by omega))]
      omega
    refine Stop.out (div2n1n w p loose mean mg mb _ _ _ _ _ _ _ _ _ _ _ _ _ _ _ _ _ _ B' F X' N T' rfl ?hd2 _ _ _ _ _ _ hz0 hy (by omega) hlog ?hret2)
    case hd2 => show dp + 1 + 1 < recursionLimit; omega
    intro h' tk' t u1 u2 F N lt
    (try dsimp only)
    k_lt lt
    k_steps
    rename Fr _ _ _ _ => F
    rename News _ _ _ _ => N
    rw [List.push_toArray] at N
    have ⟨hq0, hr0', hr1', hqlt⟩ := divstep (b := 2 ^ Builtin.Int.intBits y) hy r0 ry hdd.1 hdd.2 hpw
    refine hQ _ _ ?_
    refine MfPost.next (((r * 2 ^ Builtin.Int.intBits y + d) % y, qs ++ [(r * 2 ^ Builtin.Int.intBits y + d) / y]), (qv ++ [.int ((r * 2 ^ Builtin.Int.intBits y + d) / y) u1], kq + 1, u2)) F N ?m1 ?m2 ?m3 (all1 rfl) ?m5 ?m6
    case m1 =>
      intro q hq
      simp only [List.mem_cons, List.mem_append] at hq ⊢
      rcases hq with h | h | h | h <;> simp [h]
    case m2 => intro q hq; exact .tail _ (.tail _ (List.mem_append_right _ hq))
    case m3 => exact List.forall_mem_cons.mpr ⟨hoff (lq, listOf qv.toArray kq) (.head _), fun p hp => hoff p (.tail _ hp)⟩
    case m5 =>
      intro z a0 h2 h3
      have a1 : ¬ z = _ := h2 _ (.head _)
      have a2 : ¬ z = _ := not_mem1 h3
      exact (if_neg a1).trans ((if_neg a2).trans ((if_neg a0).trans (kst_same (all1 (P := fun p : Str × Value => z ≠ p.1) a1) h3)))
    case m6 =>
      refine ⟨ints_snoc iq, by rw [List.length_append, lnq]; rfl, hr0', hr1', ?_, Hide.mk ?_⟩
      · intro q hq
        rcases List.mem_append.mp hq with hq | hq
        · exact dq q hq
        · rw [List.mem_singleton.mp hq]; exact ⟨hq0, hqlt⟩
      · have e1 : D - (i + 1) = D - 1 - i := by rw [Nat.sub_sub, Nat.add_comm]
        have e2 : D - 1 - i + 1 = D - i := by omega
        have hlt : D - 1 - i < (digs (2 ^ Builtin.Int.intBits y) D x).length := by rw [hdl]; omega
        rw [e1, List.drop_eq_getElem_cons hlt, e2, undig, hval.out]
        have e3 : (digs (2 ^ Builtin.Int.intBits y) D x)[D - 1 - i] = d := by
          rw [List.getElem?_eq_getElem hlt] at hd; exact Option.some.inj hd
        rw [e3, List.reverse_append, List.reverse_singleton, List.singleton_append, undig]
        exact divstep_val _ _ _ _
  case done =>
    rintro ⟨⟨r, qs⟩, ⟨qv, kq, tr⟩⟩ u h tk ⟨iq, lnq, r0, ry, dq, hval⟩ F N
    dsimp only at iq lnq r0 ry dq hval F N
    rw [List.size_toArray, hvl] at lnq hval
    (try dsimp only)
    k_steps
    have hX : ∀ p ∈ seg62' ++ (seg69 ++ rest), p.1 ≠ lq := fun p hp => Nat.ne_of_lt (l1 _ (.tail _ hp))
    have hqvl := iq.length
    refine kl_reverse F N rfl (Upd.head hX) (by simp [sizeLine]; omega) ?_
    intro h' F N
    (try dsimp only)
    k_steps
    rename Fr _ _ _ _ => F
    rename News _ _ _ _ => N
    have hsd2 : ∀ r ∈ seg69, ∀ q ∈ (lq, listOf qv.reverse.toArray kq) :: (seg62' ++ rest), q.1 ≠ r.1 := by
      intro e he
      refine List.forall_mem_cons.mpr ⟨Nat.ne_of_gt (l1 _ (.tail _ (List.mem_append_right _ (List.mem_append_left _ he)))), fun q hq => ?_⟩
      rcases List.mem_append.mp hq with hq | hq
      · exact (a62 q hq e (List.mem_append_left _ he)).symm
      · exact hS.a69 e he q hq
    refine Stop.out (digits2int w p loose mean mg mb _ _ _ _ _ _ _ _ _ _ _ _ _ _ _ _ _ seg69 (_ :: (seg62' ++ rest)) B' F X' (permC N) T' rfl C69 hS.s69 ?hr2 hsd2 lq _ _ _ (.head _) (ints_rev iq) ?hl2 _ _ hn (by omega) ?hdg ?hd3 ?hret3)
    case hr2 => obtain ⟨o, ho⟩ := hS.s69.mem; exact hsd2 _ ho
    case hl2 => rw [List.length_reverse]; omega
    case hdg => exact fun q hq => dq q (List.mem_reverse.mp hq)
    case hd3 => show dp + 1 + qs.reverse.length + 2 < recursionLimit; rw [List.length_reverse]; omega
    intro h' tk' u seg69' f69 a69' F N
    have hv := hval.out
    rw [Nat.sub_self, List.drop_zero, undig_digs (Int.pow_pos (by decide)), Int.emod_eq_of_lt hx (bits_digits hn hx hD)] at hv
    have hq : undig (2 ^ Builtin.Int.intBits y) qs.reverse = x / y ∧ r = x % y := by
      rw [hv, Int.mul_comm]
      exact ⟨by rw [Int.add_comm, Int.add_mul_ediv_left _ _ (by omega), Int.ediv_eq_zero_of_lt r0 ry]; omega, by rw [Int.add_comm, Int.add_mul_emod_self_left, Int.emod_eq_of_lt r0 ry]⟩
    rw [hq.1]
    rw [hq.2] at F
    (try dsimp only)
    k_steps
    rename Fr _ _ _ _ => F
    rename News _ _ _ _ => N
    refine Stop.out (newTuple_N F N ?_)
    have lD := fun q hq => Heap.lt_size (N q hq).1
    intro h' F N
    (try dsimp only)
    k_steps
    rename Fr h₀ L _ m => kF
    rename News h₀ L _ _ => kN
    refine hret _ _ _ u tr seg62' seg69' ⟨⟨f62.seg, f69.seg, ?_, fun r hr q hq => a69' r hr q (.tail _ (List.mem_append_right _ hq))⟩, f62, f69⟩ kF (News.sub kN ?hsub) ?hlt
    · intro e he q hq
      rcases List.mem_append.mp hq with hq | hq
      · exact (a69' q hq e (.tail _ (List.mem_append_left _ he))).symm
      · exact a62 e he q (List.mem_append_right _ hq)
    · intro q hq
      simp only [List.mem_cons, List.mem_append] at hq ⊢
      rcases hq with h | h | h | h <;> simp [h]
    · intro q hq
      refine lD q ?_
      simp only [List.mem_cons, List.mem_append] at hq ⊢
      rcases hq with h | h | h <;> simp [h]
end
end Mine
end -- D6
section -- D7
open PySem PySem.W PySem.Calls PyProof.Rows
set_option Elab.async false
set_option maxRecDepth 100000
set_option maxHeartbeats 1000000
namespace Mine
section
local macro_rules | `(tactic| walk_at "call ref") => `(tactic| refine Stop.mk ?_)
local macro_rules | `(tactic| walk_at "newTuple") => `(tactic| refine Stop.mk ?_)
local macro_rules | `(tactic| walk_at "ite") => `(tactic| (first | (refine ite_pos (by (try simp only [decide_eq_true_eq, beq_iff_eq]); omega) ?_; walk_say "MY PRUNE") | (refine ite_neg (by (try simp only [decide_eq_true_eq, beq_iff_eq]); omega) ?_; walk_say "MY PRUNE")))
theorem clear_9 : True := by
  first
  | (row_walk; done)
  | trivial
theorem digits_few {x y : Int} (hx : 0 ≤ x) (hy : 0 < y) (h : x ≤ 64 * y) :
    ∃ D : Nat, ((Builtin.Int.intBits x : Int) + (Builtin.Int.intBits y : Nat) - 1).fdiv (Builtin.Int.intBits y : Nat) = D ∧ D ≤ 100 := by
  have hn : 0 < Builtin.Int.intBits y := by
    rcases Nat.eq_zero_or_pos (Builtin.Int.intBits y) with h | h
    · have := intBits_le_iff.mp (Nat.le_of_eq h); omega
    · exact h
  have h1 : Builtin.Int.intBits x ≤ Builtin.Int.intBits y + 7 := by
    refine intBits_le_iff.mpr ?_
    have h2 := intBits_le_iff.mp (Nat.le_refl (Builtin.Int.intBits y))
    rw [Nat.pow_add]
    omega
  have h3 : 0 ≤ ((Builtin.Int.intBits x : Int) + (Builtin.Int.intBits y : Nat) - 1) / (Builtin.Int.intBits y : Nat) := Int.ediv_nonneg (by omega) (by omega)
  have h4 : ((Builtin.Int.intBits x : Int) + (Builtin.Int.intBits y : Nat) - 1) / (Builtin.Int.intBits y : Nat) < 100 := by
    refine Int.ediv_lt_of_lt_mul (by omega) ?_
    omega
  refine ⟨(((Builtin.Int.intBits x : Int) + (Builtin.Int.intBits y : Nat) - 1) / (Builtin.Int.intBits y : Nat)).toNat, ?_, by omega⟩
  rw [Int.fdiv_eq_ediv_of_nonneg _ (by omega)]
  omega
theorem divmod_uniq {x y q r : Int} (h0 : 0 ≤ r) (h1 : r < y) (h : x = q * y + r) : x / y = q ∧ x % y = r := by
  subst h
  constructor
  · rw [Int.add_comm, Int.add_mul_ediv_right _ _ (by omega), Int.ediv_eq_zero_of_lt h0 h1]; omega
  · rw [Int.add_comm, Int.add_mul_emod_self_right, Int.emod_eq_of_lt h0 h1]
theorem neg_both {x y : Int} (hy : 0 < y) : x / y = -((-x - 1) / y) - 1 ∧ x % y = y + (-((-x - 1) % y) - 1) := by
  have h0 := Int.emod_nonneg (-x - 1) (show y ≠ 0 by omega)
  have h1 := Int.emod_lt_of_pos (-x - 1) hy
  have h2 := Int.emod_def (-x - 1) y
  refine divmod_uniq (by omega) (by omega) ?_
  rw [Int.sub_mul, Int.neg_mul, Int.mul_comm _ y]
  omega
theorem neg_div {x y : Int} (hy : 0 < y) : -((-x - 1) / y) - 1 = x / y := (neg_both hy).1.symm
theorem neg_mod {x y : Int} (hy : 0 < y) : y + (-((-x - 1) % y) - 1) = x % y := (neg_both hy).2.symm
theorem dropSnd {h₀ h : Heap} {L : Addr} {a b : Addr × Obj} {l : List (Addr × Obj)} (N : News h₀ L h (a :: b :: l)) : News h₀ L h (a :: l) := by
  refine News.sub N fun q hq => ?_
  simp only [List.mem_cons] at hq ⊢
  rcases hq with h | h <;> simp [h]
theorem idm0 (w : World) (p : Program) (loose : List Str) (mean : ExcName → Option Value) (mg mb : Str → Option Value)
  (dp un : Nat) (gd : Option (List Code)) (cn : Str) (cs : Scope) (a : Addr) (ccd : Value) (cl : List (Str × Addr)) (outer : List Env) (A₀ : Around) (base h₀ : Heap) (L : Addr) (m : Str → Option Value) (s : Shared) (Q E : Value → Shared → Prop) (seg62 seg69 rest : List (Addr × Obj))
  (B : Below A₀ base outer h₀) (F : Fr h₀ L s.heap m) (X : (pre.heap_1 w.params).In h₀) (N : News h₀ L s.heap (seg62 ++ (seg69 ++ rest))) (T : Top p loose mean mg mb h₀) (hk : cs.kind = .function) 
  (C62 : CodeHd base 66 62) (C69 : CodeHd base 73 69) (hS : Segs seg62 seg69 rest)
  (x y : Int) (t1 t2 : Tok) (hx : 0 ≤ x) (hy : 0 < y) (hyb : Builtin.Int.intBits y < 900) (hxy : x ≤ 64 * y) (hdp : dp + 202 < recursionLimit)
  (hret : ∀ (h' : Heap) (tk' : Nat) (t : Addr) (u1 u2 : Tok) (seg62' seg69' : List (Addr × Obj)), Fulls seg62' seg69' rest → Fr h₀ L h' m → News h₀ L h' ((t, tupObj [.int (x / y) u1, .int (x % y) u2]) :: (seg62' ++ (seg69' ++ rest))) → (∀ q ∈ seg62' ++ (seg69' ++ rest), q.1 < t) → Q (.ref t) { s with heap := h', toks := tk' }) :
  wpAny (model PySem.Challenge.rw_ta0044_01.row.prog w) (ktrTop dp un gd cn cs L a ccd cl outer) (call (.ref 88) [.int x t1, .int y t2]) Q E s := by
  revert X; k_fill; intro X
  refine wpAny_call ?_
  refine' code_def (binds := [("a", .int x t1), ("b", .int y t2)]) ?k1 ?k2 ?k3 ?k4 ?k5 ?kA ?kF ?kK ?k6 ?k7 ?k8 ?k9 ?kB ?_ ?c2 ?c3 ?c4 ?c5
  walk_at "my enter 3"
  intro g' L' h' FG' F' N' B' X' T'; (try dsimp only); (try k_fold)
  obtain ⟨D, hD, hD1⟩ := digits_few hx hy hxy
  replace hD := Hide.mk hD
  k_steps
  rename Fr _ _ _ _ => F
  rename News _ _ _ _ => N
  refine Stop.out (divmod_pos w p loose mean mg mb _ _ _ _ _ _ _ _ _ _ _ _ _ _ _ _ _ seg62 seg69 rest B' F X' N T' rfl C62 C69 hS x y _ _ hx hy hyb D hD.out hD1 ?hd1 ?hret1)
  case hd1 => show dp + 1 + 200 < recursionLimit; omega
  intro h' tk' t u1 u2 s1 s2 hF F N lt
  (try dsimp only)
  k_steps
  rename Fr h₀ L _ m => kF
  rename News h₀ L _ _ => kN
  exact hret _ _ _ _ _ s1 s2 hF kF kN lt
theorem idm1 (w : World) (p : Program) (loose : List Str) (mean : ExcName → Option Value) (mg mb : Str → Option Value)
  (dp un : Nat) (gd : Option (List Code)) (cn : Str) (cs : Scope) (a : Addr) (ccd : Value) (cl : List (Str × Addr)) (outer : List Env) (A₀ : Around) (base h₀ : Heap) (L : Addr) (m : Str → Option Value) (s : Shared) (Q E : Value → Shared → Prop) (seg62 seg69 rest : List (Addr × Obj))
  (B : Below A₀ base outer h₀) (F : Fr h₀ L s.heap m) (X : (pre.heap_1 w.params).In h₀) (N : News h₀ L s.heap (seg62 ++ (seg69 ++ rest))) (T : Top p loose mean mg mb h₀) (hk : cs.kind = .function) 
  (C62 : CodeHd base 66 62) (C69 : CodeHd base 73 69) (hS : Segs seg62 seg69 rest)
  (x y : Int) (t1 t2 : Tok) (hy : 0 < y) (hyb : Builtin.Int.intBits y < 900) (hxy : x ≤ 64 * y) (hxy' : -x ≤ 64 * y) (hdp : dp + 204 < recursionLimit)
  (hret : ∀ (h' : Heap) (tk' : Nat) (t : Addr) (u1 u2 : Tok) (seg62' seg69' : List (Addr × Obj)), Fulls seg62' seg69' rest → Fr h₀ L h' m → News h₀ L h' ((t, tupObj [.int (x / y) u1, .int (x % y) u2]) :: (seg62' ++ (seg69' ++ rest))) → (∀ q ∈ seg62' ++ (seg69' ++ rest), q.1 < t) → Q (.ref t) { s with heap := h', toks := tk' }) :
  wpAny (model PySem.Challenge.rw_ta0044_01.row.prog w) (ktrTop dp un gd cn cs L a ccd cl outer) (call (.ref 88) [.int x t1, .int y t2]) Q E s := by
  by_cases hx : 0 ≤ x
  · exact idm0 w p loose mean mg mb dp un gd cn cs a ccd cl outer A₀ base h₀ L m s Q E seg62 seg69 rest B F X N T hk C62 C69 hS x y t1 t2 hx hy hyb hxy (by omega) hret
  revert X; k_fill; intro X
  refine wpAny_call ?_
  refine' code_def (binds := [("a", .int x t1), ("b", .int y t2)]) ?k1 ?k2 ?k3 ?k4 ?k5 ?kA ?kF ?kK ?k6 ?k7 ?k8 ?k9 ?kB ?_ ?c2 ?c3 ?c4 ?c5
  walk_at "my enter 3"
  intro g' L' h' FG' F' N' B' X' T'; (try dsimp only); (try k_fold)
  k_steps
  rename Fr _ _ _ _ => F
  rename News _ _ _ _ => N
  have ex : Builtin.bitNot x = -x - 1 := rfl
  rw [ex]
  refine Stop.out (idm0 w p loose mean mg mb _ _ _ _ _ _ _ _ _ _ _ _ _ _ _ _ _ seg62 seg69 rest B' F X' N T' rfl C62 C69 hS (-x - 1) y _ _ (by omega) hy hyb (by omega) ?hd1 ?hret1)
  case hd1 => show dp + 1 + 202 < recursionLimit; omega
  intro h' tk' t u1 u2 s1 s2 hF F N lt
  (try dsimp only)
  k_steps
  rename Fr _ _ _ _ => F
  rename News _ _ _ _ => N
  refine Stop.out (newTuple_N F N ?_)
  have lD := fun q hq => Heap.lt_size (N q hq).1
  intro h' F N
  (try dsimp only)
  k_steps
  rename Fr h₀ L _ m => kF
  rename News h₀ L _ _ => kN
  have e1 : Builtin.bitNot ((-x - 1) / y) = x / y := by
    show -((-x - 1) / y) - 1 = x / y
    exact neg_div (by omega)
  have e2 : y + Builtin.bitNot ((-x - 1) % y) = x % y := by
    show y + (-((-x - 1) % y) - 1) = x % y
    exact neg_mod (by omega)
  rw [e1, e2] at kN
  refine hret _ _ _ _ _ s1 s2 hF kF (dropSnd kN) (fun q hq => lD q (.tail _ hq))
theorem idm2 (w : World) (p : Program) (loose : List Str) (mean : ExcName → Option Value) (mg mb : Str → Option Value)
  (dp un : Nat) (gd : Option (List Code)) (cn : Str) (cs : Scope) (a : Addr) (ccd : Value) (cl : List (Str × Addr)) (outer : List Env) (A₀ : Around) (base h₀ : Heap) (L : Addr) (m : Str → Option Value) (s : Shared) (Q E : Value → Shared → Prop) (seg62 seg69 rest : List (Addr × Obj))
  (B : Below A₀ base outer h₀) (F : Fr h₀ L s.heap m) (X : (pre.heap_1 w.params).In h₀) (N : News h₀ L s.heap (seg62 ++ (seg69 ++ rest))) (T : Top p loose mean mg mb h₀) (hk : cs.kind = .function) 
  (C62 : CodeHd base 66 62) (C69 : CodeHd base 73 69) (hS : Segs seg62 seg69 rest)
  (x y : Int) (t1 t2 : Tok) (hy : y < 0) (hyb : Builtin.Int.intBits (-y) < 900) (hxy : x ≤ 64 * -y) (hxy' : -x ≤ 64 * -y) (hdp : dp + 206 < recursionLimit)
  (hret : ∀ (h' : Heap) (tk' : Nat) (t : Addr) (u1 u2 : Tok) (seg62' seg69' : List (Addr × Obj)), Fulls seg62' seg69' rest → Fr h₀ L h' m → News h₀ L h' ((t, tupObj [.int (-x / -y) u1, .int (-(-x % -y)) u2]) :: (seg62' ++ (seg69' ++ rest))) → (∀ q ∈ seg62' ++ (seg69' ++ rest), q.1 < t) → Q (.ref t) { s with heap := h', toks := tk' }) :
  wpAny (model PySem.Challenge.rw_ta0044_01.row.prog w) (ktrTop dp un gd cn cs L a ccd cl outer) (call (.ref 88) [.int x t1, .int y t2]) Q E s := by
  revert X; k_fill; intro X
  refine wpAny_call ?_
  refine' code_def (binds := [("a", .int x t1), ("b", .int y t2)]) ?k1 ?k2 ?k3 ?k4 ?k5 ?kA ?kF ?kK ?k6 ?k7 ?k8 ?k9 ?kB ?_ ?c2 ?c3 ?c4 ?c5
  walk_at "my enter 3"
  intro g' L' h' FG' F' N' B' X' T'; (try dsimp only); (try k_fold)
  k_steps
  rename Fr _ _ _ _ => F
  rename News _ _ _ _ => N
  refine Stop.out (idm1 w p loose mean mg mb _ _ _ _ _ _ _ _ _ _ _ _ _ _ _ _ _ seg62 seg69 rest B' F X' N T' rfl C62 C69 hS (-x) (-y) _ _ (by omega) hyb (by omega) (by omega) ?hd1 ?hret1)
  case hd1 => show dp + 1 + 204 < recursionLimit; omega
  intro h' tk' t u1 u2 s1 s2 hF F N lt
  (try dsimp only)
  k_steps
  rename Fr _ _ _ _ => F
  rename News _ _ _ _ => N
  refine Stop.out (newTuple_N F N ?_)
  have lD := fun q hq => Heap.lt_size (N q hq).1
  intro h' F N
  (try dsimp only)
  k_steps
  rename Fr h₀ L _ m => kF
  rename News h₀ L _ _ => kN
  refine hret _ _ _ _ _ s1 s2 hF kF (dropSnd kN) (fun q hq => lD q (.tail _ hq))
end
end Mine
end -- D7
section -- E1
open PySem PySem.W PySem.Calls PyProof.Rows
set_option Elab.async false
set_option maxRecDepth 100000
set_option maxHeartbeats 1000000
namespace Mine
section
local macro_rules | `(tactic| walk_at "exec While") => `(tactic| refine Stop.mk ?_)
local macro_rules | `(tactic| walk_at "compareOp NotEq str str") => `(tactic| refine Stop.mk ?_)
theorem clear_10 : True := by
  first
  | (row_walk; done)
  | trivial
def scan : List Nat → List Nat
  | [] => []
  | [c] => if c = 34 then [] else [c]
  | c :: d :: r => if c = 34 then (if d = 34 then 34 :: scan r else []) else c :: scan (d :: r)
theorem item_nat {x : Str} {i : Nat} (h : i < x.length) : Txt.item x (i : Int) = ⟨#[x.cps.toList.getD i 0]⟩ := by
  unfold Txt.item Txt.charAt
  have e : seqIndex? (i : Int) x.length = some i := by
    unfold seqIndex?
    simp; omega
  rw [e, Option.bind_some, List.getD_eq_getElem?_getD, Array.getElem?_toList]
theorem item_quote {c : Nat} : ((⟨#[c]⟩ : Str) == Str.ofString "\"") = decide (c = 34) := by
  have e : Str.ofString "\"" = ⟨#[34]⟩ := by decide
  rw [e]
  by_cases h : c = 34
  · subst h; decide
  · rw [decide_eq_false h]
    refine beq_eq_false_iff_ne.mpr fun q => h ?_
    have := congrArg (fun s : Str => s.cps.toList) q
    simpa using this
theorem drop_cons {l : List Nat} {i : Nat} (h : i < l.length) : l.drop i = l.getD i 0 :: l.drop (i + 1) := by
  rw [List.drop_eq_getElem_cons h, List.getD_eq_getElem?_getD, List.getElem?_eq_getElem h]; rfl
theorem scan_other {c : Nat} {r : List Nat} (h : ¬ c = 34) : scan (c :: r) = c :: scan r := by
  cases r with
  | nil => simp [scan, h]
  | cons d r => rw [scan, if_neg h]
theorem scan_two {r : List Nat} : scan (34 :: 34 :: r) = 34 :: scan r := by rw [scan]; simp
theorem scan_one {d : Nat} {r : List Nat} (h : ¬ d = 34) : scan (34 :: d :: r) = [] := by rw [scan]; simp [h]
theorem scan_end : scan [34] = [] := by simp [scan]
theorem str_snoc {dl : List Nat} {c : Nat} : (⟨dl.toArray⟩ : Str) ++ (⟨#[c]⟩ : Str) = ⟨(dl ++ [c]).toArray⟩ := by
  show (⟨dl.toArray ++ #[c]⟩ : Str) = _
  simp
theorem parse (w : World) (p : Program) (loose : List Str) (mean : ExcName → Option Value) (mg mb : Str → Option Value)
  (dp un : Nat) (gd : Option (List Code)) (cn : Str) (cs : Scope) (a : Addr) (ccd : Value) (cl : List (Str × Addr)) (outer : List Env) (A₀ : Around) (base h₀ : Heap) (L : Addr) (m : Str → Option Value) (s : Shared) (Q E : Value → Shared → Prop) (news : List (Addr × Obj))
  (B : Below A₀ base outer h₀) (F : Fr h₀ L s.heap m) (X : (pre.heap_1 w.params).In h₀) (N : News h₀ L s.heap news) (T : Top p loose mean mg mb h₀) (hk : cs.kind = .function) 
  (resp : Str) (body : List Nat) (t1 : Tok) (hr : resp.cps.toList = [50, 53, 55, 32, 34] ++ body) (hb : body.length ≤ 100) (hszl : resp.length ≤ sizeLine) (hlen : resp.length = 5 + body.length) (hdp : dp + 1 < recursionLimit)
  (hret : ∀ (h' : Heap) (tk' : Nat) (u1 : Tok), Fr h₀ L h' m → News h₀ L h' news → Q (.str ⟨(scan body).toArray⟩ u1) { s with heap := h', toks := tk' }) :
  wpAny (model PySem.Challenge.rw_ta0044_01.row.prog w) (ktrTop dp un gd cn cs L a ccd cl outer) (call (.ref 46) [.str resp t1]) Q E s := by
  revert X; k_fill; intro X
  refine wpAny_call ?_
  refine' code_def (binds := [("resp", .str resp t1)]) ?k1 ?k2 ?k3 ?k4 ?k5 ?kA ?kF ?kK ?k6 ?k7 ?k8 ?k9 ?kB ?_ ?c2 ?c3 ?c4 ?c5
  walk_at "my enter 3"
  intro g' L' h' FG' F' N' B' X' T'; (try dsimp only); (try k_fold)
  k_steps
  have e3 : Txt.slice resp none (some 3) = Str.ofString "257" := by
    have h := slice_closes_to (x := resp) (j := 3) ⟨by omega, by rw [hr]; simp; omega⟩
    rw [eq_of_beq h, hr]; rfl
  rw [e3]
  refine Stop.out (PyProof.Rows.ne_str ?_)
  rw [show (Str.ofString "257" != Str.ofString "257") = false from by decide]
  k_steps
  have e5 : Txt.slice resp (some 3) (some 5) = Str.ofString " \"" := by
    have h := slice_closes (x := resp) (i := 3) (j := 5) ⟨by omega, by omega, by rw [hr]; simp; omega⟩
    rw [eq_of_beq h, hr]; rfl
  rw [e5]
  refine Stop.out (PyProof.Rows.ne_str ?_)
  rw [show (Str.ofString " \"" != Str.ofString " \"") = false from by decide]
  k_steps
  rename Fr _ _ _ _ => F'
  rename News _ _ _ _ => N'
  refine Stop.out ?_
  refine ksw_while (σ := (Nat × List Nat) × (Tok × Tok)) (fun _ => news) (fun c => [("i", .int c.1.1 c.2.1), ("dirname", .str ⟨c.1.2.toArray⟩ c.2.2)]) (fun _ => True) ["c"]
    (fun c => 5 ≤ c.1.1 ∧ c.1.1 ≤ resp.length ∧ (⟨c.1.2.toArray⟩ : Str).length ≤ 200 ∧ Hide (c.1.2.length + 5 ≤ c.1.1 ∧ c.1.2 ++ scan (resp.cps.toList.drop c.1.1) = scan body)) (fun c => resp.length - c.1.1) ((5, []), (_, _)) F' N' trivial (all2 rfl rfl) ?hp ?turn
  case hp => exact ⟨Nat.le_refl _, (show 5 ≤ resp.length by omega), (show (0 : Nat) ≤ 200 by omega), Hide.mk ⟨Nat.le_refl _, by rw [hr]; rfl⟩⟩
  case turn =>
    rintro ⟨⟨i, dl⟩, ⟨u1, u2⟩⟩ u h tk - ⟨h1, h2, h3, h4⟩ F N
    dsimp only at F N h1 h2 h3 h4 ⊢
    refine ksw_opq fun K' hK => ?_
    k_steps
    all_goals (try (rename (Txt.item resp (i : Int) == _) = _ => hq; rw [item_nat (by omega), item_quote] at hq))
    · -- the quotation mark ends the reply
      refine hK _ _ ?_
      k_steps
      rename decide _ = true => hq
      rename (resp.length : Int) ≤ _ => hend
      have hq := of_decide_eq_true hq
      have ⟨h5, h6⟩ := h4.out
      rw [drop_cons (by rw [Array.length_toList]; show i < resp.length; omega), hq, List.drop_eq_nil_of_le (by rw [Array.length_toList]; show resp.length ≤ i + 1; omega), scan_end, List.append_nil] at h6
      rw [h6]
      exact hret _ _ _ (by assumption) (by assumption)
    · rename decide _ = true => hq
      have hq := of_decide_eq_true hq
      rename ¬ (resp.length : Int) ≤ _ => hend
      have ⟨h5, h6⟩ := h4.out
      have en : Txt.item resp ((i : Int) + 1) = ⟨#[resp.cps.toList.getD (i + 1) 0]⟩ := item_nat (i := i + 1) (by omega)
      rw [en]
      refine Stop.out (PyProof.Rows.ne_str ?_)
      rw [show ((⟨#[resp.cps.toList.getD (i + 1) 0]⟩ : Str) != Str.ofString "\"") = !decide (resp.cps.toList.getD (i + 1) 0 = 34) by rw [← item_quote]; rfl]
      have hlt : i + 1 < resp.cps.toList.length := by rw [Array.length_toList]; show i + 1 < resp.length; omega
      rw [drop_cons (show i < resp.cps.toList.length by omega), hq, drop_cons hlt] at h6
      k_steps
      · rename resp.cps.toList.getD (i + 1) 0 = 34 => hq2
        rename Fr _ _ _ _ => F'
        rename News _ _ _ _ => N'
        rw [item_nat (by omega), hq, str_snoc, show (i : Int) + 1 + 1 = ((i + 2 : Nat) : Int) by omega] at F'
        rw [hq2, scan_two] at h6
        refine hK _ _ ?_
        refine ksw_end ((i + 2, dl ++ [34]), (_, _)) F' N' (fun _ h => h) trivial (all2 rfl rfl) ?_ ⟨by dsimp only; omega, by dsimp only; omega, ?_, Hide.mk ⟨?_, ?_⟩⟩ (by dsimp only; omega)
        · intro z h2 h3
          have a1 : ¬ z = _ := h2 _ (.head _)
          have a2 : ¬ z = _ := h2 _ (.tail _ (.head _))
          have a3 : ¬ z = _ := not_mem1 h3
          dsimp only at a1 a2 a3
          first
            | exact (if_neg a2).trans ((if_neg a1).trans ((if_neg a3).trans (kst_same2 a1 a2 h3)))
            | exact (if_neg a2).trans ((if_neg a1).trans ((if_neg a1).trans ((if_neg a3).trans (kst_same2 a1 a2 h3))))
        · show (dl ++ [34]).toArray.size ≤ 200
          rw [List.size_toArray, List.length_append]; simp; omega
        · dsimp only; rw [List.length_append]; simp; omega
        · dsimp only; rw [List.append_assoc, List.singleton_append]; exact h6
      · rename ¬ resp.cps.toList.getD (i + 1) 0 = 34 => hq2
        rw [scan_one hq2, List.append_nil] at h6
        refine hK _ _ ?_
        k_steps
        rw [h6]
        exact hret _ _ _ (by assumption) (by assumption)
    · have ⟨h5, h6⟩ := h4.out
      rename decide _ = false => hq
      have hq := of_decide_eq_false hq
      rename Fr _ _ _ _ => F'
      rename News _ _ _ _ => N'
      rw [drop_cons (by rw [Array.length_toList]; show i < resp.length; omega), scan_other hq] at h6
      rw [item_nat (by omega), str_snoc, show (i : Int) + 1 = ((i + 1 : Nat) : Int) by omega] at F'
      refine hK _ _ ?_
      refine ksw_end ((i + 1, dl ++ [resp.cps.toList.getD i 0]), (_, _)) F' N' (fun _ h => h) trivial (all2 rfl rfl) ?_ ⟨by dsimp only; omega, by dsimp only; omega, ?_, Hide.mk ⟨?_, ?_⟩⟩ (by dsimp only; omega)
      · intro z h2 h3
        have a1 : ¬ z = _ := h2 _ (.head _)
        have a2 : ¬ z = _ := h2 _ (.tail _ (.head _))
        have a3 : ¬ z = _ := not_mem1 h3
        dsimp only at a1 a2 a3
        first
          | exact (if_neg a2).trans ((if_neg a1).trans ((if_neg a3).trans (kst_same2 a1 a2 h3)))
          | exact (if_neg a2).trans ((if_neg a1).trans ((if_neg a1).trans ((if_neg a3).trans (kst_same2 a1 a2 h3))))
      · show (dl ++ [_]).toArray.size ≤ 200
        rw [List.size_toArray, List.length_append]; simp; omega
      · dsimp only; rw [List.length_append]; simp; omega
      · dsimp only; rw [List.append_assoc, List.singleton_append]; exact h6
    · have ⟨h5, h6⟩ := h4.out
      rw [List.drop_eq_nil_of_le (by rw [Array.length_toList]; show resp.length ≤ i; omega)] at h6
      simp only [scan, List.append_nil] at h6
      rw [h6]
      exact hret _ _ _ (by assumption) (by assumption)
end
end Mine
end -- E1
section -- C1
open PySem PySem.W PySem.Calls PyProof.Rows
set_option Elab.async false
set_option maxRecDepth 100000
set_option maxHeartbeats 1000000
namespace Mine
open LCg LCt
theorem comp_inv {prog : Program} {w : World} {A : Around} {h₀ : Heap} {L : Addr} {m : Str → Option Value} {env : Env} {elt : Expr} {x : Str} {scope : Scope} {cl : List (Str × Addr)} {s : Shared} {S : List (Addr × Obj) → Prop} {P : Nat → Value → Prop} {Fin : List Value → List (Addr × Obj) → Prop}
    (n : Nat) (Inv : Nat → List Value → List (Addr × Obj) → Prop)
    (turn : ∀ i ys news v I oI C oC D m₂ h tk (E' : Value → Shared → Prop), i < n → Inv i ys news → P i v → NsObj oC m₂ → m₂ x = some v → Fr h₀ L h m → News h₀ L h ((I, oI) :: (C, oC) :: (D, lst ys) :: news) → Off3 I C D news → ((@Ne Nat I C) ∧ (@Ne Nat I D) ∧ (@Ne Nat C D)) →
      wpAny (model prog w) A (eval elt (compEnvC scope cl C env)) (CompEnd h₀ L m { s with heap := h, toks := tk } I oI C oC D (lst ys) S (fun y news' => Inv (i + 1) (ys ++ [y]) news')) E' { s with heap := h, toks := tk })
    (done : ∀ ys news, Inv n ys news → Fin ys news) : ∀ (k i : Nat) (ys : List Value) (news : List (Addr × Obj)), i + k = n → Inv i ys news → CompRest prog w A h₀ L m env elt x scope cl s S P Fin k i ys news
  | 0, i, ys, news, e, h => by
    obtain rfl : i = n := by omega
    exact done _ _ h
  | k + 1, i, ys, news, e, h => by
    refine CompRest.succ fun v I oI C oC D m₂ h' tk E' hP hC hx F N off ne => ?_
    refine wpAny_mono (turn i ys news v I oI C oC D m₂ h' tk E' (by omega) h hP hC hx F N off ne) (fun y s₂ q => ?_) fun _ _ e => e
    obtain ⟨h'', tk', news', e', F', N', o', hS, r⟩ := q
    exact ⟨h'', tk', news', e', F', N', o', hS, comp_inv n Inv turn done k (i + 1) _ _ (by omega) r⟩
theorem comp_invT {prog : Program} {w : World} {A : Around} {h₀ : Heap} {L : Addr} {m : Str → Option Value} {env : Env} {ct elt : Expr} {x : Str} {scope : Scope} {cl : List (Str × Addr)} {s : Shared} {S : List (Addr × Obj) → Prop} {P : Nat → Value → Prop} {Fin : List Value → List (Addr × Obj) → Prop}
    (n : Nat) (Inv : Nat → List Value → List (Addr × Obj) → Prop)
    (turn : ∀ i ys news v I oI C oC D m₂ h tk (E' : Value → Shared → Prop), i < n → Inv i ys news → P i v → NsObj oC m₂ → m₂ x = some v → Fr h₀ L h m → News h₀ L h ((I, oI) :: (C, oC) :: (D, lst ys) :: news) → Off3 I C D news → ((@Ne Nat I C) ∧ (@Ne Nat I D) ∧ (@Ne Nat C D)) →
      wpAny (model prog w) A (isTrue ct (compEnvC scope cl C env) (eval ct (compEnvC scope cl C env))) (fun ok s' => if ok = true then
        wpAny (model prog w) A (eval elt (compEnvC scope cl C env)) (CompEnd h₀ L m { s with heap := h, toks := tk } I oI C oC D (lst ys) S (fun y news' => Inv (i + 1) (ys ++ [y]) news')) E' s'
        else CompEnd h₀ L m { s with heap := h, toks := tk } I oI C oC D (lst ys) S (fun _ news' => Inv (i + 1) ys news') Value.none s') E' { s with heap := h, toks := tk })
    (done : ∀ ys news, Inv n ys news → Fin ys news) : ∀ (k i : Nat) (ys : List Value) (news : List (Addr × Obj)), i + k = n → Inv i ys news → CompRestT prog w A h₀ L m env ct elt x scope cl s S P Fin k i ys news
  | 0, i, ys, news, e, h => by
    obtain rfl : i = n := by omega
    exact done _ _ h
  | k + 1, i, ys, news, e, h => by
    refine CompRestT.succ fun v I oI C oC D m₂ h' tk E' hP hC hx F N off ne => ?_
    refine wpAny_mono (turn i ys news v I oI C oC D m₂ h' tk E' (by omega) h hP hC hx F N off ne) (fun ok s₁ q => ?_) fun _ _ e => e
    cases ok with
    | true =>
      simp only [if_true] at q ⊢
      refine wpAny_mono q (fun y s₂ q => ?_) fun _ _ e => e
      obtain ⟨h'', tk', news', e', F', N', o', hS, r⟩ := q
      exact ⟨h'', tk', news', e', F', N', o', hS, comp_invT n Inv turn done k (i + 1) _ _ (by omega) r⟩
    | false =>
      simp only [if_false, Bool.false_eq_true] at q ⊢
      obtain ⟨h'', tk', news', e', F', N', o', hS, r⟩ := q
      exact ⟨h'', tk', news', e', F', N', o', hS, comp_invT n Inv turn done k (i + 1) _ _ (by omega) r⟩
end Mine
end -- C1
section -- K0
open PySem PySem.W PySem.Calls PyProof.Rows
namespace Mine
/-! a function's parts, read off the object that a lookup gives -/
def fdOf : Option Obj → Option FuncData
  | some ⟨_, _, .func fd, _⟩ => some fd
  | _ => none
def bodyOf (o : Option Obj) : List Stmt := match fdOf o with
  | some fd => (match fd.body with | .stmts b => b | _ => [])
  | none => []
def nameOf (o : Option Obj) : Str := match fdOf o with
  | some fd => fd.name
  | none => Str.empty
def scopeOf (o : Option Obj) : Scope := match fdOf o with
  | some fd => fd.scope
  | none => default
def stmtAt (b : List Stmt) (k : Nat) : Stmt := b.getD k default
def forBody : Stmt → List Stmt
  | .For _ _ b _ _ => b
  | _ => []
end Mine
end -- K0
section -- S0
open PySem PySem.W PySem.Calls PyProof.Rows
set_option Elab.async false
set_option maxRecDepth 100000
set_option maxHeartbeats 4000000
namespace Mine
section
local macro_rules | `(tactic| walk_at "CompSrc") => `(tactic| refine Stop.mk ?_)
local macro_rules | `(tactic| walk_at "exec For Name Call cons nil") => `(tactic| refine Stop.mk ?_)
local macro_rules | `(tactic| walk_at "exec Assign cons ListComp") => `(tactic| refine Stop.mk ?_)
theorem clear_11 : True := by
  first
  | (row_walk; done)
  | trivial
theorem init (w : World) (p : Program) (loose : List Str) (mean : ExcName → Option Value) (mg mb : Str → Option Value)
  {oc0 : Value} {od0 : Option Addr} {osl0 : Array (Option Value)} {nm0 q0 : Str} {ps0 : Arguments} {s0 s1 s2 : Stmt} {rs : List Stmt} {sc : Scope} {dV0 kV0 doc0 pm0 : Value} {an0 : Option Addr} {cdv0 ct0 : Value}
  (ho : (pre.heap_1 w.params).lookup 143 = some ⟨oc0, od0, .func (fnOf nm0 q0 ps0 (s0 :: s1 :: s2 :: rs) sc dV0 kV0 doc0 pm0 an0 cdv0 ct0), osl0⟩)
  (rs' : List Stmt) (h₀ : Heap) (L : Addr) (m : Str → Option Value) (s : Shared) (Q : Flow → Shared → Prop) (E : Value → Shared → Prop)
  (o1 o2 o3 o4 o5 o6 o7 o8 : Obj) (l : Addr) (vs : List Value) (ns : List Int)
  (B : Below callerA h₀ [] h₀) (F : Fr h₀ L s.heap m) (X : (pre.heap_1 w.params).In h₀)
  (N : News h₀ L s.heap ((L + 1 + 1 + 1 + 1 + 1 + 1 + 1 + 1, o8) :: (L + 1 + 1 + 1 + 1 + 1 + 1 + 1, o7) :: (L + 1 + 1 + 1 + 1 + 1 + 1, o6) :: (L + 1 + 1 + 1 + 1 + 1, o5) :: (L + 1 + 1 + 1 + 1, o4) :: (L + 1 + 1 + 1, o3) :: (L + 1 + 1, o2) :: (L + 1, o1) :: (69, tabObj #[]) :: (62, tabObj #[]) :: (140, tabObj #[]) :: []))
  (l0 : @LT.lt Nat _ 69 L ∧ @LT.lt Nat _ 62 L ∧ @LT.lt Nat _ 140 L)
  (T : Top p loose mean mg mb h₀) (C62 : CodeHd h₀ 66 62) (C69 : CodeHd h₀ 73 69) (C140 : CodeHd h₀ 142 140)
  (d1 : o1.data = .cell none) (d2 : o2.data = .cell none) (d3 : o3.data = .cell none) (d4 : o4.data = .cell none) (d5 : o5.data = .cell none) (d6 : o6.data = .cell none) (d7 : o7.data = .cell none) (d8 : o8.data = .cell none)
  (hsc : m "script" = some (.ref l)) (hl : h₀.IsList l vs.toArray) (hI : IntsAre vs ns) (hL : (PyData.list (List.map PyData.int ns)).layable0 = true) (hcond : ¬ (63 : Int) < ns.length)
  (hret : ∀ (D : Addr) (ys : List Value) (cs : List Int) h' tk, IntsAre ys cs → cs.length = 6 → LCg.Off1 D ((L + 1 + 1 + 1 + 1 + 1 + 1 + 1 + 1, o8) :: (L + 1 + 1 + 1 + 1 + 1 + 1 + 1, o7) :: (L + 1 + 1 + 1 + 1 + 1 + 1, o6) :: (L + 1 + 1 + 1 + 1 + 1, o5) :: (L + 1 + 1 + 1 + 1, o4) :: (L + 1 + 1 + 1, o3) :: (69, tabObj #[]) :: (62, tabObj #[]) :: (140, tabObj #[]) :: []) → Fr h₀ L h' (fun z => if z = "cells" then some (.ref D) else kstB m [("script", .ref l)] z) →
    News h₀ L h' ((D, LCg.lst ys) :: (L + 1 + 1 + 1 + 1 + 1 + 1 + 1 + 1, o8) :: (L + 1 + 1 + 1 + 1 + 1 + 1 + 1, o7) :: (L + 1 + 1 + 1 + 1 + 1 + 1, o6) :: (L + 1 + 1 + 1 + 1 + 1, o5) :: (L + 1 + 1 + 1 + 1, o4) :: (L + 1 + 1 + 1, o3) :: (69, tabObj #[]) :: (62, tabObj #[]) :: (140, tabObj #[]) :: []) →
    wpAny (model PySem.Challenge.rw_ta0044_01.row.prog w) (callerA.deeper (envOfC nm0 sc L 143 (.ref 142))) (execs rs' (envOfC nm0 sc L 143 (.ref 142))) Q E { s with heap := h', toks := tk }) :
  wpAny (model PySem.Challenge.rw_ta0044_01.row.prog w) (callerA.deeper (envOfC nm0 sc L 143 (.ref 142))) (execs (s0 :: s1 :: s2 :: rs') (envOfC nm0 sc L 143 (.ref 142))) Q E s := by
  have e_sc := congrArg (fun o => scopeOf o) ho
  conv at e_sc => lhs; whnf
  conv at e_sc => rhs; whnf
  have e_s0 := congrArg (fun o => stmtAt (bodyOf o) 0) ho
  conv at e_s0 => lhs; whnf
  conv at e_s0 => rhs; whnf
  have e_s1 := congrArg (fun o => stmtAt (bodyOf o) 1) ho
  conv at e_s1 => lhs; whnf
  conv at e_s1 => rhs; whnf
  have e_s2 := congrArg (fun o => stmtAt (bodyOf o) 2) ho
  conv at e_s2 => lhs; whnf
  conv at e_s2 => rhs; whnf
  clear ho
  subst e_sc
  subst e_s0
  subst e_s1
  subst e_s2
  have F' : Fr h₀ L s.heap (kstB m [("script", .ref l)]) := by
    have e : kstB m [("script", .ref l)] = m := funext fun z => kstB_eq (all1 hsc) fun _ => rfl
    rw [e]; exact F
  clear F hsc
  revert X; k_fill; intro X
  (try k_fold)
  k_steps
  rename Fr _ _ _ _ => F'
  rename News _ _ _ _ => N'
  refine Stop.out ?_
  refine LCg.Assign_ListComp_U (F₀ := F') (by rfl) (by with_unfolding_all rfl) (by with_unfolding_all rfl) (by decide) (by rfl) (by decide) (by rfl) (by rfl) (by rfl) ?_
  (try dsimp only)
  k_steps
  refine Stop.out ?_
  rename IntsAre _ _ => hI2
  rename IsRange _ _ _ _ _ _ _ _ => hr
  rename Fr _ _ _ _ => F2
  rename News _ _ _ _ => N2
  refine LCg.CompSrc.range (n := 6) (by rfl) F2 N2 hr (by decide) (by rfl) (by decide) ?_
  intro g
  generalize hnw : (_ :: _ : List (Addr × Obj)) = nw at N2 ⊢
  refine comp_inv 6 (fun i ys news => news = nw ∧ ∃ cs, IntsAre ys cs ∧ cs.length = i) ?_ ?_ 6 0 [] _ rfl ⟨rfl, [], .nil, rfl⟩
  · subst hnw
    rintro i ys news v I oI C oC D m₂ h tk E' hi ⟨rfl, cs, hcs, hlen⟩ ⟨t, rfl⟩ hC hx F N off ne
    have off0 := Hide.mk off
    simp only [LCg.Off3, and_true] at off
    clear F2 N2
    refine wpAny_opq fun Q' hQ => ?_
    k_steps
    rename Fr _ _ _ _ => F3
    rename News _ _ _ _ => N3
    have hp := IntsAre.pick hI2 (some (0 + (i : Int))) none (some 6)
    refine LSm.sum_ints F3 N3 (by rfl) (ns := _) (vs := _) ⟨_, (N3 _ List.mem_cons_self).1, rfl, _, congrArg (fun z => Data.seq z _) ?_⟩ hp ?_
    · simp
    · intro h2 tk2 t2 F4 N4
      clear F3 N3
      (try dsimp only)
      k_steps
      exact hQ _ _ <| LCg.CompEnd.intro F4 N4 _ (fun p hp => List.mem_cons_of_mem _ hp) off0.out trivial ⟨rfl, cs ++ [_], ints_snoc hcs, by rw [List.length_append, hlen]; rfl⟩
  · rintro ys news ⟨rfl, cs, hcs, hlen⟩
    k_steps
    rename Fr _ _ _ _ => F3
    rename News _ _ _ _ => N3
    subst hnw
    refine hret _ ys cs _ _ hcs hlen ?_ F3 (News.sub N3 ?_)
    · rename LCg.Off1 _ _ => o1
      exact ⟨o1.2.2.1, o1.2.2.2.1, o1.2.2.2.2.1, o1.2.2.2.2.2.1, o1.2.2.2.2.2.2.1, o1.2.2.2.2.2.2.2.1, o1.2.2.2.2.2.2.2.2.2.2.1, o1.2.2.2.2.2.2.2.2.2.2.2.1, o1.2.2.2.2.2.2.2.2.2.2.2.2.1, trivial⟩
    · simp
end
end Mine
end -- S0
local macro_rules | `(tactic| k_all) => `(tactic| first | assumption | fail "k_all")
section -- S1
open PySem PySem.W PySem.Calls PyProof.Rows
set_option Elab.async false
set_option maxRecDepth 100000
set_option maxHeartbeats 1000000
namespace Mine
local macro_rules | `(tactic| walk_at "execs cons") => `(tactic| ((with_reducible show wpAny _ _ _ _ _ (Shared.mk _ _ _ (_ + 1) _)); refine Mine.wpAny_toks fun _ => ?_))
theorem clear_12 : True := by
  first
  | (row_walk; done)
  | trivial
theorem my_mod {prog : Program} {w : World} {A : Around} {E : Value → Shared → Prop} {s : Shared} {a b : Int} {t u : Tok} {Q : Value → Shared → Prop} (hb : 0 < b) (h : ∀ r t', r = a % b → 0 ≤ r → r < b → Q (.int r t') { s with toks := s.toks + 1 }) :
    wpAny (model prog w) A (binaryOp .Mod (.int a t) (.int b u)) Q E s :=
  mod_int' (by omega) (h _ _ (Int.fmod_eq_emod_of_nonneg _ (by omega)) (by rw [Int.fmod_eq_emod_of_nonneg _ (by omega)]; exact Int.emod_nonneg _ (by omega)) (by rw [Int.fmod_eq_emod_of_nonneg _ (by omega)]; exact Int.emod_lt_of_pos _ hb))
theorem News.sub2 {h₀ h : Heap} {L : Addr} {a b1 b2 b3 b4 b5 c : Addr × Obj} {l : List (Addr × Obj)} (N : News h₀ L h (a :: b1 :: b2 :: b3 :: b4 :: b5 :: c :: l)) : News h₀ L h (b1 :: b2 :: b3 :: b4 :: b5 :: l) :=
  News.sub N (by intro p hp; simp only [List.mem_cons] at hp ⊢; rcases hp with h | h | h | h | h | h <;> simp [h])
section
local macro_rules | `(tactic| walk_at "binaryOp Mod int int") => `(tactic| refine Stop.mk ?_)
theorem clear_13 : True := by
  first
  | (row_walk; done)
  | trivial
theorem init2 (w : World) (p : Program) (loose : List Str) (mean : ExcName → Option Value) (mg mb : Str → Option Value)
  {oc0 : Value} {od0 : Option Addr} {osl0 : Array (Option Value)} {nm0 q0 : Str} {ps0 : Arguments} {s0 s1 s2 s3 s4 s5 s6 s7 s8 s9 s10 : Stmt} {rs : List Stmt} {sc : Scope} {dV0 kV0 doc0 pm0 : Value} {an0 : Option Addr} {cdv0 ct0 : Value}
  (ho : (pre.heap_1 w.params).lookup 143 = some ⟨oc0, od0, .func (fnOf nm0 q0 ps0 (s0 :: s1 :: s2 :: s3 :: s4 :: s5 :: s6 :: s7 :: s8 :: s9 :: s10 :: rs) sc dV0 kV0 doc0 pm0 an0 cdv0 ct0), osl0⟩)
  (rs' : List Stmt) (h₀ : Heap) (L : Addr) (m : Str → Option Value) (s : Shared) (Q : Flow → Shared → Prop) (E : Value → Shared → Prop)
  (o3 o4 o5 o6 o8 : Obj) (v3 v4 v5 v6 v8 : Option Value) (D : Addr) (ys : List Value) (cs : List Int) (rest : List (Addr × Obj))
  (B : Below callerA h₀ [] h₀) (F : Fr h₀ L s.heap m) (X : (pre.heap_1 w.params).In h₀)
  (N : News h₀ L s.heap ((D, LCg.lst ys) :: (L + 1 + 1 + 1 + 1 + 1 + 1 + 1 + 1, o8) :: (L + 1 + 1 + 1 + 1 + 1 + 1, o6) :: (L + 1 + 1 + 1 + 1 + 1, o5) :: (L + 1 + 1 + 1 + 1, o4) :: (L + 1 + 1 + 1, o3) :: rest))
  (hlc : LCg.Off1 D ((L + 1 + 1 + 1 + 1 + 1 + 1 + 1 + 1, o8) :: (L + 1 + 1 + 1 + 1 + 1 + 1, o6) :: (L + 1 + 1 + 1 + 1 + 1, o5) :: (L + 1 + 1 + 1 + 1, o4) :: (L + 1 + 1 + 1, o3) :: []))
  (hr3 : ∀ q ∈ rest, q.1 ≠ L + 1 + 1 + 1) (hr4 : ∀ q ∈ rest, q.1 ≠ L + 1 + 1 + 1 + 1) (hr5 : ∀ q ∈ rest, q.1 ≠ L + 1 + 1 + 1 + 1 + 1) (hr6 : ∀ q ∈ rest, q.1 ≠ L + 1 + 1 + 1 + 1 + 1 + 1) (hr8 : ∀ q ∈ rest, q.1 ≠ L + 1 + 1 + 1 + 1 + 1 + 1 + 1 + 1)
  (T : Top p loose mean mg mb h₀) (hcs : IntsAre ys cs) (hlen : cs.length = 6)
  (d3 : o3.data = .cell v3) (d4 : o4.data = .cell v4) (d5 : o5.data = .cell v5) (d6 : o6.data = .cell v6) (d8 : o8.data = .cell v8)
  (hsc : m "cells" = some (.ref D))
  (hret : ∀ (W P f n r4 : Int) (tW tP tf tn tr tp ta tb : Tok) (lb le lh lm ll : Addr) (o3' o4' o5' o6' o8' : Obj) (h' : Heap) (tk : Nat) (m' : Str → Option Value), 1 ≤ W → Hide (W ≤ 10 ^ 30) → 0 ≤ P → P ≤ W → 0 ≤ f → f < W → 4 ≤ n → n ≤ 10 → 0 ≤ r4 →
    o8'.data = .cell (some (.int W tW)) → o6'.data = .cell (some (.int P tP)) → o5'.data = .cell (some (.int f tf)) → o4'.data = .cell (some (.ref lb)) → o3'.data = .cell (some (.ref lh)) →
    @LT.lt Nat _ D lb → @LT.lt Nat _ (L + 8) lb → AllLt lb rest → @LT.lt Nat _ lb le → @LT.lt Nat _ le lh → @LT.lt Nat _ lh lm → @LT.lt Nat _ lm ll →
    Fr h₀ L h' m' → m' "cells" = some (.ref D) → m' "count" = some (.int n tn) → m' "letters" = some (.int r4 tr) → m' "pail" = some (.int f tp) → m' "name" = some (.str "" ta) → m' "written" = some (.str "" tb) →
    m' "ends" = some (.ref le) → m' "marks" = some (.ref lm) → m' "left" = some (.ref ll) →
    News h₀ L h' ((ll, listOf #[] 0) :: (lm, listOf #[] 0) :: (lh, listOf #[] 0) :: (le, listOf #[] 0) :: (lb, listOf #[] 0) :: (D, LCg.lst ys) :: (L + 1 + 1 + 1 + 1 + 1 + 1 + 1 + 1, o8') :: (L + 1 + 1 + 1 + 1 + 1 + 1, o6') :: (L + 1 + 1 + 1 + 1 + 1, o5') :: (L + 1 + 1 + 1 + 1, o4') :: (L + 1 + 1 + 1, o3') :: rest) →
    wpAny (model PySem.Challenge.rw_ta0044_01.row.prog w) (callerA.deeper (envOfC nm0 sc L 143 (.ref 142))) (execs rs' (envOfC nm0 sc L 143 (.ref 142))) Q E { s with heap := h', toks := tk }) :
  wpAny (model PySem.Challenge.rw_ta0044_01.row.prog w) (callerA.deeper (envOfC nm0 sc L 143 (.ref 142))) (execs (s3 :: s4 :: s5 :: s6 :: s7 :: s8 :: s9 :: s10 :: rs') (envOfC nm0 sc L 143 (.ref 142))) Q E s := by
  have e_sc := congrArg (fun o => scopeOf o) ho
  conv at e_sc => lhs; whnf
  conv at e_sc => rhs; whnf
  have e_s3 := congrArg (fun o => stmtAt (bodyOf o) 3) ho
  conv at e_s3 => lhs; whnf
  conv at e_s3 => rhs; whnf
  have e_s4 := congrArg (fun o => stmtAt (bodyOf o) 4) ho
  conv at e_s4 => lhs; whnf
  conv at e_s4 => rhs; whnf
  have e_s5 := congrArg (fun o => stmtAt (bodyOf o) 5) ho
  conv at e_s5 => lhs; whnf
  conv at e_s5 => rhs; whnf
  have e_s6 := congrArg (fun o => stmtAt (bodyOf o) 6) ho
  conv at e_s6 => lhs; whnf
  conv at e_s6 => rhs; whnf
  have e_s7 := congrArg (fun o => stmtAt (bodyOf o) 7) ho
  conv at e_s7 => lhs; whnf
  conv at e_s7 => rhs; whnf
  have e_s8 := congrArg (fun o => stmtAt (bodyOf o) 8) ho
  conv at e_s8 => lhs; whnf
  conv at e_s8 => rhs; whnf
  have e_s9 := congrArg (fun o => stmtAt (bodyOf o) 9) ho
  conv at e_s9 => lhs; whnf
  conv at e_s9 => rhs; whnf
  have e_s10 := congrArg (fun o => stmtAt (bodyOf o) 10) ho
  conv at e_s10 => lhs; whnf
  conv at e_s10 => rhs; whnf
  clear ho
  subst e_sc
  subst e_s3
  subst e_s4
  subst e_s5
  subst e_s6
  subst e_s7
  subst e_s8
  subst e_s9
  subst e_s10
  have F' : Fr h₀ L s.heap (kstB m [("cells", .ref D)]) := by
    have e : kstB m [("cells", .ref D)] = m := funext fun z => kstB_eq (all1 hsc) fun _ => rfl
    rw [e]; exact F
  clear F hsc
  simp only [LCg.Off1, and_true] at hlc
  obtain ⟨nd8, nd6, nd5, nd4, nd3⟩ := hlc
  have nd8' := nd8.symm
  have nd6' := nd6.symm
  have nd5' := nd5.symm
  have nd4' := nd4.symm
  have nd3' := nd3.symm
  revert X; k_fill; intro X
  (try k_fold)
  k_steps
  refine Stop.out (my_mod (by decide) fun r0 t0 e0 l0 u0 => ?_)
  (try dsimp only)
  k_steps
  refine Stop.out (my_mod (by omega) fun P t1 e1 l1 u1 => ?_)
  (try dsimp only)
  k_steps
  refine Stop.out (my_mod (by omega) fun f t2 e2 l2 u2 => ?_)
  (try dsimp only)
  k_steps
  refine Stop.out (my_mod (by omega) fun n t3 e3 l3 u3 => ?_)
  (try dsimp only)
  k_steps
  refine Stop.out (my_mod (by decide) fun r4 t4 e4 l4 u4 => ?_)
  (try dsimp only)
  k_steps
  rename Fr _ _ _ _ => F9
  rename News _ _ _ _ => N9
  repeat (with_reducible rename _ ∧ _ => hk1; obtain ⟨hk2, hk3⟩ := hk1)
  have N10 := News.sub2 N9
  refine hret (1 + r0) P f (4 + n) r4 _ _ _ _ _ _ _ _ _ _ _ _ _ _ _ _ _ _ _ _ _ (by omega) (Hide.mk ?b) l1 (by omega) l2 u2 (by omega) (by omega) l4 (by assumption) (by assumption) (by assumption) (by assumption) (by assumption) (by assumption) ?lt8 (by assumption) (by assumption) (by assumption) (by assumption) (by assumption) F9 (by rfl) (by rfl) (by rfl) (by rfl) (by rfl) (by rfl) (by rfl) (by rfl) (by rfl) N10
  case b => have : r0 < 10 ^ 30 := u0; omega
  case lt8 => assumption
end
end Mine
end -- S1
section -- P2
open PySem PySem.W PySem.Calls PyProof.Rows
set_option Elab.async false
namespace Mine
/-! Beatty's rows: what the law builds -/
structure Par where
  W : Int
  P : Int
  f : Int
  r : Int
def Par.pail (c : Par) (k : Nat) : Int := (c.f + c.P * k) % c.W
def Par.quo (c : Par) (k : Nat) : Int := (c.f + c.P * k) / c.W
def Par.mark (c : Par) (k : Nat) : Bool := decide (c.W ≤ c.pail k + c.P)
def Par.letter (c : Par) (k : Nat) : Nat := [97, 98, 32, 40, 124].getD ((c.r / 5 ^ k) % 5).toNat 97
def Par.sign (c : Par) (k : Nat) : Nat := if c.mark k then 34 else c.letter k
def dbl (c : Nat) : List Nat := if c = 34 then [34, 34] else [c]
def Par.name (c : Par) (k : Nat) : List Nat := (List.range k).map c.sign
def Par.writ (c : Par) (k : Nat) : List Nat := (c.name k).flatMap dbl
def Par.begs (c : Par) (k : Nat) : List Int := (List.range k).map fun i : Nat => (i : Int) + c.quo i
def Par.ends (c : Par) (k : Nat) : List Int := (List.range k).map fun i : Nat => (i : Int) + 1 + c.quo (i + 1)
def Par.held (c : Par) (k : Nat) : List Int := (List.range k).map c.pail
def Par.marks (c : Par) (k : Nat) : List Int := ((List.range k).filter c.mark).map fun i : Nat => (i : Int)
def Par.left (c : Par) (k : Nat) : List Int := ((List.range k).filter c.mark).map fun i => c.pail (i + 1)
structure Par.Ok (c : Par) : Prop where
  W1 : 1 ≤ c.W
  P0 : 0 ≤ c.P
  PW : c.P ≤ c.W
  f0 : 0 ≤ c.f
  fW : c.f < c.W
  r0 : 0 ≤ c.r
variable {c : Par}
theorem Par.Ok.pail0 (h : c.Ok) (k : Nat) : 0 ≤ c.pail k := Int.emod_nonneg _ (by have := h.W1; omega)
theorem Par.Ok.pailW (h : c.Ok) (k : Nat) : c.pail k < c.W := Int.emod_lt_of_pos _ (by have := h.W1; omega)
theorem Par.Ok.split (_ : c.Ok) (k : Nat) : c.f + c.P * k = c.W * c.quo k + c.pail k := (Int.mul_ediv_add_emod _ _).symm
theorem Par.Ok.zero (h : c.Ok) : c.pail 0 = c.f ∧ c.quo 0 = 0 := by
  have := h.f0; have := h.fW
  unfold Par.pail Par.quo
  simp only [Int.ofNat_zero, Int.natCast_zero, Int.mul_zero, Int.add_zero]
  exact ⟨Int.emod_eq_of_lt h.f0 h.fW, Int.ediv_eq_zero_of_lt h.f0 h.fW⟩
theorem Par.Ok.step (h : c.Ok) (k : Nat) : (c.mark k = true → c.pail (k + 1) = c.pail k + c.P - c.W ∧ c.quo (k + 1) = c.quo k + 1) ∧ (c.mark k = false → c.pail (k + 1) = c.pail k + c.P ∧ c.quo (k + 1) = c.quo k) := by
  have hs := h.split k
  have p0 := h.pail0 k
  have pW := h.pailW k
  have P0 := h.P0
  have PW := h.PW
  have W1 := h.W1
  have e : c.f + c.P * ((k + 1 : Nat) : Int) = c.W * c.quo k + c.pail k + c.P := by
    rw [← hs, Int.natCast_add, Int.mul_add]; simp [Int.add_assoc]
  constructor
  · intro hm
    have hm := of_decide_eq_true hm
    have e2 : c.f + c.P * ((k + 1 : Nat) : Int) = (c.pail k + c.P - c.W) + c.W * (c.quo k + 1) := by rw [e, Int.mul_add]; omega
    unfold Par.pail Par.quo at *
    rw [e2]
    refine ⟨?_, ?_⟩
    · rw [Int.add_mul_emod_self_left]; exact Int.emod_eq_of_lt (by omega) (by omega)
    · rw [Int.add_mul_ediv_left _ _ (by omega), Int.ediv_eq_zero_of_lt (by omega) (by omega)]; omega
  · intro hm
    have hm := of_decide_eq_false hm
    have e2 : c.f + c.P * ((k + 1 : Nat) : Int) = (c.pail k + c.P) + c.W * (c.quo k) := by rw [e]; omega
    unfold Par.pail Par.quo at *
    rw [e2]
    refine ⟨?_, ?_⟩
    · rw [Int.add_mul_emod_self_left]; exact Int.emod_eq_of_lt (by omega) (by omega)
    · rw [Int.add_mul_ediv_left _ _ (by omega), Int.ediv_eq_zero_of_lt (by omega) (by omega)]; omega
theorem Par.Ok.quo0 (h : c.Ok) : ∀ k, 0 ≤ c.quo k
  | 0 => by rw [h.zero.2]; exact Int.le_refl _
  | k + 1 => by
    have ih := h.quo0 k
    have s := h.step k
    cases hm : c.mark k with
    | true => rw [(s.1 hm).2]; omega
    | false => rw [(s.2 hm).2]; omega
theorem Par.Ok.quo_le (h : c.Ok) : ∀ k : Nat, c.quo k ≤ k
  | 0 => by rw [h.zero.2]; exact Int.le_refl _
  | k + 1 => by
    have ih := h.quo_le k
    have s := h.step k
    cases hm : c.mark k with
    | true => rw [(s.1 hm).2]; omega
    | false => rw [(s.2 hm).2]; omega
theorem Par.letter_ne (c : Par) (k : Nat) : c.letter k ≠ 34 := by
  unfold Par.letter
  have h : ((c.r / 5 ^ k) % 5).toNat < 5 := by omega
  generalize ((c.r / 5 ^ k) % 5).toNat = j at h
  match j, h with
  | 0, _ => decide
  | 1, _ => decide
  | 2, _ => decide
  | 3, _ => decide
  | 4, _ => decide
theorem Par.writ_succ (c : Par) (k : Nat) : c.writ (k + 1) = c.writ k ++ dbl (c.sign k) := by
  unfold Par.writ Par.name; rw [List.range_succ, List.map_append, List.flatMap_append]; simp
theorem Par.name_succ (c : Par) (k : Nat) : c.name (k + 1) = c.name k ++ [c.sign k] := by
  unfold Par.name; rw [List.range_succ, List.map_append]; rfl
theorem Par.Ok.writ_len (h : c.Ok) : ∀ k, ((c.writ k).length : Int) = k + c.quo k
  | 0 => by rw [h.zero.2]; rfl
  | k + 1 => by
    have ih := h.writ_len k
    have s := h.step k
    rw [c.writ_succ, List.length_append, Int.natCast_add, ih]
    cases hm : c.mark k with
    | true => rw [(s.1 hm).2]; simp [Par.sign, hm, dbl]; omega
    | false => rw [(s.2 hm).2]; simp [Par.sign, hm, dbl, c.letter_ne k]; omega
theorem Par.Ok.begs_succ (h : c.Ok) (k : Nat) : c.begs (k + 1) = c.begs k ++ [((c.writ k).length : Int)] := by
  unfold Par.begs; rw [List.range_succ, List.map_append, h.writ_len]; rfl
theorem Par.Ok.ends_succ (h : c.Ok) (k : Nat) : c.ends (k + 1) = c.ends k ++ [((c.writ (k + 1)).length : Int)] := by
  unfold Par.ends; rw [List.range_succ, List.map_append, h.writ_len]; simp
theorem Par.held_succ (c : Par) (k : Nat) : c.held (k + 1) = c.held k ++ [c.pail k] := by
  unfold Par.held; rw [List.range_succ, List.map_append]; rfl
theorem Par.marks_succ (c : Par) (k : Nat) : c.marks (k + 1) = c.marks k ++ (if c.mark k then [(k : Int)] else []) := by
  unfold Par.marks; rw [List.range_succ, List.filter_append, List.map_append]
  cases h : c.mark k <;> simp [h]
theorem Par.left_succ (c : Par) (k : Nat) : c.left (k + 1) = c.left k ++ (if c.mark k then [c.pail (k + 1)] else []) := by
  unfold Par.left; rw [List.range_succ, List.filter_append, List.map_append]
  cases h : c.mark k <;> simp [h]
theorem Par.name_len (c : Par) (k : Nat) : (c.name k).length = k := by simp [Par.name]
end Mine
end -- P2
section -- S2
open PySem PySem.W PySem.Calls PyProof.Rows
set_option Elab.async false
set_option maxRecDepth 100000
set_option maxHeartbeats 1000000
namespace Mine
theorem allLt_mem {d : Addr} : ∀ {l : List (Addr × Obj)}, AllLt d l → ∀ p ∈ l, @LT.lt Nat _ p.1 d
  | [], _, _, h => nomatch h
  | _ :: _, x, _, h => by
    rcases List.mem_cons.mp h with rfl | h
    · exact x.1
    · exact allLt_mem x.2 _ h
structure St11 where
  b : List Value
  e : List Value
  h : List Value
  m : List Value
  l : List Value
  nb : Nat
  ne : Nat
  nh : Nat
  nm : Nat
  nl : Nat
  tp : Tok
  ta : Tok
  tb : Tok
  k : Nat
theorem letter_item {c : Par} {k : Nat} {r : Int} (e : r = c.r / 5 ^ k % 5) : Txt.item (Str.ofString "ab (|") r = ⟨#[c.letter k]⟩ := by
  have h0 : 0 ≤ r := by omega
  have h5 : r.toNat < 5 := by omega
  have e1 : r = (r.toNat : Int) := by omega
  unfold Par.letter
  rw [← e]
  rw [e1, item_nat (by exact h5), Int.toNat_natCast]
  generalize r.toNat = j at h5
  match j, h5 with
  | 0, _ => decide
  | 1, _ => decide
  | 2, _ => decide
  | 3, _ => decide
  | 4, _ => decide
theorem pow5 {k : Nat} (h : k < 10) : (0 : Int) < 5 ^ k ∧ ((5 : Int) ^ k).natAbs < 1073741824 := by
  refine ⟨Int.pow_pos (by decide), ?_⟩
  rw [Int.natAbs_pow]
  exact Nat.lt_of_le_of_lt (Nat.pow_le_pow_right (by decide) (Nat.le_of_lt h)) (by decide)
theorem same_names {ps ps' : List (Str × Value)} {z : Str} (e : ps.map (·.1) = ps'.map (·.1)) (h : ∀ p ∈ ps', z ≠ p.1) : ∀ p ∈ ps, z ≠ p.1 := by
  intro p hp q
  have : p.1 ∈ ps'.map (·.1) := e ▸ List.mem_map_of_mem hp
  obtain ⟨p', h1, h2⟩ := List.mem_map.mp this
  exact h p' h1 (q.trans h2.symm)
theorem same_addr {ps ps' : List (Addr × Obj)} {wr : List Addr} (e : ps.map (·.1) = ps'.map (·.1)) (h : ∀ p ∈ ps', p.1 ∉ wr) : ∀ p ∈ ps, p.1 ∉ wr := by
  intro p hp q
  have : p.1 ∈ ps'.map (·.1) := e ▸ List.mem_map_of_mem hp
  obtain ⟨p', h1, h2⟩ := List.mem_map.mp this
  exact h p' h1 (h2 ▸ q)
theorem mem_pre {q : Addr × Obj} (pre : List (Addr × Obj)) {a b : List (Addr × Obj)} (h : q ∈ pre ++ a) : q ∈ pre ++ (a ++ b) := by
  rw [← List.append_assoc]; exact List.mem_append_left _ h
theorem mem_own {q : Addr × Obj} (pre : List (Addr × Obj)) {a b : List (Addr × Obj)} (h : q ∈ b) : q ∈ pre ++ (a ++ b) := List.mem_append_right _ (List.mem_append_right _ h)
theorem range_n (n : Nat) : Builtin.Range.rangeSize 0 (n : Int) 1 = n := by
  rw [rangeSize_one]; split <;> omega
theorem quote_name {c : Par} {k : Nat} (h : c.mark k = true) : (⟨(c.name k).toArray⟩ : Str) ++ Str.ofString "\"" = ⟨(c.name (k + 1)).toArray⟩ := by
  rw [show Str.ofString "\"" = ⟨#[34]⟩ by decide, str_snoc, c.name_succ, Par.sign, if_pos h]
theorem letter_name {c : Par} {k : Nat} (h : c.mark k = false) : (⟨(c.name k).toArray⟩ : Str) ++ (⟨#[c.letter k]⟩ : Str) = ⟨(c.name (k + 1)).toArray⟩ := by
  rw [str_snoc, c.name_succ, Par.sign, if_neg (by simp [h])]
theorem quote_writ {c : Par} {k : Nat} (h : c.mark k = true) : (⟨(c.writ k).toArray⟩ : Str) ++ Str.ofString "\"\"" = ⟨(c.writ (k + 1)).toArray⟩ := by
  rw [show Str.ofString "\"\"" = (⟨#[34]⟩ : Str) ++ ⟨#[34]⟩ by decide, c.writ_succ, Par.sign, if_pos h]
  rw [dbl, if_pos rfl]
  show (⟨(c.writ k).toArray ++ (#[34] ++ #[34])⟩ : Str) = _
  simp
theorem letter_writ {c : Par} {k : Nat} (h : c.mark k = false) : (⟨(c.writ k).toArray⟩ : Str) ++ (⟨#[c.letter k]⟩ : Str) = ⟨(c.writ (k + 1)).toArray⟩ := by
  rw [str_snoc, c.writ_succ, Par.sign, if_neg (by simp [h]), dbl, if_neg (c.letter_ne k)]
theorem cells_ne {L a : Nat} (h : L + 8 < a) : L + 1 + 1 + 1 ≠ a ∧ L + 1 + 1 + 1 + 1 ≠ a ∧ L + 1 + 1 + 1 + 1 + 1 + 1 ≠ a ∧ L + 1 + 1 + 1 + 1 + 1 + 1 + 1 + 1 ≠ a :=
  ⟨Nat.ne_of_lt (Nat.lt_of_le_of_lt (Nat.add_le_add_left (by decide : 3 ≤ 8) L) h), Nat.ne_of_lt (Nat.lt_of_le_of_lt (Nat.add_le_add_left (by decide : 4 ≤ 8) L) h),
    Nat.ne_of_lt (Nat.lt_of_le_of_lt (Nat.add_le_add_left (by decide : 6 ≤ 8) L) h), Nat.ne_of_lt h⟩
theorem two_ne {a b : Nat} (h : a < b) : a ≠ b ∧ b ≠ a := ⟨Nat.ne_of_lt h, (Nat.ne_of_lt h).symm⟩
section
local macro_rules | `(tactic| walk_at "inplaceOp Add str str") => `(tactic| refine Stop.mk ?_)
local macro_rules | `(tactic| walk_at "binaryOp Mod int int") => `(tactic| refine Stop.mk ?_)
local macro_rules | `(tactic| walk_at "binaryOp FloorDiv int int") => `(tactic| refine Stop.mk ?_)
local macro_rules | `(tactic| walk_at "exec For Name Call cons nil") => `(tactic| refine Stop.mk ?_)
local macro_rules | `(tactic| walk_at "pyIter ref") => `(tactic| refine Stop.mk ?_)
theorem clear_14 : True := by
  first
  | (row_walk; done)
  | trivial
theorem loop11 (w : World) (p : Program) (loose : List Str) (mean : ExcName → Option Value) (mg mb : Str → Option Value)
  {oc0 : Value} {od0 : Option Addr} {osl0 : Array (Option Value)} {nm0 q0 : Str} {ps0 : Arguments} {s0 s1 s2 s3 s4 s5 s6 s7 s8 s9 s10 s11 : Stmt} {rs : List Stmt} {sc : Scope} {dV0 kV0 doc0 pm0 : Value} {an0 : Option Addr} {cdv0 ct0 : Value}
  (ho : (pre.heap_1 w.params).lookup 143 = some ⟨oc0, od0, .func (fnOf nm0 q0 ps0 (s0 :: s1 :: s2 :: s3 :: s4 :: s5 :: s6 :: s7 :: s8 :: s9 :: s10 :: s11 :: rs) sc dV0 kV0 doc0 pm0 an0 cdv0 ct0), osl0⟩)
  (rs' : List Stmt) (h₀ : Heap) (L : Addr) (m : Str → Option Value) (s : Shared) (Q : Flow → Shared → Prop)
  (c : Par) (hc : c.Ok) (n : Nat) (hn : n ≤ 10) (tW tP tn tr tp ta tb : Tok) (o3 o4 o6 o8 : Obj) (lb le lh lm ll : Addr) (rest : List (Addr × Obj)) (vcs : Value)
  (B : Below callerA h₀ [] h₀) (F : Fr h₀ L s.heap m) (X : (pre.heap_1 w.params).In h₀)
  (N : News h₀ L s.heap ((ll, listOf #[] 0) :: (lm, listOf #[] 0) :: (lh, listOf #[] 0) :: (le, listOf #[] 0) :: (lb, listOf #[] 0) :: (L + 1 + 1 + 1 + 1 + 1 + 1 + 1 + 1, o8) :: (L + 1 + 1 + 1 + 1 + 1 + 1, o6) :: (L + 1 + 1 + 1 + 1, o4) :: (L + 1 + 1 + 1, o3) :: rest))
  (l1 : @LT.lt Nat _ (L + 8) lb) (l2 : AllLt lb rest) (l3 : @LT.lt Nat _ lb le) (l4 : @LT.lt Nat _ le lh) (l5 : @LT.lt Nat _ lh lm) (l6 : @LT.lt Nat _ lm ll)
  (T : Top p loose mean mg mb h₀)
  (d3 : o3.data = .cell (some (.ref lh))) (d4 : o4.data = .cell (some (.ref lb))) (d6 : o6.data = .cell (some (.int c.P tP))) (d8 : o8.data = .cell (some (.int c.W tW)))
  (m1 : m "count" = some (.int (n : Int) tn)) (m2 : m "letters" = some (.int c.r tr)) (m3 : m "ends" = some (.ref le)) (m4 : m "marks" = some (.ref lm)) (m5 : m "left" = some (.ref ll)) (m6 : m "pail" = some (.int c.f tp)) (m7 : m "name" = some (.str "" ta)) (m8 : m "written" = some (.str "" tb)) (m9 : m "cells" = some vcs)
  (hret : ∀ (b e hh mm l' : List Value) (nb ne nh nm nl : Nat) (ta' tb' : Tok) (h' : Heap) (tk : Nat) (m' : Str → Option Value), IntsAre b (c.begs n) → IntsAre e (c.ends n) → IntsAre hh (c.held n) → IntsAre mm (c.marks n) → IntsAre l' (c.left n) →
    Fr h₀ L h' m' → m' "count" = some (.int (n : Int) tn) → m' "ends" = some (.ref le) → m' "marks" = some (.ref lm) → m' "left" = some (.ref ll) → m' "name" = some (.str ⟨(c.name n).toArray⟩ ta') → m' "written" = some (.str ⟨(c.writ n).toArray⟩ tb') → m' "cells" = some vcs →
    News h₀ L h' ((ll, listOf l'.toArray nl) :: (lm, listOf mm.toArray nm) :: (lh, listOf hh.toArray nh) :: (le, listOf e.toArray ne) :: (lb, listOf b.toArray nb) :: (L + 1 + 1 + 1 + 1 + 1 + 1 + 1 + 1, o8) :: (L + 1 + 1 + 1 + 1 + 1 + 1, o6) :: (L + 1 + 1 + 1 + 1, o4) :: (L + 1 + 1 + 1, o3) :: rest) →
    wpAny (model PySem.Challenge.rw_ta0044_01.row.prog w) (callerA.deeper (envOfC nm0 sc L 143 (.ref 142))) (execs rs' (envOfC nm0 sc L 143 (.ref 142))) Q (fun _ _ => False) { s with heap := h', toks := tk }) :
  wpAny (model PySem.Challenge.rw_ta0044_01.row.prog w) (callerA.deeper (envOfC nm0 sc L 143 (.ref 142))) (execs (s11 :: rs') (envOfC nm0 sc L 143 (.ref 142))) Q (fun _ _ => False) s := by
  have e_sc := congrArg (fun o => scopeOf o) ho
  conv at e_sc => lhs; whnf
  conv at e_sc => rhs; whnf
  have e_s11 := congrArg (fun o => stmtAt (bodyOf o) 11) ho
  conv at e_s11 => lhs; whnf
  conv at e_s11 => rhs; whnf
  clear ho
  subst e_sc
  subst e_s11
  have F' : Fr h₀ L s.heap (kstB m [("count", .int (n : Int) tn), ("letters", .int c.r tr), ("ends", .ref le), ("marks", .ref lm), ("left", .ref ll), ("pail", .int c.f tp), ("name", .str "" ta), ("written", .str "" tb), ("cells", vcs)]) := by
    have e : kstB m [("count", .int (n : Int) tn), ("letters", .int c.r tr), ("ends", .ref le), ("marks", .ref lm), ("left", .ref ll), ("pail", .int c.f tp), ("name", .str "" ta), ("written", .str "" tb), ("cells", vcs)] = m := funext fun z => kstB_eq (by simp [m1, m2, m3, m4, m5, m6, m7, m8, m9]) fun _ => rfl
    rw [e]; exact F
  clear F
  revert X; k_fill; intro X
  (try k_fold)
  k_steps
  rename Fr _ _ _ _ => F2
  rename News _ _ _ _ => N2
  refine Stop.out ?_
  with_unfolding_all refine' For_invVF F2 ?k1 ?k2 ?_
  case k1 => exact rfl
  case k2 => exact rfl
  (try dsimp only)
  k_steps
  rename IsRange _ _ _ _ _ _ _ _ => hr
  rename Fr _ _ _ _ => F2
  rename News _ _ _ _ => N2
  have hI : ∀ p ∈ ((ll, listOf #[] 0) :: (lm, listOf #[] 0) :: (lh, listOf #[] 0) :: (le, listOf #[] 0) :: (lb, listOf #[] 0) :: (L + 1 + 1 + 1 + 1 + 1 + 1 + 1 + 1, o8) :: (L + 1 + 1 + 1 + 1 + 1 + 1, o6) :: (L + 1 + 1 + 1 + 1, o4) :: (L + 1 + 1 + 1, o3) :: rest), p.1 ≠ _ := fun p hp => Nat.ne_of_lt (Heap.lt_size (N2 p hp).1)
  refine Stop.out (wpAny_pyIter_range hr ?hsm ?_)
  case hsm => exact small_one (by omega) (by omega) (by omega) (by omega)
  refine my_for (σ := St11) (fun d => (ll, listOf d.l.toArray d.nl) :: (lm, listOf d.m.toArray d.nm) :: (lh, listOf d.h.toArray d.nh) :: (le, listOf d.e.toArray d.ne) :: (lb, listOf d.b.toArray d.nb) :: (L + 1 + 1 + 1 + 1 + 1 + 1 + 1 + 1, o8) :: (L + 1 + 1 + 1 + 1 + 1 + 1, o6) :: (L + 1 + 1 + 1 + 1, o4) :: (L + 1 + 1 + 1, o3) :: rest)
    (fun d => [("count", .int (n : Int) tn), ("letters", .int c.r tr), ("ends", .ref le), ("marks", .ref lm), ("left", .ref ll), ("pail", .int (c.pail d.k) d.tp), ("name", .str ⟨(c.name d.k).toArray⟩ d.ta), ("written", .str ⟨(c.writ d.k).toArray⟩ d.tb), ("cells", vcs)]) ["sign"]
    (fun i d => d.k = i ∧ IntsAre d.b (c.begs i) ∧ IntsAre d.e (c.ends i) ∧ IntsAre d.h (c.held i) ∧ IntsAre d.m (c.marks i) ∧ IntsAre d.l (c.left i)) ⟨[], [], [], [], [], 0, 0, 0, 0, 0, tp, ta, tb, 0⟩ (LCg.range_walks rfl 0 n) ?hLf ?hwr ?hnw ?hst (F2.keeps fun _ _ e => Heap.get?_push_of_some _ e) (N2.grown fun _ _ e => Heap.get?_push_of_some _ e) ?hk ⟨rfl, .nil, .nil, .nil, .nil, .nil⟩ ?turn ?done
  case hLf => exact fun q => Nat.ne_of_lt F2.ns.lt (List.mem_singleton.mp q)
  case hwr => exact all1 (next_is_new F2)
  case hnw => exact fun p hp q => hI p hp (List.mem_singleton.mp q)
  case hst => show IsRangeIter _ _ _ _ _; rw [range_n]; simpa using Heap.get?_push_size _ rfl
  case hk =>
    dsimp only
    rw [hc.zero.1]
    (repeat (first | exact List.forall_mem_nil _ | refine List.forall_mem_cons.mpr ⟨rfl, ?_⟩))
  case turn =>
    rintro d i v u h tk own hin ⟨tv, rfl⟩ hoff hof hown ⟨hdk, i1, i2, i3, i4, i5⟩ hst F3 N3
    (try dsimp only at F3 N3)
    refine wpAny_opq fun Q' hQ => ?_
    simp only [Int.zero_add] at F3
    have lbh := Nat.lt_trans l3 l4
    have lbm := Nat.lt_trans lbh l5
    have lbl := Nat.lt_trans lbm l6
    have lem := Nat.lt_trans l4 l5
    have lel := Nat.lt_trans lem l6
    have lhl := Nat.lt_trans l5 l6
    obtain ⟨_, _, _, _⟩ := cells_ne l1
    obtain ⟨_, _, _, _⟩ := cells_ne (Nat.lt_trans l1 l3)
    obtain ⟨_, _, _, _⟩ := cells_ne (Nat.lt_trans l1 lbh)
    obtain ⟨_, _, _, _⟩ := cells_ne (Nat.lt_trans l1 lbm)
    obtain ⟨_, _, _, _⟩ := cells_ne (Nat.lt_trans l1 lbl)
    obtain ⟨_, _⟩ := two_ne l3
    obtain ⟨_, _⟩ := two_ne l4
    obtain ⟨_, _⟩ := two_ne l5
    obtain ⟨_, _⟩ := two_ne l6
    obtain ⟨_, _⟩ := two_ne lbh
    obtain ⟨_, _⟩ := two_ne lbm
    obtain ⟨_, _⟩ := two_ne lbl
    obtain ⟨_, _⟩ := two_ne lem
    obtain ⟨_, _⟩ := two_ne lel
    obtain ⟨_, _⟩ := two_ne lhl
    subst hdk
    have hX : ∀ a, (a = ll ∨ a = lm ∨ a = lh ∨ a = le ∨ a = lb) → ∀ q ∈ rest ++ own, q.1 ≠ a := by
      intro a ha q hq
      rcases List.mem_append.mp hq with hq | hq
      · have h1 : @LT.lt Nat _ q.1 lb := allLt_mem l2 q hq
        have h2 : @LE.le Nat _ lb a := by rcases ha with e | e | e | e | e <;> (rw [e]; omega)
        exact Nat.ne_of_lt (Nat.lt_of_lt_of_le h1 h2)
      · rw [List.mem_singleton.mp (hof q hq)]
        refine (hI (a, listOf #[] 0) ?_).symm
        rcases ha with e | e | e | e | e <;> simp [e]
    have hXb := hX lb (by simp)
    have hXe := hX le (by simp)
    have hXh := hX lh (by simp)
    have hXm := hX lm (by simp)
    have hXl := hX ll (by simp)
    clear hX
    have hz1 : d.b.length ≤ 10 := by rw [i1.length, Par.begs, List.length_map, List.length_range]; omega
    have hz2 : d.e.length ≤ 10 := by rw [i2.length, Par.ends, List.length_map, List.length_range]; omega
    have hz3 : d.h.length ≤ 10 := by rw [i3.length, Par.held, List.length_map, List.length_range]; omega
    have hz0 : ((List.range d.k).filter c.mark).length ≤ 10 := Nat.le_trans (List.length_filter_le _ _) (by rw [List.length_range]; omega)
    have hz4 : d.m.length ≤ 10 := by rw [i4.length, Par.marks, List.length_map]; exact hz0
    have hz5 : d.l.length ≤ 10 := by rw [i5.length, Par.left, List.length_map]; exact hz0
    simp only [List.cons_append] at N3
    generalize hrst : rest ++ own = rst at N3 hXb hXe hXh hXm hXl
    (try dsimp only)
    k_steps
    have ⟨q1, q2⟩ := pow5 (k := d.k) (by omega)
    refine Stop.out (floordiv_int (Int.ne_of_gt q1) ?_ (.inl (PyProof.noPylong_small q2)))
    (try dsimp only)
    k_steps
    refine Stop.out (my_mod (by decide) fun r5 t5 e5 v5 w5 => ?_)
    have hnl : (c.name d.k).length = d.k := c.name_len d.k
    have hwl2 : (⟨(c.writ (d.k + 1)).toArray⟩ : Str).length ≤ 20 := by
      show (c.writ (d.k + 1)).toArray.size ≤ 20
      rw [List.size_toArray]
      have := hc.writ_len (d.k + 1)
      have := hc.quo_le (d.k + 1)
      omega
    have hwl : (⟨(c.writ d.k).toArray⟩ : Str).length ≤ 20 := by
      show (c.writ d.k).toArray.size ≤ 20
      rw [List.size_toArray]
      have := hc.writ_len d.k
      have := hc.quo_le d.k
      omega
    rw [Int.toNat_natCast, Int.fdiv_eq_ediv_of_nonneg _ (Int.le_of_lt q1)] at e5
    (try dsimp only)
    k_steps
    · rename c.W ≤ c.pail d.k + c.P => hm
      have hm : c.mark d.k = true := decide_eq_true hm
      refine Stop.out (iadd_str (fun t6 k6 => ?_) ?hs1)
      case hs1 => show (c.name d.k).toArray.size + 1 ≤ _; rw [List.size_toArray, sizeLine_eq]; omega
      rw [quote_name hm]
      (try dsimp only)
      k_steps
      refine Stop.out (iadd_str (fun t7 k7 => ?_) ?hs2)
      case hs2 => show (c.writ d.k).toArray.size + 2 ≤ _; rw [List.size_toArray, sizeLine_eq]; have := hc.writ_len d.k; have := hc.quo_le d.k; omega
      rw [quote_writ hm]
      (try dsimp only)
      k_steps
      rename Fr _ _ _ _ => F4
      rename News _ _ _ _ => N4
      rw [List.push_toArray, List.push_toArray, List.push_toArray, List.push_toArray, List.push_toArray] at N4
      rw [← ((hc.step d.k).1 hm).1] at F4 N4
      rw [← hrst] at N4
      refine hQ _ _ ?_
      refine MfPost.next (⟨d.b ++ [_], d.e ++ [_], d.h ++ [_], d.m ++ [_], d.l ++ [_], _, _, _, _, _, _, _, _, d.k + 1⟩ : St11) F4 N4 (fun q hq => mem_pre [_, _, _, _, _, _, _, _, _] hq) (fun q hq => mem_own [_, _, _, _, _, _, _, _, _] hq) (same_addr (by rfl) hoff) (by (repeat (first | exact List.forall_mem_nil _ | refine List.forall_mem_cons.mpr ⟨rfl, ?_⟩))) ?m5 ?m6
      case m5 =>
        intro z a0 h2 h3
        have a1 : ¬ z = "written" := h2 _ (.tail _ (.tail _ (.tail _ (.tail _ (.tail _ (.tail _ (.tail _ (.head _))))))))
        have a2 : ¬ z = "name" := h2 _ (.tail _ (.tail _ (.tail _ (.tail _ (.tail _ (.tail _ (.head _)))))))
        have a4 : ¬ z = "pail" := h2 _ (.tail _ (.tail _ (.tail _ (.tail _ (.tail _ (.head _))))))
        have a3 : ¬ z = "sign" := not_mem1 h3
        exact (if_neg a1).trans ((if_neg a2).trans ((if_neg a3).trans ((if_neg a4).trans ((if_neg a3).trans ((if_neg a4).trans ((if_neg a0).trans (kst_same (same_names (by rfl) h2) h3)))))))
      case m6 =>
        refine ⟨rfl, ?_, ?_, ?_, ?_, ?_⟩
        · rw [hc.begs_succ]; exact ints_snoc i1
        · rw [hc.ends_succ]; exact ints_snoc i2
        · rw [c.held_succ]; exact ints_snoc i3
        · rw [c.marks_succ, if_pos hm]; exact ints_snoc i4
        · rw [c.left_succ, if_pos hm]; exact ints_snoc i5
    · rename ¬ c.W ≤ c.pail d.k + c.P => hm
      have hm : c.mark d.k = false := decide_eq_false hm
      rw [letter_item e5]
      refine Stop.out (iadd_str (fun t6 k6 => ?_) ?hs3)
      case hs3 => show (c.name d.k).toArray.size + 1 ≤ _; rw [List.size_toArray, sizeLine_eq]; omega
      rw [letter_name hm]
      (try dsimp only)
      k_steps
      · rename (Txt.item _ _ == _) = true => hb
        rw [letter_item e5, item_quote] at hb
        exact absurd (of_decide_eq_true hb) (c.letter_ne d.k)
      · rw [letter_item e5]
        refine Stop.out (iadd_str (fun t7 k7 => ?_) ?hs4)
        case hs4 => show (c.writ d.k).toArray.size + 1 ≤ _; rw [List.size_toArray, sizeLine_eq]; have := hc.writ_len d.k; have := hc.quo_le d.k; omega
        rw [letter_writ hm]
        (try dsimp only)
        k_steps
        rename Fr _ _ _ _ => F4
        rename News _ _ _ _ => N4
        rw [List.push_toArray, List.push_toArray, List.push_toArray] at N4
        rw [← ((hc.step d.k).2 hm).1] at F4
        rw [← hrst] at N4
        refine hQ _ _ ?_
        refine MfPost.next (⟨d.b ++ [_], d.e ++ [_], d.h ++ [_], d.m, d.l, _, _, _, _, _, _, _, _, d.k + 1⟩ : St11) F4 N4 (fun q hq => mem_pre [_, _, _, _, _, _, _, _, _] hq) (fun q hq => mem_own [_, _, _, _, _, _, _, _, _] hq) (same_addr (by rfl) hoff) (by (repeat (first | exact List.forall_mem_nil _ | refine List.forall_mem_cons.mpr ⟨rfl, ?_⟩))) ?n5 ?n6
        case n5 =>
          intro z a0 h2 h3
          have a1 : ¬ z = "written" := h2 _ (.tail _ (.tail _ (.tail _ (.tail _ (.tail _ (.tail _ (.tail _ (.head _))))))))
          have a2 : ¬ z = "name" := h2 _ (.tail _ (.tail _ (.tail _ (.tail _ (.tail _ (.tail _ (.head _)))))))
          have a4 : ¬ z = "pail" := h2 _ (.tail _ (.tail _ (.tail _ (.tail _ (.tail _ (.head _))))))
          have a3 : ¬ z = "sign" := not_mem1 h3
          exact (if_neg a1).trans ((if_neg a2).trans ((if_neg a3).trans ((if_neg a4).trans ((if_neg a0).trans (kst_same (same_names (by rfl) h2) h3)))))
        case n6 =>
          refine ⟨rfl, ?_, ?_, ?_, ?_, ?_⟩
          · rw [hc.begs_succ]; exact ints_snoc i1
          · rw [hc.ends_succ]; exact ints_snoc i2
          · rw [c.held_succ]; exact ints_snoc i3
          · rw [c.marks_succ, if_neg (by simp [hm]), List.append_nil]; exact i4
          · rw [c.left_succ, if_neg (by simp [hm]), List.append_nil]; exact i5
  case done =>
    rintro d u h tk ⟨hdk, i1, i2, i3, i4, i5⟩ F3 N3
    subst hdk
    exact hret d.b d.e d.h d.m d.l _ _ _ _ _ _ _ h tk _ i1 i2 i3 i4 i5 F3 (by rfl) (by rfl) (by rfl) (by rfl) (by rfl) (by rfl) (by rfl) N3
end
end Mine
end -- S2
section -- S3
open PySem PySem.W PySem.Calls PyProof.Rows
set_option Elab.async false
set_option maxRecDepth 100000
set_option maxHeartbeats 1000000
namespace Mine
section
local macro_rules | `(tactic| walk_at "binaryOp Mod int int") => `(tactic| refine Stop.mk ?_)
local macro_rules | `(tactic| walk_at "binaryOp FloorDiv int int") => `(tactic| refine Stop.mk ?_)
theorem clear_15 : True := by
  first
  | (row_walk; done)
  | trivial
theorem cut12 (w : World) (p : Program) (loose : List Str) (mean : ExcName → Option Value) (mg mb : Str → Option Value)
  {oc0 : Value} {od0 : Option Addr} {osl0 : Array (Option Value)} {nm0 q0 : Str} {ps0 : Arguments} {s0 s1 s2 s3 s4 s5 s6 s7 s8 s9 s10 s11 s12 s13 s14 : Stmt} {rs : List Stmt} {sc : Scope} {dV0 kV0 doc0 pm0 : Value} {an0 : Option Addr} {cdv0 ct0 : Value}
  (ho : (pre.heap_1 w.params).lookup 143 = some ⟨oc0, od0, .func (fnOf nm0 q0 ps0 (s0 :: s1 :: s2 :: s3 :: s4 :: s5 :: s6 :: s7 :: s8 :: s9 :: s10 :: s11 :: s12 :: s13 :: s14 :: rs) sc dV0 kV0 doc0 pm0 an0 cdv0 ct0), osl0⟩)
  (rs' : List Stmt) (h₀ : Heap) (L : Addr) (m : Str → Option Value) (s : Shared) (Q : Flow → Shared → Prop)
  (n : Nat) (hn : n ≤ 10) (tn : Tok) (o4 : Obj) (lb le D : Addr) (bs es ys : List Value) (nb ne : Nat) (nbs nes cs : List Int) (rest : List (Addr × Obj))
  (B : Below callerA h₀ [] h₀) (F : Fr h₀ L s.heap m) (X : (pre.heap_1 w.params).In h₀)
  (N : News h₀ L s.heap ((le, listOf es.toArray ne) :: (lb, listOf bs.toArray nb) :: (D, LCg.lst ys) :: (L + 1 + 1 + 1 + 1, o4) :: rest))
  (T : Top p loose mean mg mb h₀) (hbs : IntsAre bs nbs) (hes : IntsAre es nes) (hcs : IntsAre ys cs) (hlen : cs.length = 6) (zb : bs.length ≤ 10) (ze : es.length ≤ 10)
  (d4 : o4.data = .cell (some (.ref lb)))
  (m1 : m "count" = some (.int (n : Int) tn)) (m3 : m "ends" = some (.ref le)) (m9 : m "cells" = some (.ref D))
  (hret : ∀ (lo hi : Int) (tl th : Tok) (lk k1 k2 : Addr) (c1 c2 : Nat) (h' : Heap) (tk : Nat) (m' : Str → Option Value), 0 ≤ lo → lo ≤ hi → hi ≤ n → m' "low" = some (.int lo tl) → m' "high" = some (.int hi th) → m' "kept" = some (.ref lk) → (∀ z : Str, z ≠ "high" → z ≠ "low" → z ≠ "kept" → m' z = m z) →
    AllLt k1 ((le, listOf es.toArray ne) :: (lb, listOf bs.toArray nb) :: (D, LCg.lst ys) :: (L + 1 + 1 + 1 + 1, o4) :: rest) → @LT.lt Nat _ k1 k2 → @LT.lt Nat _ k2 lk → Fr h₀ L h' m' →
    News h₀ L h' ((lk, listOf #[.ref k1, .ref k2] 0) :: (k2, listOf es.toArray c2) :: (k1, listOf bs.toArray c1) :: (le, listOf es.toArray ne) :: (lb, listOf bs.toArray nb) :: (D, LCg.lst ys) :: (L + 1 + 1 + 1 + 1, o4) :: rest) →
    wpAny (model PySem.Challenge.rw_ta0044_01.row.prog w) (callerA.deeper (envOfC nm0 sc L 143 (.ref 142))) (execs rs' (envOfC nm0 sc L 143 (.ref 142))) Q (fun _ _ => False) { s with heap := h', toks := tk }) :
  wpAny (model PySem.Challenge.rw_ta0044_01.row.prog w) (callerA.deeper (envOfC nm0 sc L 143 (.ref 142))) (execs (s12 :: s13 :: s14 :: rs') (envOfC nm0 sc L 143 (.ref 142))) Q (fun _ _ => False) s := by
  have e_sc := congrArg (fun o => scopeOf o) ho
  conv at e_sc => lhs; whnf
  conv at e_sc => rhs; whnf
  have e_s12 := congrArg (fun o => stmtAt (bodyOf o) 12) ho
  conv at e_s12 => lhs; whnf
  conv at e_s12 => rhs; whnf
  have e_s13 := congrArg (fun o => stmtAt (bodyOf o) 13) ho
  conv at e_s13 => lhs; whnf
  conv at e_s13 => rhs; whnf
  have e_s14 := congrArg (fun o => stmtAt (bodyOf o) 14) ho
  conv at e_s14 => lhs; whnf
  conv at e_s14 => rhs; whnf
  clear ho
  subst e_sc
  subst e_s12
  subst e_s13
  subst e_s14
  have eM : kstB m [("count", .int (n : Int) tn), ("ends", .ref le), ("cells", .ref D)] = m := funext fun z => kstB_eq (by simp [m1, m3, m9]) fun _ => rfl
  have F' : Fr h₀ L s.heap (kstB m [("count", .int (n : Int) tn), ("ends", .ref le), ("cells", .ref D)]) := by rw [eM]; exact F
  clear F
  revert X; k_fill; intro X
  (try k_fold)
  k_steps
  refine Stop.out (my_mod (by omega) fun lo t0 e0 l0 u0 => ?_)
  (try dsimp only)
  k_steps
  refine Stop.out (floordiv_int (by omega) ?_ (.inl (PyProof.noPylong_small (by omega))))
  (try dsimp only)
  k_steps
  refine Stop.out (my_mod (by omega) fun hi t1 e1 l1 u1 => ?_)
  (try dsimp only)
  k_steps
  rename Fr _ _ _ _ => F9
  rename News _ _ _ _ => N9
  rename @LT.lt Nat _ le _ ∧ _ => lk1
  rename _ ∧ @LT.lt Nat _ le _ ∧ _ => lk2
  rename _ ∧ _ ∧ @LT.lt Nat _ le _ ∧ _ => lk3
  rw [eM] at F9
  exact hret lo (lo + hi) _ _ _ _ _ _ _ _ _ _ l0 (by omega) (by omega) (by rfl) (by rfl) (by rfl) (fun z z1 z2 z3 => (if_neg z1).trans ((if_neg z2).trans (if_neg z3))) lk1 lk2.1 lk3.1 F9 N9
end
end Mine
end -- S3
section -- T0
open PySem PySem.W PySem.Calls PyProof.Rows
namespace Mine
abbrev lawDp : Nat := 1 + claimMargin + 1
theorem lawTop (nm : Str) (sc : Scope) (L a : Addr) (cd : Value) : callerA.deeper (envOfC nm sc L a cd) = ktrTop lawDp 7 (some []) nm sc L a cd (cellsFrom (L + 1) sc.names []) [] := rfl
theorem lawDp_ok : lawDp + 300 < recursionLimit := by decide
/-- a mark in the context: the walk stops once at a key that asks for it -/
def Gate : Prop := True
theorem News.dropHd {h₀ h : Heap} {L : Addr} {a : Addr × Obj} {l : List (Addr × Obj)} (N : News h₀ L h (a :: l)) : News h₀ L h l := News.sub N fun _ hp => .tail _ hp
end Mine
end -- T0
section -- T1
open PySem PySem.W PySem.Calls PyProof.Rows
set_option Elab.async false
set_option maxRecDepth 100000
set_option maxHeartbeats 1000000
namespace Mine
theorem bits_small {x : Int} (h0 : 0 ≤ x) (h : x ≤ 4 * 10 ^ 30) : Builtin.Int.intBits x < 900 := by
  refine Nat.lt_of_le_of_lt (m := 110) (intBits_le_iff.mpr ?_) (by decide)
  have e : (4 * 10 ^ 30 : Int) < 2 ^ 110 := by decide
  omega
section
local macro_rules | `(tactic| walk_at "exec If") => `(tactic| (rename Gate => gt'; clear gt'; refine Stop.mk ?_))
local macro_rules | `(tactic| walk_at "call ref") => `(tactic| refine Stop.mk ?_)
local macro_rules | `(tactic| walk_at "none 15 0") => `(tactic| skip)
theorem clear_16 : True := by
  first
  | (row_walk; done)
  | trivial
theorem place1 (w : World) (p : Program) (loose : List Str) (mean : ExcName → Option Value) (mg mb : Str → Option Value)
  {oc0 : Value} {od0 : Option Addr} {osl0 : Array (Option Value)} {nm0 q0 : Str} {ps0 : Arguments} {s0 s1 s2 s3 s4 s5 s6 s7 s8 s9 s10 s11 s12 s13 s14 b0 b1 b2 b3 : Stmt} {bs e15 rs : List Stmt} {x15 it15 : Expr} {p15 : Pos} {sc : Scope} {dV0 kV0 doc0 pm0 : Value} {an0 : Option Addr} {cdv0 ct0 : Value}
  (ho : (pre.heap_1 w.params).lookup 143 = some ⟨oc0, od0, .func (fnOf nm0 q0 ps0 (s0 :: s1 :: s2 :: s3 :: s4 :: s5 :: s6 :: s7 :: s8 :: s9 :: s10 :: s11 :: s12 :: s13 :: s14 :: .For x15 it15 (b0 :: b1 :: b2 :: b3 :: bs) e15 p15 :: rs) sc dV0 kV0 doc0 pm0 an0 cdv0 ct0), osl0⟩)
  (bs' : List Stmt) (h₀ : Heap) (L : Addr) (m : Str → Option Value) (s : Shared) (Q : Flow → Shared → Prop)
  (c : Par) (hc : c.Ok) (hW : Hide (c.W ≤ 10 ^ 30)) (place : Nat) (hp : place ≤ 20) (tW tP tf tp : Tok) (o5 o6 o8 : Obj) (seg62 seg69 rest : List (Addr × Obj))
  (B : Below callerA h₀ [] h₀) (F : Fr h₀ L s.heap m) (X : (pre.heap_1 w.params).In h₀)
  (N : News h₀ L s.heap (seg62 ++ (seg69 ++ rest)))
  (h5 : (L + 1 + 1 + 1 + 1 + 1, o5) ∈ rest) (h6 : (L + 1 + 1 + 1 + 1 + 1 + 1, o6) ∈ rest) (h8 : (L + 1 + 1 + 1 + 1 + 1 + 1 + 1 + 1, o8) ∈ rest)
  (C62 : CodeHd h₀ 66 62) (C69 : CodeHd h₀ 73 69) (C140 : CodeHd h₀ 142 140) (hS : Segs seg62 seg69 rest)
  (T : Top p loose mean mg mb h₀)
  (d5 : o5.data = .cell (some (.int c.f tf))) (d6 : o6.data = .cell (some (.int c.P tP))) (d8 : o8.data = .cell (some (.int c.W tW)))
  (m1 : m "place" = some (.int (place : Int) tp))
  (hret : ∀ (turn rst : Int) (u v : Tok) (seg62' seg69' : List (Addr × Obj)) (h' : Heap) (tk : Nat) (m' : Str → Option Value), turn = (c.W * place - c.f - 1) / (c.P + c.W) → rst = (c.W * place - c.f - 1) % (c.P + c.W) → Fulls seg62' seg69' rest → Fr h₀ L h' m' →
    m' "turn" = some (.int turn u) → m' "rest" = some (.int rst v) → (∀ z : Str, z ≠ "value" → z ≠ "turn" → z ≠ "rest" → m' z = m z) → News h₀ L h' (seg62' ++ (seg69' ++ rest)) →
    wpAny (model PySem.Challenge.rw_ta0044_01.row.prog w) (callerA.deeper (envOfC nm0 sc L 143 (.ref 142))) (execs bs' (envOfC nm0 sc L 143 (.ref 142))) Q (fun _ _ => False) { s with heap := h', toks := tk }) :
  wpAny (model PySem.Challenge.rw_ta0044_01.row.prog w) (callerA.deeper (envOfC nm0 sc L 143 (.ref 142))) (execs (b0 :: b1 :: b2 :: b3 :: bs') (envOfC nm0 sc L 143 (.ref 142))) Q (fun _ _ => False) s := by
  have e_sc := congrArg (fun o => scopeOf o) ho
  conv at e_sc => lhs; whnf
  conv at e_sc => rhs; whnf
  have e_b0 := congrArg (fun o => stmtAt (forBody (stmtAt (bodyOf o) 15)) 0) ho
  conv at e_b0 => lhs; whnf
  conv at e_b0 => rhs; whnf
  have e_b1 := congrArg (fun o => stmtAt (forBody (stmtAt (bodyOf o) 15)) 1) ho
  conv at e_b1 => lhs; whnf
  conv at e_b1 => rhs; whnf
  have e_b2 := congrArg (fun o => stmtAt (forBody (stmtAt (bodyOf o) 15)) 2) ho
  conv at e_b2 => lhs; whnf
  conv at e_b2 => rhs; whnf
  have e_b3 := congrArg (fun o => stmtAt (forBody (stmtAt (bodyOf o) 15)) 3) ho
  conv at e_b3 => lhs; whnf
  conv at e_b3 => rhs; whnf
  clear ho
  subst e_sc
  subst e_b0
  subst e_b1
  subst e_b2
  subst e_b3
  have eM : kstB m [("place", .int (place : Int) tp)] = m := funext fun z => kstB_eq (by simp [m1]) fun _ => rfl
  have F' : Fr h₀ L s.heap (kstB m [("place", .int (place : Int) tp)]) := by rw [eM]; exact F
  clear F
  have h5' : (L + 1 + 1 + 1 + 1 + 1, o5) ∈ seg62 ++ (seg69 ++ rest) := List.mem_append_right _ (List.mem_append_right _ h5)
  have h6' : (L + 1 + 1 + 1 + 1 + 1 + 1, o6) ∈ seg62 ++ (seg69 ++ rest) := List.mem_append_right _ (List.mem_append_right _ h6)
  have h8' : (L + 1 + 1 + 1 + 1 + 1 + 1 + 1 + 1, o8) ∈ seg62 ++ (seg69 ++ rest) := List.mem_append_right _ (List.mem_append_right _ h8)
  revert X; k_fill; intro X
  (try k_fold)
  k_steps
  rename Fr _ _ _ _ => F1
  rename News _ _ _ _ => N1
  have P0 := hc.P0
  have PW := hc.PW
  have W1 := hc.W1
  have f0 := hc.f0
  have fW := hc.fW
  have hy : 0 < c.P + c.W := by omega
  have hyb : Builtin.Int.intBits (c.P + c.W) < 900 := bits_small (by omega) (by have := hW.out; omega)
  have hWp : 0 ≤ c.W * (place : Int) := Int.mul_nonneg (by omega) (by omega)
  have hWp2 : c.W * (place : Int) ≤ c.W * 20 := Int.mul_le_mul_of_nonneg_left (by omega) (by omega)
  refine Stop.out ?_
  refine idm1 w p loose mean mg mb lawDp 7 (some []) _ _ _ _ (cellsFrom (L + 1) _ []) [] callerA h₀ h₀ L _ _ _ _ seg62 seg69 rest B F1 X N1 T rfl C62 C69 hS _ _ _ _ hy hyb (by omega) (by omega) (by decide) ?_
  intro h' tk' t u1 u2 seg62' seg69' hf F2 N2 lt
  have hxe := Int.mul_ediv_add_emod (c.W * place - c.f - 1) (c.P + c.W)
  have hx0 := Int.emod_nonneg (c.W * place - c.f - 1) (Int.ne_of_gt hy)
  have hx1 := Int.emod_lt_of_pos (c.W * place - c.f - 1) hy
  rw [Int.mul_comm] at hxe
  have ht0 : -64 ≤ (c.W * place - c.f - 1) / (c.P + c.W) := Int.le_ediv_of_mul_le hy (by omega)
  have ht1 : (c.W * place - c.f - 1) / (c.P + c.W) ≤ 64 := Int.ediv_le_of_le_mul hy (by omega)
  generalize g1 : (c.W * place - c.f - 1) / (c.P + c.W) = turn at hxe ht0 ht1 F2 N2 ⊢
  generalize g2 : (c.W * place - c.f - 1) % (c.P + c.W) = rst at hxe hx0 hx1 F2 N2 ⊢
  clear F1 N1
  have h5a : (L + 1 + 1 + 1 + 1 + 1, o5) ∈ seg62' ++ (seg69' ++ rest) := List.mem_append_right _ (List.mem_append_right _ h5)
  have h6a : (L + 1 + 1 + 1 + 1 + 1 + 1, o6) ∈ seg62' ++ (seg69' ++ rest) := List.mem_append_right _ (List.mem_append_right _ h6)
  have h8a : (L + 1 + 1 + 1 + 1 + 1 + 1 + 1 + 1, o8) ∈ seg62' ++ (seg69' ++ rest) := List.mem_append_right _ (List.mem_append_right _ h8)
  have h5b := List.mem_cons_of_mem (t, tupObj [.int turn u1, .int rst u2]) h5a
  have h6b := List.mem_cons_of_mem (t, tupObj [.int turn u1, .int rst u2]) h6a
  have h8b := List.mem_cons_of_mem (t, tupObj [.int turn u1, .int rst u2]) h8a
  have gt : Gate := trivial
  (try dsimp only)
  k_steps
  rename Fr _ _ _ _ => F3
  rename News _ _ _ _ => N3
  replace N3 := News.dropHd N3
  clear h5b h6b h8b
  have hlit : turn * (c.P + c.W) = c.W * place - c.f - 1 - rst := by omega
  refine Stop.out ?_
  k_steps
  · exfalso; rename rst ≠ _ => hb; omega
  rename Fr _ _ _ _ => F4
  rename News _ _ _ _ => N4
  refine Stop.out ?_
  refine idm2 w p loose mean mg mb lawDp 7 (some []) _ _ _ _ (cellsFrom (L + 1) _ []) [] callerA h₀ h₀ L _ _ _ _ seg62' seg69' rest B F4 X N4 T rfl C62 C69 ?hS2 _ _ _ _ (by omega) ?hyb2 (by omega) (by omega) (by decide) ?_
  case hS2 => exact hf.toSegs
  case hyb2 => rw [show -(-c.P - c.W) = c.P + c.W by omega]; exact hyb
  intro h'' tk'' tt w1 w2 seg62a seg69a hf2 F5 N5 lt2
  have e1 : - -(c.W * (place : Int) - c.f - 1) / -(-c.P - c.W) = turn := by rw [Int.neg_neg, show -(-c.P - c.W) = c.P + c.W by omega]; exact g1
  have e2 : - -(c.W * (place : Int) - c.f - 1) % -(-c.P - c.W) = rst := by rw [Int.neg_neg, show -(-c.P - c.W) = c.P + c.W by omega]; exact g2
  rw [e1, e2] at N5
  have h5c : (L + 1 + 1 + 1 + 1 + 1, o5) ∈ seg62a ++ (seg69a ++ rest) := List.mem_append_right _ (List.mem_append_right _ h5)
  have h6c : (L + 1 + 1 + 1 + 1 + 1 + 1, o6) ∈ seg62a ++ (seg69a ++ rest) := List.mem_append_right _ (List.mem_append_right _ h6)
  have h8c : (L + 1 + 1 + 1 + 1 + 1 + 1 + 1 + 1, o8) ∈ seg62a ++ (seg69a ++ rest) := List.mem_append_right _ (List.mem_append_right _ h8)
  (try dsimp only)
  k_steps
  rename Fr _ _ _ _ => F9
  rename News _ _ _ _ => N9
  rw [eM] at F9
  exact hret turn rst _ _ _ _ _ _ _ g1.symm g2.symm hf2 F9 (by rfl) (by rfl) (fun z z1 z2 z3 => (if_neg z3).trans ((if_neg z2).trans (if_neg z1))) (News.dropHd (News.dropHd N9))
end
end Mine
end -- T1
local macro_rules | `(tactic| k_mem) => `(tactic| first | with_reducible assumption | (refine List.mem_cons_of_mem _ ?_; with_reducible assumption) | (refine List.mem_cons_of_mem _ (List.mem_cons_of_mem _ ?_); with_reducible assumption) | (refine List.mem_cons_of_mem _ (List.mem_cons_of_mem _ (List.mem_cons_of_mem _ ?_)); with_reducible assumption) | (refine List.mem_cons_of_mem _ (List.mem_cons_of_mem _ (List.mem_cons_of_mem _ (List.mem_cons_of_mem _ ?_))); with_reducible assumption) | fail "k_mem")
section -- T2
open PySem PySem.W PySem.Calls PyProof.Rows
set_option Elab.async false
set_option maxRecDepth 100000
set_option maxHeartbeats 1000000
namespace Mine
section
local macro_rules | `(tactic| walk_at "call ref") => `(tactic| refine Stop.mk ?_)
theorem clear_17 : True := by
  first
  | (row_walk; done)
  | trivial
theorem place2 (w : World) (p : Program) (loose : List Str) (mean : ExcName → Option Value) (mg mb : Str → Option Value)
  {oc0 : Value} {od0 : Option Addr} {osl0 : Array (Option Value)} {nm0 q0 : Str} {ps0 : Arguments} {s0 s1 s2 s3 s4 s5 s6 s7 s8 s9 s10 s11 s12 s13 s14 b0 b1 b2 b3 b4 b5 : Stmt} {bs e15 rs : List Stmt} {x15 it15 : Expr} {p15 : Pos} {sc : Scope} {dV0 kV0 doc0 pm0 : Value} {an0 : Option Addr} {cdv0 ct0 : Value}
  (ho : (pre.heap_1 w.params).lookup 143 = some ⟨oc0, od0, .func (fnOf nm0 q0 ps0 (s0 :: s1 :: s2 :: s3 :: s4 :: s5 :: s6 :: s7 :: s8 :: s9 :: s10 :: s11 :: s12 :: s13 :: s14 :: .For x15 it15 (b0 :: b1 :: b2 :: b3 :: b4 :: b5 :: bs) e15 p15 :: rs) sc dV0 kV0 doc0 pm0 an0 cdv0 ct0), osl0⟩)
  (bs' : List Stmt) (h₀ : Heap) (L : Addr) (m : Str → Option Value) (s : Shared) (Q : Flow → Shared → Prop)
  (P turn rst : Int) (n place cb ce : Nat) (hn : n ≤ 10) (lo hi : Int) (tP t1 t2 tp tl th : Tok) (o4 o6 : Obj) (lb le : Addr) (bv ev : List Value) (nb ne : Nat) (nbs nes : List Int) (news : List (Addr × Obj))
  (B : Below callerA h₀ [] h₀) (F : Fr h₀ L s.heap m) (X : (pre.heap_1 w.params).In h₀) (N : News h₀ L s.heap news)
  (h4 : (L + 1 + 1 + 1 + 1, o4) ∈ news) (h6 : (L + 1 + 1 + 1 + 1 + 1 + 1, o6) ∈ news) (hlb : (lb, listOf bv.toArray nb) ∈ news) (hle : (le, listOf ev.toArray ne) ∈ news)
  (ib : IntsAre bv nbs) (ie : IntsAre ev nes) (lnb : nbs.length = n) (lne : nes.length = n) (T : Top p loose mean mg mb h₀)
  (d4 : o4.data = .cell (some (.ref lb))) (d6 : o6.data = .cell (some (.int P tP)))
  (l0 : 0 ≤ lo) (l1 : lo ≤ hi) (l2 : hi ≤ n) (hcb : cb ≤ n) (hce : ce ≤ n)
  (cutb : ∀ i : Nat, i < nbs.length → ((nbs.getD i 0 < (place : Int)) ↔ i < cb)) (cute : ∀ i : Nat, i < nes.length → ((¬ (place : Int) < nes.getD i 0) ↔ i < ce))
  (eb : (cb : Int) = turn + 1) (ee : (ce : Int) = if rst < P then turn else turn + 1)
  (m1 : m "place" = some (.int (place : Int) tp)) (m2 : m "turn" = some (.int turn t1)) (m3 : m "rest" = some (.int rst t2)) (m4 : m "ends" = some (.ref le)) (m5 : m "low" = some (.int lo tl)) (m6 : m "high" = some (.int hi th))
  (hret : ∀ (u u2 : Tok) (h' : Heap) (tk : Nat) (m' : Str → Option Value), Fr h₀ L h' m' → m' "begun" = some (.int (cb : Int) u) → m' "ended" = some (.int (ce : Int) u2) → (∀ z : Str, z ≠ "begun" → z ≠ "ended" → m' z = m z) → News h₀ L h' news →
    wpAny (model PySem.Challenge.rw_ta0044_01.row.prog w) (callerA.deeper (envOfC nm0 sc L 143 (.ref 142))) (execs bs' (envOfC nm0 sc L 143 (.ref 142))) Q (fun _ _ => False) { s with heap := h', toks := tk }) :
  wpAny (model PySem.Challenge.rw_ta0044_01.row.prog w) (callerA.deeper (envOfC nm0 sc L 143 (.ref 142))) (execs (b4 :: b5 :: bs') (envOfC nm0 sc L 143 (.ref 142))) Q (fun _ _ => False) s := by
  have e_sc := congrArg (fun o => scopeOf o) ho
  conv at e_sc => lhs; whnf
  conv at e_sc => rhs; whnf
  have e_b4 := congrArg (fun o => stmtAt (forBody (stmtAt (bodyOf o) 15)) 4) ho
  conv at e_b4 => lhs; whnf
  conv at e_b4 => rhs; whnf
  have e_b5 := congrArg (fun o => stmtAt (forBody (stmtAt (bodyOf o) 15)) 5) ho
  conv at e_b5 => lhs; whnf
  conv at e_b5 => rhs; whnf
  clear ho
  subst e_sc
  subst e_b4
  subst e_b5
  have eM : kstB m [("place", .int (place : Int) tp), ("turn", .int turn t1), ("rest", .int rst t2), ("ends", .ref le), ("low", .int lo tl), ("high", .int hi th)] = m := funext fun z => kstB_eq (by simp [m1, m2, m3, m4, m5, m6]) fun _ => rfl
  have F' : Fr h₀ L s.heap (kstB m [("place", .int (place : Int) tp), ("turn", .int turn t1), ("rest", .int rst t2), ("ends", .ref le), ("low", .int lo tl), ("high", .int hi th)]) := by rw [eM]; exact F
  clear F
  have zb : bv.length < 2 ^ 40 := by have := ib.length; omega
  have ze : ev.length < 2 ^ 40 := by have := ie.length; omega
  revert X; k_fill; intro X
  (try k_fold)
  k_steps
  rename Fr _ _ _ _ => F1
  rename News _ _ _ _ => N1
  refine Stop.out ?_
  refine bisl2 w p loose mean mg mb lawDp 7 (some []) _ _ _ _ (cellsFrom (L + 1) _ []) [] callerA h₀ h₀ L _ _ _ _ news B F1 X N1 T rfl (by decide) lb bv nbs nb hlb ib zb _ _ cb (by omega) cutb ?_
  intro h' tk' u F2 N2
  (try dsimp only)
  k_steps
  rename Fr _ _ _ _ => F3
  rename News _ _ _ _ => N3
  refine Stop.out ?_
  refine bisr2 w p loose mean mg mb lawDp 7 (some []) _ _ _ _ (cellsFrom (L + 1) _ []) [] callerA h₀ h₀ L _ _ _ _ news B F3 X N3 T rfl (by decide) le ev nes ne hle ie ze _ _ ce (by omega) cute ?_
  intro h' tk' u2 F4 N4
  (try dsimp only)
  k_steps
  all_goals (rename Fr _ _ _ _ => F9; rename News _ _ _ _ => N9)
  · rw [eM] at F9
    exact hret u u2 _ _ _ F9 (by rfl) (by rfl) (fun z z1 z2 => (if_neg z1).trans (if_neg z2)) (News.dropHd (News.dropHd (News.dropHd N9)))
  · rename ¬ _ = _ => hb
    rename rst < P => hr
    rw [if_pos hr] at ee
    exact absurd (by rw [eb, ee]) hb
  · rw [eM] at F9
    exact hret u u2 _ _ _ F9 (by rfl) (by rfl) (fun z z1 z2 => (if_neg z1).trans (if_neg z2)) (News.dropHd (News.dropHd (News.dropHd N9)))
  · rename ¬ _ = _ => hb
    rename ¬ rst < P => hr
    rw [if_neg hr] at ee
    exact absurd (by rw [eb, ee]) hb
end
end Mine
end -- T2
section -- T3
open PySem PySem.W PySem.Calls PyProof.Rows
set_option Elab.async false
set_option maxRecDepth 100000
set_option maxHeartbeats 1000000
namespace Mine
theorem min_max {c lo hi : Int} : (if hi < (if lo > c then lo else c) then hi else if lo > c then lo else c) = min (max c lo) hi := by
  by_cases h1 : lo > c
  · rw [if_pos h1]; split <;> omega
  · rw [if_neg h1]; split <;> omega
section
local macro_rules | `(tactic| walk_at "call ref") => `(tactic| refine Stop.mk ?_)
local macro_rules | `(tactic| walk_at "none 17 0") => `(tactic| skip)
theorem clear_18 : True := by
  first
  | (row_walk; done)
  | trivial
theorem place3 (w : World) (p : Program) (loose : List Str) (mean : ExcName → Option Value) (mg mb : Str → Option Value)
  {oc0 : Value} {od0 : Option Addr} {osl0 : Array (Option Value)} {nm0 q0 : Str} {ps0 : Arguments} {s0 s1 s2 s3 s4 s5 s6 s7 s8 s9 s10 s11 s12 s13 s14 b0 b1 b2 b3 b4 b5 b6 b7 : Stmt} {bs e15 rs : List Stmt} {x15 it15 : Expr} {p15 : Pos} {sc : Scope} {dV0 kV0 doc0 pm0 : Value} {an0 : Option Addr} {cdv0 ct0 : Value}
  (ho : (pre.heap_1 w.params).lookup 143 = some ⟨oc0, od0, .func (fnOf nm0 q0 ps0 (s0 :: s1 :: s2 :: s3 :: s4 :: s5 :: s6 :: s7 :: s8 :: s9 :: s10 :: s11 :: s12 :: s13 :: s14 :: .For x15 it15 (b0 :: b1 :: b2 :: b3 :: b4 :: b5 :: b6 :: b7 :: bs) e15 p15 :: rs) sc dV0 kV0 doc0 pm0 an0 cdv0 ct0), osl0⟩)
  (bs' : List Stmt) (h₀ : Heap) (L : Addr) (m : Str → Option Value) (s : Shared) (Q : Flow → Shared → Prop)
  (n place cb ce : Nat) (hn : n ≤ 10) (lo hi : Int) (t1 t2 tp tl th : Tok) (o4 : Obj) (lb le : Addr) (bv ev : List Value) (nb ne : Nat) (nbs nes : List Int) (news : List (Addr × Obj))
  (B : Below callerA h₀ [] h₀) (F : Fr h₀ L s.heap m) (X : (pre.heap_1 w.params).In h₀) (N : News h₀ L s.heap news)
  (h4 : (L + 1 + 1 + 1 + 1, o4) ∈ news) (hlb : (lb, listOf bv.toArray nb) ∈ news) (hle : (le, listOf ev.toArray ne) ∈ news)
  (ib : IntsAre bv nbs) (ie : IntsAre ev nes) (lnb : nbs.length = n) (lne : nes.length = n) (T : Top p loose mean mg mb h₀)
  (d4 : o4.data = .cell (some (.ref lb)))
  (l0 : 0 ≤ lo) (l1 : lo ≤ hi) (l2 : hi ≤ n) (hcb : cb ≤ n) (hce : ce ≤ n)
  (cutb : ∀ i : Nat, i < nbs.length → ((nbs.getD i 0 < (place : Int)) ↔ i < cb)) (cute : ∀ i : Nat, i < nes.length → ((¬ (place : Int) < nes.getD i 0) ↔ i < ce))
  (m1 : m "place" = some (.int (place : Int) tp)) (m2 : m "begun" = some (.int (cb : Int) t1)) (m3 : m "ended" = some (.int (ce : Int) t2)) (m4 : m "ends" = some (.ref le)) (m5 : m "low" = some (.int lo tl)) (m6 : m "high" = some (.int hi th))
  (hret : ∀ (h' : Heap) (tk : Nat) (m' : Str → Option Value), Fr h₀ L h' m' → (∀ z : Str, z ≠ "nearest" → m' z = m z) → News h₀ L h' news →
    wpAny (model PySem.Challenge.rw_ta0044_01.row.prog w) (callerA.deeper (envOfC nm0 sc L 143 (.ref 142))) (execs bs' (envOfC nm0 sc L 143 (.ref 142))) Q (fun _ _ => False) { s with heap := h', toks := tk }) :
  wpAny (model PySem.Challenge.rw_ta0044_01.row.prog w) (callerA.deeper (envOfC nm0 sc L 143 (.ref 142))) (execs (b6 :: b7 :: bs') (envOfC nm0 sc L 143 (.ref 142))) Q (fun _ _ => False) s := by
  have e_sc := congrArg (fun o => scopeOf o) ho
  conv at e_sc => lhs; whnf
  conv at e_sc => rhs; whnf
  have e_b6 := congrArg (fun o => stmtAt (forBody (stmtAt (bodyOf o) 15)) 6) ho
  conv at e_b6 => lhs; whnf
  conv at e_b6 => rhs; whnf
  have e_b7 := congrArg (fun o => stmtAt (forBody (stmtAt (bodyOf o) 15)) 7) ho
  conv at e_b7 => lhs; whnf
  conv at e_b7 => rhs; whnf
  clear ho
  subst e_sc
  subst e_b6
  subst e_b7
  have eM : kstB m [("place", .int (place : Int) tp), ("begun", .int (cb : Int) t1), ("ended", .int (ce : Int) t2), ("ends", .ref le), ("low", .int lo tl), ("high", .int hi th)] = m := funext fun z => kstB_eq (by simp [m1, m2, m3, m4, m5, m6]) fun _ => rfl
  have F' : Fr h₀ L s.heap (kstB m [("place", .int (place : Int) tp), ("begun", .int (cb : Int) t1), ("ended", .int (ce : Int) t2), ("ends", .ref le), ("low", .int lo tl), ("high", .int hi th)]) := by rw [eM]; exact F
  clear F
  have zb : bv.length < 2 ^ 40 := by have := ib.length; omega
  have ze : ev.length < 2 ^ 40 := by have := ie.length; omega
  revert X; k_fill; intro X
  (try k_fold)
  k_steps
  rename Fr _ _ _ _ => F1
  rename News _ _ _ _ => N1
  refine Stop.out ?_
  refine bisl4 w p loose mean mg mb lawDp 7 (some []) _ _ _ _ (cellsFrom (L + 1) _ []) [] callerA h₀ h₀ L _ _ _ _ news B F1 X N1 T rfl (by decide) lb bv nbs nb hlb ib zb _ _ cb lo hi _ _ l0 l1 (by omega) cutb ?_
  intro h' tk' u F2 N2
  (try dsimp only)
  k_steps
  rename Fr _ _ _ _ => F3
  rename News _ _ _ _ => N3
  refine Stop.out ?_
  refine bisr4 w p loose mean mg mb lawDp 7 (some []) _ _ _ _ (cellsFrom (L + 1) _ []) [] callerA h₀ h₀ L _ _ _ _ news B F3 X N3 T rfl (by decide) le ev nes ne hle ie ze _ _ ce lo hi _ _ l0 l1 (by omega) cute ?_
  intro h' tk' u2 F4 N4
  (try dsimp only)
  k_steps
  all_goals (rename Fr _ _ _ _ => F9; rename News _ _ _ _ => N9)
  · rw [eM] at F9
    exact hret _ _ _ F9 (fun z z1 => if_neg z1) (News.dropHd (News.dropHd N9))
  · rename ¬ _ = _ => hb
    rw [min_max, min_max] at hb
    exact absurd rfl hb
end
end Mine
end -- T3
section -- T4
open PySem PySem.W PySem.Calls PyProof.Rows
set_option Elab.async false
set_option maxRecDepth 100000
set_option maxHeartbeats 1000000
namespace Mine
theorem slice_take {l : List Nat} {k : Nat} (h : k ≤ l.length) : Txt.slice (⟨l.toArray⟩ : Str) none (some (k : Int)) = ⟨(l.take k).toArray⟩ := by
  have e := eq_of_beq (slice_closes_to (x := ⟨l.toArray⟩) (j := (k : Int)) ⟨by omega, by show (k : Int) ≤ (l.length : Int); omega⟩)
  rw [e]
  simp
theorem front_eq {l : List Nat} : Str.ofString "257 \"" ++ (⟨l.toArray⟩ : Str) = ⟨([50, 53, 55, 32, 34] ++ l).toArray⟩ := by
  rw [show Str.ofString "257 \"" = ⟨#[50, 53, 55, 32, 34]⟩ by decide]
  show (⟨#[50, 53, 55, 32, 34] ++ l.toArray⟩ : Str) = _
  simp
section
local macro_rules | `(tactic| walk_at "call ref") => `(tactic| refine Stop.mk ?_)
theorem clear_19 : True := by
  first
  | (row_walk; done)
  | trivial
theorem place4 (w : World) (p : Program) (loose : List Str) (mean : ExcName → Option Value) (mg mb : Str → Option Value)
  {oc0 : Value} {od0 : Option Addr} {osl0 : Array (Option Value)} {nm0 q0 : Str} {ps0 : Arguments} {s0 s1 s2 s3 s4 s5 s6 s7 s8 s9 s10 s11 s12 s13 s14 b0 b1 b2 b3 b4 b5 b6 b7 b8 b9 : Stmt} {bs e15 rs : List Stmt} {x15 it15 : Expr} {p15 : Pos} {sc : Scope} {dV0 kV0 doc0 pm0 : Value} {an0 : Option Addr} {cdv0 ct0 : Value}
  (ho : (pre.heap_1 w.params).lookup 143 = some ⟨oc0, od0, .func (fnOf nm0 q0 ps0 (s0 :: s1 :: s2 :: s3 :: s4 :: s5 :: s6 :: s7 :: s8 :: s9 :: s10 :: s11 :: s12 :: s13 :: s14 :: .For x15 it15 (b0 :: b1 :: b2 :: b3 :: b4 :: b5 :: b6 :: b7 :: b8 :: b9 :: bs) e15 p15 :: rs) sc dV0 kV0 doc0 pm0 an0 cdv0 ct0), osl0⟩)
  (bs' : List Stmt) (h₀ : Heap) (L : Addr) (m : Str → Option Value) (s : Shared) (Q : Flow → Shared → Prop)
  (wl nl : List Nat) (place ce : Nat) (hw : wl.length ≤ 20) (hn : nl.length ≤ 10) (hp : place ≤ wl.length) (hce : ce ≤ nl.length) (hscan : scan (wl.take place) = nl.take ce) (tw tn tp te : Tok) (news : List (Addr × Obj))
  (B : Below callerA h₀ [] h₀) (F : Fr h₀ L s.heap m) (X : (pre.heap_1 w.params).In h₀) (N : News h₀ L s.heap news) (T : Top p loose mean mg mb h₀)
  (m1 : m "place" = some (.int (place : Int) tp)) (m2 : m "ended" = some (.int (ce : Int) te)) (m3 : m "written" = some (.str ⟨wl.toArray⟩ tw)) (m4 : m "name" = some (.str ⟨nl.toArray⟩ tn))
  (hret : ∀ (u : Tok) (h' : Heap) (tk : Nat) (m' : Str → Option Value), Fr h₀ L h' m' → m' "front" = some (.str ⟨([50, 53, 55, 32, 34] ++ wl.take place).toArray⟩ u) → (∀ z : Str, z ≠ "front" → m' z = m z) → News h₀ L h' news →
    wpAny (model PySem.Challenge.rw_ta0044_01.row.prog w) (callerA.deeper (envOfC nm0 sc L 143 (.ref 142))) (execs bs' (envOfC nm0 sc L 143 (.ref 142))) Q (fun _ _ => False) { s with heap := h', toks := tk }) :
  wpAny (model PySem.Challenge.rw_ta0044_01.row.prog w) (callerA.deeper (envOfC nm0 sc L 143 (.ref 142))) (execs (b8 :: b9 :: bs') (envOfC nm0 sc L 143 (.ref 142))) Q (fun _ _ => False) s := by
  have e_sc := congrArg (fun o => scopeOf o) ho
  conv at e_sc => lhs; whnf
  conv at e_sc => rhs; whnf
  have e_b8 := congrArg (fun o => stmtAt (forBody (stmtAt (bodyOf o) 15)) 8) ho
  conv at e_b8 => lhs; whnf
  conv at e_b8 => rhs; whnf
  have e_b9 := congrArg (fun o => stmtAt (forBody (stmtAt (bodyOf o) 15)) 9) ho
  conv at e_b9 => lhs; whnf
  conv at e_b9 => rhs; whnf
  clear ho
  subst e_sc
  subst e_b8
  subst e_b9
  have eM : kstB m [("place", .int (place : Int) tp), ("ended", .int (ce : Int) te), ("written", .str ⟨wl.toArray⟩ tw), ("name", .str ⟨nl.toArray⟩ tn)] = m := funext fun z => kstB_eq (by simp [m1, m2, m3, m4]) fun _ => rfl
  have F' : Fr h₀ L s.heap (kstB m [("place", .int (place : Int) tp), ("ended", .int (ce : Int) te), ("written", .str ⟨wl.toArray⟩ tw), ("name", .str ⟨nl.toArray⟩ tn)]) := by rw [eM]; exact F
  clear F
  have zw : (⟨wl.toArray⟩ : Str).length ≤ 20 := hw
  have zn : (⟨nl.toArray⟩ : Str).length ≤ 10 := hn
  revert X; k_fill; intro X
  (try k_fold)
  k_steps
  rename Fr _ _ _ _ => F1
  rename News _ _ _ _ => N1
  rw [slice_take hp, front_eq] at F1 ⊢
  have htl : (wl.take place).length ≤ 20 := by rw [List.length_take]; omega
  refine Stop.out ?_
  refine parse w p loose mean mg mb lawDp 7 (some []) _ _ _ _ (cellsFrom (L + 1) _ []) [] callerA h₀ h₀ L _ _ _ _ news B F1 X N1 T rfl _ (wl.take place) _ rfl (by omega) (by show (List.toArray _).size ≤ _; rw [List.size_toArray, List.length_append, sizeLine_eq]; simp only [List.length_cons, List.length_nil]; omega) (by show (List.toArray _).size = _; rw [List.size_toArray, List.length_append]; rfl) (by decide) ?_
  intro h' tk' u F2 N2
  rw [hscan]
  (try dsimp only)
  k_steps
  all_goals (rename Fr _ _ _ _ => F9; rename News _ _ _ _ => N9)
  · rename (_ != _) = true => hb
    rw [slice_take hce] at hb
    simp at hb
  · rw [eM] at F9
    exact hret _ _ _ _ F9 (by rfl) (fun z z1 => if_neg z1) N9
end
end Mine
end -- T4
section -- T5
open PySem PySem.W PySem.Calls PyProof.Rows
set_option Elab.async false
set_option maxRecDepth 100000
set_option maxHeartbeats 1000000
namespace Mine
theorem str_app {a b : List Nat} : (⟨a.toArray⟩ : Str) ++ (⟨b.toArray⟩ : Str) = ⟨(a ++ b).toArray⟩ := by
  show (⟨a.toArray ++ b.toArray⟩ : Str) = _
  simp
theorem tail_eq {fl tl : List Nat} : (⟨(50 :: 53 :: 55 :: 32 :: 34 :: fl).toArray⟩ : Str) ++ Str.ofString "\"" ++ (⟨tl.toArray⟩ : Str) = ⟨([50, 53, 55, 32, 34] ++ (fl ++ 34 :: tl)).toArray⟩ := by
  rw [show Str.ofString "\"" = ⟨[34].toArray⟩ by decide, str_app, str_app]
  simp
section
local macro_rules | `(tactic| k_mem) => `(tactic| first | with_reducible assumption | (refine List.mem_cons_of_mem _ ?_; with_reducible assumption) | (refine List.mem_cons_of_mem _ (List.mem_cons_of_mem _ ?_); with_reducible assumption) | (refine List.mem_cons_of_mem _ (List.mem_cons_of_mem _ (List.mem_cons_of_mem _ ?_)); with_reducible assumption) | fail "k_mem")
local macro_rules | `(tactic| walk_at "exec For Name Tuple cons nil") => `(tactic| refine Stop.mk ?_)
local macro_rules | `(tactic| walk_at "pyIter ref") => `(tactic| refine Stop.mk ?_)
local macro_rules | `(tactic| walk_at "call ref") => `(tactic| refine Stop.mk ?_)
theorem clear_20 : True := by
  first
  | (row_walk; done)
  | trivial
theorem place5 (w : World) (p : Program) (loose : List Str) (mean : ExcName → Option Value) (mg mb : Str → Option Value)
  {oc0 : Value} {od0 : Option Addr} {osl0 : Array (Option Value)} {nm0 q0 : Str} {ps0 : Arguments} {s0 s1 s2 s3 s4 s5 s6 s7 s8 s9 s10 s11 s12 s13 s14 b0 b1 b2 b3 b4 b5 b6 b7 b8 b9 b10 : Stmt} {bs e15 rs : List Stmt} {x15 it15 : Expr} {p15 : Pos} {sc : Scope} {dV0 kV0 doc0 pm0 : Value} {an0 : Option Addr} {cdv0 ct0 : Value}
  (ho : (pre.heap_1 w.params).lookup 143 = some ⟨oc0, od0, .func (fnOf nm0 q0 ps0 (s0 :: s1 :: s2 :: s3 :: s4 :: s5 :: s6 :: s7 :: s8 :: s9 :: s10 :: s11 :: s12 :: s13 :: s14 :: .For x15 it15 (b0 :: b1 :: b2 :: b3 :: b4 :: b5 :: b6 :: b7 :: b8 :: b9 :: b10 :: bs) e15 p15 :: rs) sc dV0 kV0 doc0 pm0 an0 cdv0 ct0), osl0⟩)
  (bs' : List Stmt) (h₀ : Heap) (L : Addr) (m : Str → Option Value) (s : Shared) (Q : Flow → Shared → Prop)
  (fl nl : List Nat) (cb ce : Nat) (rst P : Int) (hw : fl.length ≤ 20) (hn : nl.length ≤ 10) (hcb : cb ≤ nl.length) (hce : ce ≤ nl.length) (hs1 : scan (fl ++ [34, 120]) = if rst < P then nl.take cb ++ [120] else nl.take ce) (hs2 : scan (fl ++ [34, 32, 120]) = if rst < P then nl.take cb ++ [32, 120] else nl.take ce) (tb te tf tn tr tP : Tok) (o6 : Obj) (news : List (Addr × Obj))
  (B : Below callerA h₀ [] h₀) (F : Fr h₀ L s.heap m) (X : (pre.heap_1 w.params).In h₀) (N : News h₀ L s.heap news) (T : Top p loose mean mg mb h₀) (h6 : (L + 1 + 1 + 1 + 1 + 1 + 1, o6) ∈ news) (d6 : o6.data = .cell (some (.int P tP)))
  (m1 : m "begun" = some (.int (cb : Int) tb)) (m2 : m "ended" = some (.int (ce : Int) te)) (m3 : m "front" = some (.str ⟨([50, 53, 55, 32, 34] ++ fl).toArray⟩ tf)) (m4 : m "name" = some (.str ⟨nl.toArray⟩ tn)) (m5 : m "rest" = some (.int rst tr))
  (hret : ∀ (h' : Heap) (tk : Nat) (m' : Str → Option Value), Fr h₀ L h' m' → (∀ z : Str, z ≠ "tail" → m' z = m z) → News h₀ L h' news →
    wpAny (model PySem.Challenge.rw_ta0044_01.row.prog w) (callerA.deeper (envOfC nm0 sc L 143 (.ref 142))) (execs bs' (envOfC nm0 sc L 143 (.ref 142))) Q (fun _ _ => False) { s with heap := h', toks := tk }) :
  wpAny (model PySem.Challenge.rw_ta0044_01.row.prog w) (callerA.deeper (envOfC nm0 sc L 143 (.ref 142))) (execs (b10 :: bs') (envOfC nm0 sc L 143 (.ref 142))) Q (fun _ _ => False) s := by
  have e_sc := congrArg (fun o => scopeOf o) ho
  conv at e_sc => lhs; whnf
  conv at e_sc => rhs; whnf
  have e_b10 := congrArg (fun o => stmtAt (forBody (stmtAt (bodyOf o) 15)) 10) ho
  conv at e_b10 => lhs; whnf
  conv at e_b10 => rhs; whnf
  clear ho
  subst e_sc
  subst e_b10
  have eM : kstB m [("begun", .int (cb : Int) tb), ("ended", .int (ce : Int) te), ("front", .str ⟨([50, 53, 55, 32, 34] ++ fl).toArray⟩ tf), ("name", .str ⟨nl.toArray⟩ tn), ("rest", .int rst tr)] = m := funext fun z => kstB_eq (by simp [m1, m2, m3, m4, m5]) fun _ => rfl
  have F' : Fr h₀ L s.heap (kstB m [("begun", .int (cb : Int) tb), ("ended", .int (ce : Int) te), ("front", .str ⟨([50, 53, 55, 32, 34] ++ fl).toArray⟩ tf), ("name", .str ⟨nl.toArray⟩ tn), ("rest", .int rst tr)]) := by rw [eM]; exact F
  clear F
  have zw : (⟨([50, 53, 55, 32, 34] ++ fl).toArray⟩ : Str).length ≤ 25 := by show (List.toArray _).size ≤ _; rw [List.size_toArray, List.length_append]; simp only [List.length_cons, List.length_nil]; omega
  have zn : (⟨nl.toArray⟩ : Str).length ≤ 10 := hn
  revert X; k_fill; intro X
  (try k_fold)
  k_steps
  refine Stop.out ?_
  with_unfolding_all refine' For_invVF F' ?k1 ?k2 ?_
  case k1 => exact rfl
  case k2 => exact rfl
  (try dsimp only)
  k_steps
  rename Fr _ _ _ _ => F1
  rename News _ _ _ _ => N1
  rename Addr => D
  have hD := N1 _ (.head _)
  have hDs : @LT.lt Nat _ D _ := Heap.lt_size hD.1
  refine Stop.out (wpAny_pyIter_tuple ⟨_, hD.1, rfl, _, rfl⟩ ?_)
  refine my_for (σ := Unit) (fun _ => news) (fun _ => [("begun", .int (cb : Int) tb), ("ended", .int (ce : Int) te), ("front", .str ⟨([50, 53, 55, 32, 34] ++ fl).toArray⟩ tf), ("name", .str ⟨nl.toArray⟩ tn), ("rest", .int rst tr)]) [] (fun _ _ => True) () (Walks.tuple rfl _ D (Nat.ne_of_lt hDs) #[.str "x" s.toks, .str " x" (s.toks + 1)]) ?hLf ?hwr ?hnw ?hst (F1.keeps fun _ _ e => Heap.get?_push_of_some _ e) ((News.dropHd N1).grown fun _ _ e => Heap.get?_push_of_some _ e) ?hk trivial ?turn ?done
  case hLf =>
    intro q
    rcases List.mem_cons.mp q with q | q
    · exact Nat.ne_of_lt F1.ns.lt q
    · exact hD.2.1 (List.mem_singleton.mp q).symm
  case hwr => exact all1 (next_is_new F1)
  case hnw => exact fun p hp q => Nat.ne_of_lt (Heap.lt_size (N1 p (.tail _ hp)).1) (List.mem_singleton.mp q)
  case hst => exact ⟨⟨_, Heap.get?_push_size _ rfl, rfl, rfl⟩, ⟨_, Heap.get?_push_of_some _ hD.1, rfl, _, rfl⟩⟩
  case hk => repeat (first | exact List.forall_mem_nil _ | refine List.forall_mem_cons.mpr ⟨rfl, ?_⟩)
  case done =>
    rintro ⟨⟩ u h tk _ F3 N3
    refine hret h tk _ F3 (fun z hz => (if_neg hz).trans ((kstB_eq (m₁ := kstB m _) ?e1 fun _ => rfl).trans (congrFun eM z))) N3
    case e1 => repeat (first | exact List.forall_mem_nil _ | refine List.forall_mem_cons.mpr ⟨rfl, ?_⟩)
  case turn =>
    rintro ⟨⟩ i v u h tk own hin hv hoff hof hown _ hst F3 N3
    have ⟨tl, tt, e1, e2, e3⟩ : ∃ (tl : List Nat) (tt : Tok), v = .str ⟨tl.toArray⟩ tt ∧ tl.length ≤ 2 ∧ scan (fl ++ 34 :: tl) = if rst < P then nl.take cb ++ tl else nl.take ce := by
      match i, hin with
      | 0, _ => exact ⟨[120], s.toks, (Option.some.inj hv).symm, by decide, hs1⟩
      | 1, _ => exact ⟨[32, 120], s.toks + 1, (Option.some.inj hv).symm, by decide, hs2⟩
    subst e1
    have h6' : (L + 1 + 1 + 1 + 1 + 1 + 1, o6) ∈ news ++ own := List.mem_append_left _ h6
    refine wpAny_opq fun Q' hQ => ?_
    (try dsimp only)
    k_steps
    rename Fr _ _ _ _ => F4
    rename News _ _ _ _ => N4
    rw [tail_eq]
    have F4 : Fr h₀ L _ _ := F4
    have N4 : News h₀ L _ _ := N4
    have hbl : (fl ++ 34 :: tl).length ≤ 23 := by rw [List.length_append, List.length_cons]; omega
    refine Stop.out ?_
    refine parse w p loose mean mg mb lawDp 7 (some []) _ _ _ _ (cellsFrom (L + 1) _ []) [] callerA h₀ h₀ L _ _ _ _ (news ++ own) B F4 X N4 T rfl _ (fl ++ 34 :: tl) _ rfl (by omega) (by show (List.toArray _).size ≤ _; rw [List.size_toArray, List.length_append, sizeLine_eq]; simp only [List.length_cons, List.length_nil]; omega) (by show (List.toArray _).size = _; rw [List.size_toArray, List.length_append]; rfl) (by decide) ?_
    intro h' tk' u F5 N5
    rw [e3]
    have ztl : (⟨tl.toArray⟩ : Str).length ≤ 2 := e2
    have zn : (⟨nl.toArray⟩ : Str).length ≤ 10 := hn
    (try dsimp only)
    k_steps
    all_goals (rename Fr _ _ _ _ => F9; rename News _ _ _ _ => N9)
    · rename (_ != _) = true => hb
      rename rst < P => hr
      rw [if_pos hr, slice_take hcb, str_app] at hb
      simp at hb
    · refine hQ _ _ ?_
      refine MfPost.next () F9 N9 (fun q hq => List.mem_append_left _ hq) (fun q hq => List.mem_append_right _ hq) hoff ?k4 ?k5 trivial
      case k4 => repeat (first | exact List.forall_mem_nil _ | refine List.forall_mem_cons.mpr ⟨rfl, ?_⟩)
      case k5 => intro z a0 h2 h3; exact (if_neg a0).trans (kst_same (same_names (by rfl) h2) h3)
    · rename (_ != _) = true => hb
      rename ¬ rst < P => hr
      rw [if_neg hr, slice_take hce] at hb
      simp at hb
    · refine hQ _ _ ?_
      refine MfPost.next () F9 N9 (fun q hq => List.mem_append_left _ hq) (fun q hq => List.mem_append_right _ hq) hoff ?k6 ?k7 trivial
      case k6 => repeat (first | exact List.forall_mem_nil _ | refine List.forall_mem_cons.mpr ⟨rfl, ?_⟩)
      case k7 => intro z a0 h2 h3; exact (if_neg a0).trans (kst_same (same_names (by rfl) h2) h3)
end
end Mine
end -- T5
section -- P3
open PySem PySem.W PySem.Calls PyProof.Rows
set_option Elab.async false
namespace Mine
theorem scan_dbl (r : List Nat) : ∀ l : List Nat, scan (l.flatMap dbl ++ r) = l ++ scan r
  | [] => rfl
  | a :: l => by
    rw [List.flatMap_cons, List.append_assoc, List.cons_append, ← scan_dbl r l]
    by_cases h : a = 34
    · subst h; exact scan_two
    · rw [dbl, if_neg h]; exact scan_other h
variable {c : Par}
/-- begins: the number k and the place y -/
theorem Par.Ok.beg_lt (h : c.Ok) (k : Nat) (y : Int) : ((k : Int) + c.quo k < y) ↔ (c.P + c.W) * k ≤ c.W * y - c.f - 1 := by
  have W1 := h.W1
  have e : (k : Int) + c.quo k = (c.f + (c.P + c.W) * k) / c.W := by
    unfold Par.quo
    rw [Int.add_mul, ← Int.add_assoc, Int.add_mul_ediv_left _ _ (by omega), Int.add_comm]
  rw [e, Int.ediv_lt_iff_lt_mul (by omega), Int.mul_comm y]
  omega
theorem Par.Ok.beg_turn (h : c.Ok) (k : Nat) (y : Int) : ((k : Int) + c.quo k < y) ↔ (k : Int) ≤ (c.W * y - c.f - 1) / (c.P + c.W) := by
  have W1 := h.W1
  have P0 := h.P0
  rw [h.beg_lt, Int.le_ediv_iff_mul_le (by omega), Int.mul_comm]
theorem Par.Ok.end_turn (h : c.Ok) (k : Nat) (y : Int) : (¬ y < (k : Int) + 1 + c.quo (k + 1)) ↔ (k : Int) + 1 ≤ (c.W * (y + 1) - c.f - 1) / (c.P + c.W) := by
  have e := h.beg_turn (k + 1) (y + 1)
  have e2 : ((k + 1 : Nat) : Int) = (k : Int) + 1 := by omega
  rw [e2] at e
  rw [← e]
  omega
theorem Par.Ok.turn_next (h : c.Ok) (y : Int) : (c.W * (y + 1) - c.f - 1) / (c.P + c.W) = if (c.W * y - c.f - 1) % (c.P + c.W) < c.P then (c.W * y - c.f - 1) / (c.P + c.W) else (c.W * y - c.f - 1) / (c.P + c.W) + 1 := by
  have W1 := h.W1
  have P0 := h.P0
  have e := Int.mul_ediv_add_emod (c.W * y - c.f - 1) (c.P + c.W)
  have r0 := Int.emod_nonneg (c.W * y - c.f - 1) (show c.P + c.W ≠ 0 by omega)
  have r1 := Int.emod_lt_of_pos (c.W * y - c.f - 1) (show 0 < c.P + c.W by omega)
  generalize (c.W * y - c.f - 1) / (c.P + c.W) = q at *
  generalize (c.W * y - c.f - 1) % (c.P + c.W) = r at *
  split
  · have e3 : c.W * (y + 1) - c.f - 1 = (r + c.W) + (c.P + c.W) * q := by rw [Int.mul_add]; omega
    rw [e3, Int.add_mul_ediv_left _ _ (by omega), Int.ediv_eq_zero_of_lt (by omega) (by omega)]; omega
  · have e3 : c.W * (y + 1) - c.f - 1 = (r - c.P) + (c.P + c.W) * (q + 1) := by rw [Int.mul_add, Int.mul_add]; omega
    rw [e3, Int.add_mul_ediv_left _ _ (by omega), Int.ediv_eq_zero_of_lt (by omega) (by omega)]; omega
theorem Par.Ok.turn_range (h : c.Ok) (n : Nat) (y : Int) (y0 : 0 ≤ y) (yn : y ≤ n + c.quo n) : -1 ≤ (c.W * y - c.f - 1) / (c.P + c.W) ∧ (c.W * y - c.f - 1) / (c.P + c.W) + 1 ≤ n ∧ ((c.W * y - c.f - 1) % (c.P + c.W) < c.P → 0 ≤ (c.W * y - c.f - 1) / (c.P + c.W)) := by
  have W1 := h.W1
  have P0 := h.P0
  have fW := h.fW
  have hy := Int.mul_nonneg (show 0 ≤ c.W by omega) y0
  have b := h.beg_turn n y
  have t0 : -1 ≤ (c.W * y - c.f - 1) / (c.P + c.W) := Int.le_ediv_of_mul_le (by omega) (by omega)
  refine ⟨t0, ?_, fun hr => ?_⟩
  · have : ¬ (n : Int) ≤ (c.W * y - c.f - 1) / (c.P + c.W) := fun q => absurd (b.mpr q) (by omega)
    omega
  · have e := Int.mul_ediv_add_emod (c.W * y - c.f - 1) (c.P + c.W)
    generalize (c.W * y - c.f - 1) / (c.P + c.W) = q at *
    generalize (c.W * y - c.f - 1) % (c.P + c.W) = r at *
    rcases Int.lt_or_le q 0 with hq | hq
    · obtain rfl : q = -1 := by omega
      omega
    · exact hq
theorem getD_range (f : Nat → Int) {n i : Nat} (h : i < n) : ((List.range n).map f).getD i 0 = f i := by
  rw [List.getD_eq_getElem?_getD, List.getElem?_map, List.getElem?_range h]; rfl
theorem Par.begs_len (c : Par) (n : Nat) : (c.begs n).length = n := by simp [Par.begs]
theorem Par.ends_len (c : Par) (n : Nat) : (c.ends n).length = n := by simp [Par.ends]
theorem Par.Ok.cut_begs (h : c.Ok) (n : Nat) (y : Int) (y0 : 0 ≤ y) (yn : y ≤ n + c.quo n) : ∃ cb : Nat, cb ≤ n ∧ (cb : Int) = (c.W * y - c.f - 1) / (c.P + c.W) + 1 ∧ ∀ i : Nat, i < (c.begs n).length → (((c.begs n).getD i 0 < y) ↔ i < cb) := by
  have ⟨t0, t1, _⟩ := h.turn_range n y y0 yn
  refine ⟨((c.W * y - c.f - 1) / (c.P + c.W) + 1).toNat, by omega, by omega, fun i hi => ?_⟩
  rw [c.begs_len] at hi
  rw [Par.begs, getD_range _ hi, h.beg_turn]
  omega
theorem Par.Ok.cut_ends (h : c.Ok) (n : Nat) (y : Int) (y0 : 0 ≤ y) (yn : y ≤ n + c.quo n) : ∃ ce : Nat, ce ≤ n ∧ ((ce : Int) = if (c.W * y - c.f - 1) % (c.P + c.W) < c.P then (c.W * y - c.f - 1) / (c.P + c.W) else (c.W * y - c.f - 1) / (c.P + c.W) + 1) ∧ ∀ i : Nat, i < (c.ends n).length → ((¬ y < (c.ends n).getD i 0) ↔ i < ce) := by
  have ⟨t0, t1, t2⟩ := h.turn_range n y y0 yn
  have tn := h.turn_next y
  refine ⟨((c.W * (y + 1) - c.f - 1) / (c.P + c.W)).toNat, ?_, ?_, fun i hi => ?_⟩
  · rw [tn]; split <;> omega
  · rw [tn]
    by_cases hr : (c.W * y - c.f - 1) % (c.P + c.W) < c.P
    · have := t2 hr; rw [if_pos hr]; omega
    · rw [if_neg hr]; omega
  · rw [c.ends_len] at hi
    rw [Par.ends, getD_range _ hi, h.end_turn]
    have : 0 ≤ (c.W * (y + 1) - c.f - 1) / (c.P + c.W) := by
      rw [tn]
      by_cases hr : (c.W * y - c.f - 1) % (c.P + c.W) < c.P
      · have := t2 hr; rw [if_pos hr]; omega
      · rw [if_neg hr]; omega
    omega
theorem Par.name_take (c : Par) {k n : Nat} (h : k ≤ n) : (c.name n).take k = c.name k := by
  unfold Par.name; rw [← List.map_take, List.take_range, Nat.min_eq_left h]
theorem Par.writ_pre (c : Par) {k : Nat} : ∀ {n : Nat}, k ≤ n → ∃ r, c.writ n = c.writ k ++ r
  | 0, h => ⟨[], by rw [Nat.le_zero.mp h, List.append_nil]⟩
  | n + 1, h => by
    rcases Nat.lt_or_ge n k with q | q
    · exact ⟨[], by rw [show k = n + 1 by omega, List.append_nil]⟩
    · obtain ⟨r, e⟩ := c.writ_pre (n := n) q
      exact ⟨r ++ dbl (c.sign n), by rw [c.writ_succ, e, List.append_assoc]⟩
theorem Par.Ok.scans (h : c.Ok) (n y : Nat) (yn : (y : Int) ≤ n + c.quo n) (cb ce : Nat) (hcb : cb ≤ n) (hce : ce ≤ n) (eb : (cb : Int) = (c.W * y - c.f - 1) / (c.P + c.W) + 1)
    (ee : (ce : Int) = if (c.W * y - c.f - 1) % (c.P + c.W) < c.P then (c.W * y - c.f - 1) / (c.P + c.W) else (c.W * y - c.f - 1) / (c.P + c.W) + 1) :
    scan ((c.writ n).take y) = (c.name n).take ce ∧ ∀ tl, (tl = [120] ∨ tl = [32, 120]) → scan ((c.writ n).take y ++ 34 :: tl) = if (c.W * y - c.f - 1) % (c.P + c.W) < c.P then (c.name n).take cb ++ tl else (c.name n).take ce := by
  have tn := h.turn_next y
  by_cases hr : (c.W * (y : Int) - c.f - 1) % (c.P + c.W) < c.P
  · rw [if_pos hr] at ee tn
    have b := (h.beg_turn ce y).mpr (by omega)
    have e := h.end_turn ce y
    have e2 : (y : Int) < (ce : Int) + 1 + c.quo (ce + 1) := by
      refine Decidable.byContradiction fun q => ?_
      have := e.mp q; omega
    have s := h.step ce
    have hm : c.mark ce = true := by
      cases hm : c.mark ce with
      | true => rfl
      | false => have := (s.2 hm).2; omega
    have hq := (s.1 hm).2
    have hl := h.writ_len ce
    obtain ⟨r, er⟩ := c.writ_pre (k := ce + 1) (n := n) (by omega)
    have et : (c.writ n).take y = c.writ ce ++ [34] := by
      rw [er, c.writ_succ, Par.sign, if_pos hm, dbl, if_pos rfl, List.append_assoc, List.take_append, List.take_of_length_le (by omega), show y - (c.writ ce).length = 1 by omega]
      rfl
    have ecb : cb = ce + 1 := by omega
    rw [et]
    refine ⟨?_, fun tl htl => ?_⟩
    · rw [Par.writ, scan_dbl, scan_end, List.append_nil, c.name_take hce]
    · rw [if_pos hr, ecb, c.name_take (by omega), c.name_succ, Par.sign, if_pos hm, List.append_assoc, Par.writ, scan_dbl, List.append_assoc]
      congr 1
      show scan (34 :: 34 :: tl) = 34 :: tl
      rw [scan_two]
      rcases htl with rfl | rfl <;> decide
  · rw [if_neg hr] at ee tn
    have ecb : cb = ce := by omega
    have b : ¬ (ce : Int) + c.quo ce < y := fun q => absurd ((h.beg_turn ce y).mp q) (by omega)
    have b2 : (ce : Int) + c.quo ce ≤ y := by
      cases hk : ce with
      | zero => rw [h.zero.2]; omega
      | succ k =>
        have := (h.end_turn k y).mpr (by omega)
        omega
    have hl := h.writ_len ce
    obtain ⟨r, er⟩ := c.writ_pre (k := ce) (n := n) hce
    have et : (c.writ n).take y = c.writ ce := by
      rw [er, List.take_append, List.take_of_length_le (by omega), show y - (c.writ ce).length = 0 by omega, List.take_zero, List.append_nil]
    rw [et]
    refine ⟨?_, fun tl htl => ?_⟩
    · have := scan_dbl [] (c.name ce)
      rw [List.append_nil] at this
      rw [Par.writ, this, c.name_take hce]; simp [scan]
    · rw [if_neg hr, Par.writ, scan_dbl, c.name_take hce]
      rcases htl with rfl | rfl
      · rw [scan_one (by decide), List.append_nil]
      · rw [scan_one (by decide), List.append_nil]
end Mine
end -- P3
section -- T6
open PySem PySem.W PySem.Calls PyProof.Rows
set_option Elab.async false
set_option maxRecDepth 100000
set_option maxHeartbeats 1000000
namespace Mine
theorem Segs.more {a b rest own : List (Addr × Obj)} {wr : List Addr} (h : Segs a b rest) (ho : ∀ p ∈ own, p.1 ∈ wr) (hl : ∀ p ∈ a ++ (b ++ rest), p.1 ∉ wr) : Segs a b (rest ++ own) where
  s62 := h.s62
  s69 := h.s69
  a62 := fun r hr q hq => by
    rcases List.mem_append.mp hq with hq | hq
    · exact h.a62 r hr q (List.mem_append_left _ hq)
    · rcases List.mem_append.mp hq with hq | hq
      · exact h.a62 r hr q (List.mem_append_right _ hq)
      · intro e; exact hl r (List.mem_append_left _ hr) (e ▸ ho q hq)
  a69 := fun r hr q hq => by
    rcases List.mem_append.mp hq with hq | hq
    · exact h.a69 r hr q hq
    · intro e; exact hl r (List.mem_append_right _ (List.mem_append_left _ hr)) (e ▸ ho q hq)
theorem Segs.less {a b rest own : List (Addr × Obj)} (h : Segs a b (rest ++ own)) : Segs a b rest where
  s62 := h.s62
  s69 := h.s69
  a62 := fun r hr q hq => h.a62 r hr q (by
    rcases List.mem_append.mp hq with hq | hq
    · exact List.mem_append_left _ hq
    · exact List.mem_append_right _ (List.mem_append_left _ hq))
  a69 := fun r hr q hq => h.a69 r hr q (List.mem_append_left _ hq)
section
local macro_rules | `(tactic| walk_at "exec For Name Call cons nil") => `(tactic| refine Stop.mk ?_)
local macro_rules | `(tactic| walk_at "pyIter ref") => `(tactic| refine Stop.mk ?_)
theorem clear_21 : True := by
  first
  | (row_walk; done)
  | trivial
theorem places (w : World) (p : Program) (loose : List Str) (mean : ExcName → Option Value) (mg mb : Str → Option Value)
  {oc0 : Value} {od0 : Option Addr} {osl0 : Array (Option Value)} {nm0 q0 : Str} {ps0 : Arguments} {s0 s1 s2 s3 s4 s5 s6 s7 s8 s9 s10 s11 s12 s13 s14 s15 : Stmt} {rs : List Stmt} {sc : Scope} {dV0 kV0 doc0 pm0 : Value} {an0 : Option Addr} {cdv0 ct0 : Value}
  (ho : (pre.heap_1 w.params).lookup 143 = some ⟨oc0, od0, .func (fnOf nm0 q0 ps0 (s0 :: s1 :: s2 :: s3 :: s4 :: s5 :: s6 :: s7 :: s8 :: s9 :: s10 :: s11 :: s12 :: s13 :: s14 :: s15 :: rs) sc dV0 kV0 doc0 pm0 an0 cdv0 ct0), osl0⟩)
  (rs' : List Stmt) (h₀ : Heap) (L : Addr) (m : Str → Option Value) (s : Shared) (Q : Flow → Shared → Prop)
  (c : Par) (hc : c.Ok) (hW : Hide (c.W ≤ 10 ^ 30)) (n : Nat) (hn : n ≤ 10) (lo hi : Int) (l0 : 0 ≤ lo) (l1 : lo ≤ hi) (l2 : hi ≤ n) (tW tP tf tn tl th ta tb : Tok) (o4 o5 o6 o8 : Obj) (lb le lm ll D lk : Addr) (bv ev : List Value) (nb ne : Nat) (seg62 seg69 rest : List (Addr × Obj))
  (B : Below callerA h₀ [] h₀) (F : Fr h₀ L s.heap m) (X : (pre.heap_1 w.params).In h₀) (N : News h₀ L s.heap (seg62 ++ (seg69 ++ rest)))
  (h4 : (L + 1 + 1 + 1 + 1, o4) ∈ rest) (h5 : (L + 1 + 1 + 1 + 1 + 1, o5) ∈ rest) (h6 : (L + 1 + 1 + 1 + 1 + 1 + 1, o6) ∈ rest) (h8 : (L + 1 + 1 + 1 + 1 + 1 + 1 + 1 + 1, o8) ∈ rest) (hlb : (lb, listOf bv.toArray nb) ∈ rest) (hle : (le, listOf ev.toArray ne) ∈ rest)
  (C62 : CodeHd h₀ 66 62) (C69 : CodeHd h₀ 73 69) (C140 : CodeHd h₀ 142 140) (hS : Segs seg62 seg69 rest) (ib : IntsAre bv (c.begs n)) (ie : IntsAre ev (c.ends n))
  (T : Top p loose mean mg mb h₀)
  (d4 : o4.data = .cell (some (.ref lb))) (d5 : o5.data = .cell (some (.int c.f tf))) (d6 : o6.data = .cell (some (.int c.P tP))) (d8 : o8.data = .cell (some (.int c.W tW)))
  (m1 : m "count" = some (.int (n : Int) tn)) (m2 : m "ends" = some (.ref le)) (m3 : m "marks" = some (.ref lm)) (m4 : m "left" = some (.ref ll)) (m5 : m "name" = some (.str ⟨(c.name n).toArray⟩ ta)) (m6 : m "written" = some (.str ⟨(c.writ n).toArray⟩ tb)) (m7 : m "cells" = some (.ref D)) (m8 : m "low" = some (.int lo tl)) (m9 : m "high" = some (.int hi th)) (m10 : m "kept" = some (.ref lk))
  (hret : ∀ (seg62' seg69' : List (Addr × Obj)) (h' : Heap) (tk : Nat) (m' : Str → Option Value), Segs seg62' seg69' rest → Fr h₀ L h' m' → m' "count" = some (.int (n : Int) tn) → m' "ends" = some (.ref le) → m' "marks" = some (.ref lm) → m' "left" = some (.ref ll) → m' "written" = some (.str ⟨(c.writ n).toArray⟩ tb) → m' "cells" = some (.ref D) → m' "kept" = some (.ref lk) → News h₀ L h' (seg62' ++ (seg69' ++ rest)) →
    wpAny (model PySem.Challenge.rw_ta0044_01.row.prog w) (callerA.deeper (envOfC nm0 sc L 143 (.ref 142))) (execs rs' (envOfC nm0 sc L 143 (.ref 142))) Q (fun _ _ => False) { s with heap := h', toks := tk }) :
  wpAny (model PySem.Challenge.rw_ta0044_01.row.prog w) (callerA.deeper (envOfC nm0 sc L 143 (.ref 142))) (execs (s15 :: rs') (envOfC nm0 sc L 143 (.ref 142))) Q (fun _ _ => False) s := by
  have e_sc := congrArg (fun o => scopeOf o) ho
  conv at e_sc => lhs; whnf
  conv at e_sc => rhs; whnf
  have e_nm : Str.ofString "law" = nm0 := congrArg (fun o => nameOf o) ho
  have e_s15 := congrArg (fun o => stmtAt (bodyOf o) 15) ho
  conv at e_s15 => lhs; whnf
  conv at e_s15 => rhs; whnf
  clear ho
  subst e_sc
  subst e_nm
  subst e_s15
  have eM : kstB m [("count", .int (n : Int) tn), ("ends", .ref le), ("marks", .ref lm), ("left", .ref ll), ("name", .str ⟨(c.name n).toArray⟩ ta), ("written", .str ⟨(c.writ n).toArray⟩ tb), ("cells", .ref D), ("low", .int lo tl), ("high", .int hi th), ("kept", .ref lk)] = m := funext fun z => kstB_eq (by simp [m1, m2, m3, m4, m5, m6, m7, m8, m9, m10]) fun _ => rfl
  have F' : Fr h₀ L s.heap (kstB m [("count", .int (n : Int) tn), ("ends", .ref le), ("marks", .ref lm), ("left", .ref ll), ("name", .str ⟨(c.name n).toArray⟩ ta), ("written", .str ⟨(c.writ n).toArray⟩ tb), ("cells", .ref D), ("low", .int lo tl), ("high", .int hi th), ("kept", .ref lk)]) := by rw [eM]; exact F
  clear F
  have hwl := hc.writ_len n
  have hql := hc.quo_le n
  have zw : (⟨(c.writ n).toArray⟩ : Str).length ≤ 20 := by
    show (c.writ n).toArray.size ≤ 20
    rw [List.size_toArray]; omega
  have X0 := Hide.mk X
  revert X; k_fill; intro X
  (try k_fold)
  k_steps
  refine Stop.out ?_
  with_unfolding_all refine' For_invVF F' ?k1 ?k2 ?_
  case k1 => exact rfl
  case k2 => exact rfl
  (try dsimp only)
  k_steps
  rename IsRange _ _ _ _ _ _ _ _ => hr
  rename Fr _ _ _ _ => F2
  rename News _ _ _ _ => N2
  have zl : (⟨(c.writ n).toArray⟩ : Str).length = (c.writ n).length := List.size_toArray
  rw [zl, show (((c.writ n).length : Nat) : Int) + 1 = (((c.writ n).length + 1 : Nat) : Int) from rfl] at hr
  have hI : ∀ p ∈ seg62 ++ (seg69 ++ rest), p.1 ≠ _ := fun p hp => Nat.ne_of_lt (Heap.lt_size (N2 p hp).1)
  refine Stop.out (wpAny_pyIter_range hr ?hsm ?_)
  case hsm => exact small_one (by omega) (by omega) (by omega) (by omega)
  refine my_for (σ := List (Addr × Obj) × List (Addr × Obj)) (fun d => d.1 ++ (d.2 ++ rest))
    (fun _ => [("count", .int (n : Int) tn), ("ends", .ref le), ("marks", .ref lm), ("left", .ref ll), ("name", .str ⟨(c.name n).toArray⟩ ta), ("written", .str ⟨(c.writ n).toArray⟩ tb), ("cells", .ref D), ("low", .int lo tl), ("high", .int hi th), ("kept", .ref lk)]) ["value", "turn", "rest", "begun", "ended", "nearest", "front", "tail"]
    (fun _ d => Segs d.1 d.2 rest) (seg62, seg69) (LCg.range_walks rfl 0 ((c.writ n).length + 1)) ?hLf ?hwr ?hnw ?hst (F2.keeps fun _ _ e => Heap.get?_push_of_some _ e) (N2.grown fun _ _ e => Heap.get?_push_of_some _ e) ?hk hS ?turn ?done
  case hLf => exact fun q => Nat.ne_of_lt F2.ns.lt (List.mem_singleton.mp q)
  case hwr => exact all1 (next_is_new F2)
  case hnw => exact fun p hp q => hI p hp (List.mem_singleton.mp q)
  case hst => show IsRangeIter _ _ _ _ _; have e := range_n ((c.writ n).length + 1); rw [e]; simpa using Heap.get?_push_size _ rfl
  case hk => repeat (first | exact List.forall_mem_nil _ | refine List.forall_mem_cons.mpr ⟨rfl, ?_⟩)
  case done =>
    rintro d u h tk hSd F3 N3
    exact hret d.1 d.2 h tk _ hSd F3 (by rfl) (by rfl) (by rfl) (by rfl) (by rfl) (by rfl) (by rfl) N3
  case turn =>
    rintro d i v u h tk own hin ⟨tv, rfl⟩ hoff hof hown hSd hst F3 N3
    (try dsimp only at F3 N3)
    refine wpAny_opq fun Q' hQ => ?_
    simp only [Int.zero_add] at F3
    have N3' : News h₀ L h (d.1 ++ (d.2 ++ (rest ++ own))) := by rw [List.append_assoc, List.append_assoc] at N3; exact N3
    have hS' := hSd.more hof hoff
    refine place1 w p loose mean mg mb (ho := rfl) _ h₀ L _ _ _ c hc hW i (by omega) tW tP tf _ o5 o6 o8 d.1 d.2 (rest ++ own) B F3 X0.out N3' (List.mem_append_left _ h5) (List.mem_append_left _ h6) (List.mem_append_left _ h8) C62 C69 C140 hS' T d5 d6 d8 (by rfl) ?_
    intro turn rst t1 t2 seg62' seg69' h1 tk1 mm1 e1 e2 hf1 F4 k1 k2 k3 N4
    obtain ⟨cb, hcb, eb, cutb⟩ := hc.cut_begs n (i : Int) (by omega) (by omega)
    obtain ⟨ce, hce, ee, cute⟩ := hc.cut_ends n (i : Int) (by omega) (by omega)
    have ⟨sc0, sc1⟩ := hc.scans n i (by omega) cb ce hcb hce eb ee
    rw [← e1] at eb
    rw [← e1, ← e2] at ee
    rw [← e2] at sc1
    have old {q : Addr × Obj} (hq : q ∈ rest) : q ∈ seg62' ++ (seg69' ++ (rest ++ own)) := List.mem_append_right _ (List.mem_append_right _ (List.mem_append_left _ hq))
    refine place2 w p loose mean mg mb (ho := rfl) _ h₀ L _ _ _ c.P turn rst n i cb ce hn lo hi tP t1 t2 tv tl th o4 o6 lb le bv ev nb ne (c.begs n) (c.ends n) _ B F4 X0.out N4 (old h4) (old h6) (old hlb) (old hle) ib ie (c.begs_len n) (c.ends_len n) T d4 d6 l0 l1 l2 hcb hce cutb cute eb ee ((k3 _ (by decide) (by decide) (by decide)).trans (by rfl)) k1 k2 ((k3 _ (by decide) (by decide) (by decide)).trans (by rfl)) ((k3 _ (by decide) (by decide) (by decide)).trans (by rfl)) ((k3 _ (by decide) (by decide) (by decide)).trans (by rfl)) ?_
    intro u1 u2 h2 tk2 mm2 F5 j1 j2 j3 N5
    have k3' : ∀ z : Str, z ≠ "value" → z ≠ "turn" → z ≠ "rest" → z ≠ "begun" → z ≠ "ended" → mm2 z = _ := fun z a1 a2 a3 a4 a5 => (j3 z a4 a5).trans (k3 z a1 a2 a3)
    refine place3 w p loose mean mg mb (ho := rfl) _ h₀ L _ _ _ n i cb ce hn lo hi u1 u2 tv tl th o4 lb le bv ev nb ne (c.begs n) (c.ends n) _ B F5 X0.out N5 (old h4) (old hlb) (old hle) ib ie (c.begs_len n) (c.ends_len n) T d4 l0 l1 l2 hcb hce cutb cute ((k3' _ (by decide) (by decide) (by decide) (by decide) (by decide)).trans (by rfl)) j1 j2 ((k3' _ (by decide) (by decide) (by decide) (by decide) (by decide)).trans (by rfl)) ((k3' _ (by decide) (by decide) (by decide) (by decide) (by decide)).trans (by rfl)) ((k3' _ (by decide) (by decide) (by decide) (by decide) (by decide)).trans (by rfl)) ?_
    intro h3 tk3 mm3 F6 i3 N6
    have k3'' : ∀ z : Str, z ≠ "value" → z ≠ "turn" → z ≠ "rest" → z ≠ "begun" → z ≠ "ended" → z ≠ "nearest" → mm3 z = _ := fun z a1 a2 a3 a4 a5 a6 => (i3 z a6).trans (k3' z a1 a2 a3 a4 a5)
    refine place4 w p loose mean mg mb (ho := rfl) _ h₀ L _ _ _ (c.writ n) (c.name n) i ce (by omega) (by rw [c.name_len]; omega) (by omega) (by rw [c.name_len]; omega) sc0 tb ta tv u2 _ B F6 X0.out N6 T ((k3'' _ (by decide) (by decide) (by decide) (by decide) (by decide) (by decide)).trans (by rfl)) ((i3 _ (by decide)).trans j2) ((k3'' _ (by decide) (by decide) (by decide) (by decide) (by decide) (by decide)).trans (by rfl)) ((k3'' _ (by decide) (by decide) (by decide) (by decide) (by decide) (by decide)).trans (by rfl)) ?_
    intro u3 h4' tk4 mm4 F7 g1 g3 N7
    refine place5 w p loose mean mg mb (ho := rfl) _ h₀ L _ _ _ ((c.writ n).take i) (c.name n) cb ce rst c.P (by rw [List.length_take]; omega) (by rw [c.name_len]; omega) (by rw [c.name_len]; omega) (by rw [c.name_len]; omega) (sc1 _ (.inl rfl)) (sc1 _ (.inr rfl)) u1 u2 u3 ta t2 tP o6 _ B F7 X0.out N7 T (old h6) d6 ((g3 _ (by decide)).trans ((i3 _ (by decide)).trans j1)) ((g3 _ (by decide)).trans ((i3 _ (by decide)).trans j2)) g1 ((g3 _ (by decide)).trans ((k3'' _ (by decide) (by decide) (by decide) (by decide) (by decide) (by decide)).trans (by rfl))) ((g3 _ (by decide)).trans ((i3 _ (by decide)).trans ((j3 _ (by decide) (by decide)).trans k2))) ?_
    intro h5' tk5 mm5 F8 f3 N8
    have fin : ∀ z : Str, z ≠ "value" → z ≠ "turn" → z ≠ "rest" → z ≠ "begun" → z ≠ "ended" → z ≠ "nearest" → z ≠ "front" → z ≠ "tail" → mm5 z = _ := fun z a1 a2 a3 a4 a5 a6 a7 a8 => (f3 z a8).trans ((g3 z a7).trans (k3'' z a1 a2 a3 a4 a5 a6))
    refine wpAny_execs_nil ?_
    refine hQ _ _ ?_
    refine MfPost.next (seg62', seg69') F8 N8 ?c1 ?c2 ?c3 ?c4 ?c5 hf1.toSegs.less
    case c1 =>
      intro q hq
      rcases List.mem_append.mp hq with hq | hq
      · exact List.mem_append_left _ hq
      · rcases List.mem_append.mp hq with hq | hq
        · exact List.mem_append_right _ (List.mem_append_left _ hq)
        · exact old hq
    case c2 => exact fun q hq => List.mem_append_right _ (List.mem_append_right _ (List.mem_append_right _ hq))
    case c3 =>
      intro q hq hw
      have hq0 : q ∈ seg62' ++ (seg69' ++ rest) := hq
      have hw1 := List.mem_singleton.mp hw
      have hIo := hown _ (.head _) (next_is_new F2) _ hst
      have hIm := List.mem_append_right rest hIo
      rcases List.mem_append.mp hq with hq | hq
      · exact hf1.a62 q hq _ (List.mem_append_right _ hIm) hw1.symm
      · rcases List.mem_append.mp hq with hq | hq
        · exact hf1.a69 q hq _ hIm hw1.symm
        · exact hoff q (List.mem_append_right _ (List.mem_append_right _ hq)) hw
    case c4 =>
      have names : ∀ z : Str, z ∈ (["count", "ends", "marks", "left", "name", "written", "cells", "low", "high", "kept"] : List Str) → mm5 z = _ := fun z hz => fin z (by rintro rfl; revert hz; decide) (by rintro rfl; revert hz; decide) (by rintro rfl; revert hz; decide) (by rintro rfl; revert hz; decide) (by rintro rfl; revert hz; decide) (by rintro rfl; revert hz; decide) (by rintro rfl; revert hz; decide) (by rintro rfl; revert hz; decide)
      refine List.forall_mem_cons.mpr ⟨(names (Str.ofString "count") (by decide)).trans (by rfl), ?_⟩
      refine List.forall_mem_cons.mpr ⟨(names (Str.ofString "ends") (by decide)).trans (by rfl), ?_⟩
      refine List.forall_mem_cons.mpr ⟨(names (Str.ofString "marks") (by decide)).trans (by rfl), ?_⟩
      refine List.forall_mem_cons.mpr ⟨(names (Str.ofString "left") (by decide)).trans (by rfl), ?_⟩
      refine List.forall_mem_cons.mpr ⟨(names (Str.ofString "name") (by decide)).trans (by rfl), ?_⟩
      refine List.forall_mem_cons.mpr ⟨(names (Str.ofString "written") (by decide)).trans (by rfl), ?_⟩
      refine List.forall_mem_cons.mpr ⟨(names (Str.ofString "cells") (by decide)).trans (by rfl), ?_⟩
      refine List.forall_mem_cons.mpr ⟨(names (Str.ofString "low") (by decide)).trans (by rfl), ?_⟩
      refine List.forall_mem_cons.mpr ⟨(names (Str.ofString "high") (by decide)).trans (by rfl), ?_⟩
      refine List.forall_mem_cons.mpr ⟨(names (Str.ofString "kept") (by decide)).trans (by rfl), ?_⟩
      exact List.forall_mem_nil _
    case c5 =>
      intro z a0 a1 a2
      have a3 : ∀ y ∈ (["value", "turn", "rest", "begun", "ended", "nearest", "front", "tail"] : List Str), z ≠ y := fun y hy e => by
        rw [← e] at hy
        exact absurd (List.contains_iff_mem.mpr hy) (by rw [a2]; decide)
      exact (fin z (a3 _ (by decide)) (a3 _ (by decide)) (a3 _ (by decide)) (a3 _ (by decide)) (a3 _ (by decide)) (a3 _ (by decide)) (a3 _ (by decide)) (a3 _ (by decide))).trans ((if_neg a0).trans (kst_same (same_names (by rfl) a1) a2))
end
end Mine
end -- T6
section -- U1
open PySem PySem.W PySem.Calls PyProof.Rows
set_option Elab.async false
set_option maxRecDepth 100000
set_option maxHeartbeats 1000000
namespace Mine
inductive PairsAt (led : List (Addr × Obj)) : List Value → List (Int × Int) → Prop
  | nil : PairsAt led [] []
  | cons {a x y t u vs ps} : (a, tupObj [.int x t, .int y u]) ∈ led → PairsAt led vs ps → PairsAt led (.ref a :: vs) ((x, y) :: ps)
theorem PairsAt.more {a b : List (Addr × Obj)} (h : ∀ p ∈ a, p ∈ b) {vs : List Value} {ps : List (Int × Int)} (x : PairsAt a vs ps) : PairsAt b vs ps := by
  induction x with
  | nil => exact .nil
  | cons h1 _ ih => exact .cons (h _ h1) ih
theorem PairsAt.snoc {led : List (Addr × Obj)} {d : Addr} {x y : Int} {t u : Tok} {vs : List Value} {ps : List (Int × Int)} (hd : (d, tupObj [.int x t, .int y u]) ∈ led) (h : PairsAt led vs ps) : PairsAt led (vs ++ [.ref d]) (ps ++ [(x, y)]) := by
  induction h with
  | nil => exact .cons hd .nil
  | cons h1 _ ih => exact .cons h1 ih
def pairD (p : Int × Int) : PyData := .tuple [.int p.1, .int p.2]
theorem pairs_reads {h₀ h : Heap} {L : Addr} {led : List (Addr × Obj)} (N : News h₀ L h led) {vs : List Value} {ps : List (Int × Int)} (x : PairsAt led vs ps) : ReadsAll h vs (ps.map pairD) [] := by
  induction x with
  | nil => exact .nil
  | cons h1 _ ih => exact ReadsAll.cons (as := []) (reads_tuple_at (N _ h1).1 rfl rfl (.cons (as := []) (.int _ _) (.cons (as := []) (.int _ _) .nil))) ih
theorem pairs_lay : ∀ ps : List (Int × Int), PyData.canLayAll0 (ps.map pairD) = true
  | [] => rfl
  | _ :: r => by simp [PyData.canLayAll0, PyData.canLay0, pairD, pairs_lay r]
theorem pairs_depth : ∀ ps : List (Int × Int), PyData.depthAll (ps.map pairD) ≤ 1
  | [] => by simp [PyData.depthAll]
  | _ :: r => by have := pairs_depth r; simp [PyData.depthAll, PyData.depth, pairD]; omega
theorem pairs_shaped (ps : List (Int × Int)) : SeqAt.shaped (.list (ps.map pairD)) = true := by
  have := pairs_depth ps
  simp [SeqAt.shaped, PyData.canLay0, PyData.depth, pairs_lay]; omega
theorem pairs_eqv : ∀ ps : List (Int × Int), PyData.eqvAll (ps.map pairD) (ps.map pairD) = true
  | [] => by simp [PyData.eqvAll]
  | _ :: r => by simp [PyData.eqvAll, PyData.eqv, pairD, pairs_eqv r]
theorem Off3.segs {I C D : Addr} {oI oC oD : Obj} {a b l : List (Addr × Obj)} (hS : Segs a b ((I, oI) :: (C, oC) :: (D, oD) :: l)) (off : LCg.Off3 I C D l) : LCg.Off3 I C D (a ++ (b ++ l)) := by
  refine LCg.Off3.of fun p hp => ?_
  rcases List.mem_append.mp hp with hp | hp
  · have h1 := fun q hq => (hS.a62 p hp q (List.mem_append_right _ hq)).symm
    exact ⟨h1 _ (.head _), h1 _ (.tail _ (.head _)), h1 _ (.tail _ (.tail _ (.head _)))⟩
  · rcases List.mem_append.mp hp with hp | hp
    · have h1 := fun q hq => (hS.a69 p hp q hq).symm
      exact ⟨h1 _ (.head _), h1 _ (.tail _ (.head _)), h1 _ (.tail _ (.tail _ (.head _)))⟩
    · exact off.mem p hp
theorem Segs.sub {a b r r' : List (Addr × Obj)} (h : Segs a b r) (hs : ∀ p ∈ r', p ∈ r) : Segs a b r' where
  s62 := h.s62
  s69 := h.s69
  a62 := fun p hp q hq => h.a62 p hp q (by
    rcases List.mem_append.mp hq with hq | hq
    · exact List.mem_append_left _ hq
    · exact List.mem_append_right _ (hs q hq))
  a69 := fun p hp q hq => h.a69 p hp q (hs q hq)
theorem Segs.cons {a b r : List (Addr × Obj)} {q : Addr × Obj} (h : Segs a b r) (hq : ∀ p ∈ a ++ (b ++ r), q.1 ≠ p.1) : Segs a b (q :: r) where
  s62 := h.s62
  s69 := h.s69
  a62 := fun p hp x hx => by
    rcases List.mem_append.mp hx with hx | hx
    · exact h.a62 p hp x (List.mem_append_left _ hx)
    · rcases List.mem_cons.mp hx with rfl | hx
      · exact hq p (List.mem_append_left _ hp)
      · exact h.a62 p hp x (List.mem_append_right _ hx)
  a69 := fun p hp x hx => by
    rcases List.mem_cons.mp hx with rfl | hx
    · exact hq p (List.mem_append_right _ (List.mem_append_left _ hp))
    · exact h.a69 p hp x hx
/-- what a comprehension's own three do to the segments -/
theorem Segs.own3 {I C D : Addr} {oI oC oD : Obj} {a b r : List (Addr × Obj)} (h : Segs a b r) (off : LCg.Off3 I C D (a ++ (b ++ r))) : Segs a b ((I, oI) :: (C, oC) :: (D, oD) :: r) where
  s62 := h.s62
  s69 := h.s69
  a62 := fun p hp x hx => by
    have hp3 := off.mem p (List.mem_append_left _ hp)
    rcases List.mem_append.mp hx with hx | hx
    · exact h.a62 p hp x (List.mem_append_left _ hx)
    · rcases List.mem_cons.mp hx with rfl | hx
      · exact hp3.1.symm
      · rcases List.mem_cons.mp hx with rfl | hx
        · exact hp3.2.1.symm
        · rcases List.mem_cons.mp hx with rfl | hx
          · exact hp3.2.2.symm
          · exact h.a62 p hp x (List.mem_append_right _ hx)
  a69 := fun p hp x hx => by
    have hp3 := off.mem p (List.mem_append_right _ (List.mem_append_left _ hp))
    rcases List.mem_cons.mp hx with rfl | hx
    · exact hp3.1.symm
    · rcases List.mem_cons.mp hx with rfl | hx
      · exact hp3.2.1.symm
      · rcases List.mem_cons.mp hx with rfl | hx
        · exact hp3.2.2.symm
        · exact h.a69 p hp x hx
theorem own3_mem {i c d : Addr × Obj} {a b r : List (Addr × Obj)} : ∀ p ∈ a ++ (b ++ (i :: c :: d :: r)), p ∈ i :: c :: d :: (a ++ (b ++ r)) := by
  intro p hp
  simp only [List.mem_append, List.mem_cons] at hp ⊢
  rcases hp with h | h | h | h | h | h <;> simp [h]
theorem own3_back {t i c d : Addr × Obj} {a b r : List (Addr × Obj)} : ∀ p ∈ i :: c :: d :: (a ++ (b ++ (t :: r))), p ∈ t :: (a ++ (b ++ (i :: c :: d :: r))) := by
  intro p hp
  simp only [List.mem_append, List.mem_cons] at hp ⊢
  rcases hp with h | h | h | h | h | h | h <;> simp [h]
theorem range_snoc {α : Type} (f : Nat → α) (i : Nat) : (List.range (i + 1)).map f = (List.range i).map f ++ [f i] := by
  rw [List.range_succ, List.map_append]; rfl
theorem own3_off {t I C D : Addr} {ot oI oC oD : Obj} {a b l : List (Addr × Obj)} (hS : Segs a b ((I, oI) :: (C, oC) :: (D, oD) :: l)) (off : LCg.Off3 I C D l) (lt : ∀ q ∈ a ++ (b ++ ((I, oI) :: (C, oC) :: (D, oD) :: l)), q.1 < t) :
    LCg.Off3 I C D (a ++ (b ++ ((t, ot) :: l))) ∧ Segs a b ((t, ot) :: l) := by
  have h1 : Segs a b ((t, ot) :: (I, oI) :: (C, oC) :: (D, oD) :: l) := hS.cons fun q hq => (Nat.ne_of_lt (lt q hq)).symm
  have inn {q : Addr × Obj} (hq : q ∈ (I, oI) :: (C, oC) :: (D, oD) :: l) : q.1 < t := lt q (List.mem_append_right _ (List.mem_append_right _ hq))
  refine ⟨Off3.segs (oI := oI) (oC := oC) (oD := oD) (h1.sub ?_) ⟨⟨(Nat.ne_of_lt (inn (.head _))).symm, (Nat.ne_of_lt (inn (.tail _ (.head _)))).symm, (Nat.ne_of_lt (inn (.tail _ (.tail _ (.head _))))).symm⟩, off⟩, h1.sub ?_⟩
  · intro p hp
    simp only [List.mem_cons] at hp ⊢
    rcases hp with h | h | h | h | h <;> simp [h]
  · intro p hp
    simp only [List.mem_cons] at hp ⊢
    rcases hp with h | h <;> simp [h]
section
local macro_rules | `(tactic| walk_at "eval ListComp") => `(tactic| refine Stop.mk ?_)
local macro_rules | `(tactic| walk_at "CompSrc") => `(tactic| refine Stop.mk ?_)
local macro_rules | `(tactic| walk_at "call ref") => `(tactic| refine Stop.mk ?_)
local macro_rules | `(tactic| walk_at "compareOp NotEq ref ref") => `(tactic| refine Stop.mk ?_)
theorem clear_22 : True := by
  first
  | (row_walk; done)
  | trivial
theorem cmp16 (w : World) (p : Program) (loose : List Str) (mean : ExcName → Option Value) (mg mb : Str → Option Value)
  {oc0 : Value} {od0 : Option Addr} {osl0 : Array (Option Value)} {nm0 q0 : Str} {ps0 : Arguments} {s0 s1 s2 s3 s4 s5 s6 s7 s8 s9 s10 s11 s12 s13 s14 s15 s16 : Stmt} {rs : List Stmt} {sc : Scope} {dV0 kV0 doc0 pm0 : Value} {an0 : Option Addr} {cdv0 ct0 : Value}
  (ho : (pre.heap_1 w.params).lookup 143 = some ⟨oc0, od0, .func (fnOf nm0 q0 ps0 (s0 :: s1 :: s2 :: s3 :: s4 :: s5 :: s6 :: s7 :: s8 :: s9 :: s10 :: s11 :: s12 :: s13 :: s14 :: s15 :: s16 :: rs) sc dV0 kV0 doc0 pm0 an0 cdv0 ct0), osl0⟩)
  (rs' : List Stmt) (h₀ : Heap) (L : Addr) (m : Str → Option Value) (s : Shared) (Q : Flow → Shared → Prop)
  (c : Par) (hc : c.Ok) (hW : Hide (c.W ≤ 10 ^ 30)) (n : Nat) (hn : n ≤ 10) (tW tP tf tn : Tok) (o3 o4 o5 o6 o8 : Obj) (lb lh : Addr) (bv hv : List Value) (nb nh : Nat) (seg62 seg69 rest : List (Addr × Obj))
  (B : Below callerA h₀ [] h₀) (F : Fr h₀ L s.heap m) (X : (pre.heap_1 w.params).In h₀) (N : News h₀ L s.heap (seg62 ++ (seg69 ++ rest)))
  (h3 : (L + 1 + 1 + 1, o3) ∈ rest) (h4 : (L + 1 + 1 + 1 + 1, o4) ∈ rest) (h5 : (L + 1 + 1 + 1 + 1 + 1, o5) ∈ rest) (h6 : (L + 1 + 1 + 1 + 1 + 1 + 1, o6) ∈ rest) (h8 : (L + 1 + 1 + 1 + 1 + 1 + 1 + 1 + 1, o8) ∈ rest) (hlb : (lb, listOf bv.toArray nb) ∈ rest) (hlh : (lh, listOf hv.toArray nh) ∈ rest)
  (C62 : CodeHd h₀ 66 62) (C69 : CodeHd h₀ 73 69) (C140 : CodeHd h₀ 142 140) (hS : Segs seg62 seg69 rest) (ib : IntsAre bv (c.begs n)) (ih : IntsAre hv (c.held n))
  (T : Top p loose mean mg mb h₀)
  (d3 : o3.data = .cell (some (.ref lh))) (d4 : o4.data = .cell (some (.ref lb))) (d5 : o5.data = .cell (some (.int c.f tf))) (d6 : o6.data = .cell (some (.int c.P tP))) (d8 : o8.data = .cell (some (.int c.W tW)))
  (m1 : m "count" = some (.int (n : Int) tn))
  (hret : ∀ (seg62' seg69' : List (Addr × Obj)) (h' : Heap) (tk : Nat), Segs seg62' seg69' rest → Fr h₀ L h' m → News h₀ L h' (seg62' ++ (seg69' ++ rest)) →
    wpAny (model PySem.Challenge.rw_ta0044_01.row.prog w) (callerA.deeper (envOfC nm0 sc L 143 (.ref 142))) (execs rs' (envOfC nm0 sc L 143 (.ref 142))) Q (fun _ _ => False) { s with heap := h', toks := tk }) :
  wpAny (model PySem.Challenge.rw_ta0044_01.row.prog w) (callerA.deeper (envOfC nm0 sc L 143 (.ref 142))) (execs (s16 :: rs') (envOfC nm0 sc L 143 (.ref 142))) Q (fun _ _ => False) s := by
  have e_sc := congrArg (fun o => scopeOf o) ho
  conv at e_sc => lhs; whnf
  conv at e_sc => rhs; whnf
  have e_s16 := congrArg (fun o => stmtAt (bodyOf o) 16) ho
  conv at e_s16 => lhs; whnf
  conv at e_s16 => rhs; whnf
  clear ho
  subst e_sc
  subst e_s16
  have eM : kstB m [("count", .int (n : Int) tn)] = m := funext fun z => kstB_eq (by simp [m1]) fun _ => rfl
  have F' : Fr h₀ L s.heap (kstB m [("count", .int (n : Int) tn)]) := by rw [eM]; exact F
  clear F
  have X0 := Hide.mk X
  have W1 := hc.W1
  have P0 := hc.P0
  have PW := hc.PW
  have f0 := hc.f0
  have fW := hc.fW
  have hWb : Builtin.Int.intBits c.W < 900 := bits_small (by omega) (by have := hW.out; omega)
  revert X; k_fill; intro X
  (try k_fold)
  k_steps
  refine Stop.out ?_
  refine LCg.ListComp_U (F₀ := F') (by with_unfolding_all rfl) (by decide) (by rfl) (by decide) (by rfl) ?_
  (try dsimp only)
  k_steps
  refine Stop.out ?_
  rename IsRange _ _ _ _ _ _ _ _ => hr
  rename Fr _ _ _ _ => F2
  rename News _ _ _ _ => N2
  refine LCg.CompSrc.range (n := n) (by rfl) F2 N2 hr (small_one (by omega) (by omega) (by omega) (by omega)) (range_n n) (by rw [sizeLine_eq]; omega) ?_
  intro g
  refine comp_inv n (fun i ys news => ∃ seg62 seg69 tups, news = seg62 ++ (seg69 ++ (tups ++ rest)) ∧ Segs seg62 seg69 (tups ++ rest) ∧ PairsAt tups ys ((List.range i).map fun k => (c.quo k, c.pail k))) ?turn ?done n 0 [] _ (by omega) ⟨seg62, seg69, [], rfl, hS, .nil⟩
  case turn =>
    clear F2 N2
    rintro i ys news v I oI C oC D m₂ h tk E' hi ⟨sa, sb, tups, rfl, hsg, hpa⟩ ⟨t, rfl⟩ hC hx F N off ne
    have inn {q : Addr × Obj} (hq : q ∈ rest) : q ∈ sa ++ (sb ++ (tups ++ rest)) := List.mem_append_right _ (List.mem_append_right _ (List.mem_append_right _ hq))
    have g5 := inn h5
    have g6 := inn h6
    have g8 := inn h8
    have off0 := Hide.mk off
    simp only [Int.zero_add] at hx
    refine wpAny_opq fun Q' hQ => ?_
    k_steps
    rename Fr _ _ _ _ => F3
    rename News _ _ _ _ => N3
    have pi0 : 0 ≤ c.P * (i : Int) := Int.mul_nonneg P0 (by omega)
    have pi1 : c.P * (i : Int) ≤ c.W * (i : Int) := Int.mul_le_mul_of_nonneg_right PW (by omega)
    have pi2 : c.W * (i : Int) ≤ c.W * 10 := Int.mul_le_mul_of_nonneg_left (by omega) (by omega)
    refine Stop.out ?_
    have F3 : Fr h₀ L _ _ := F3
    have N3 : News h₀ L _ _ := News.sub N3 own3_mem
    refine idm1 w p loose mean mg mb lawDp 7 (some []) _ _ _ _ (cellsFrom (L + 1) _ []) [] callerA h₀ h₀ L _ _ _ _ sa sb ((I, oI) :: (C, oC) :: (D, LCg.lst ys) :: (tups ++ rest)) B F3 X0.out N3 T rfl C62 C69 ?hS3 _ _ _ _ (by omega) hWb (by omega) (by omega) (by decide) ?_
    case hS3 => exact hsg.own3 off0.out
    intro h' tk' t1 u1 u2 sa' sb' hf F5 N5 lt
    have offr : LCg.Off3 I C D (tups ++ rest) := LCg.Off3.of fun q hq => off0.out.mem q (List.mem_append_right _ (List.mem_append_right _ hq))
    have ⟨z1, z2⟩ := own3_off (ot := tupObj [.int ((c.P * (i : Int) + c.f) / c.W) u1, .int ((c.P * (i : Int) + c.f) % c.W) u2]) hf.toSegs offr lt
    refine hQ _ _ ?_
    refine LCg.CompEnd.intro F5 N5 (sa' ++ (sb' ++ ((t1, _) :: (tups ++ rest)))) own3_back z1 trivial ⟨sa', sb', (t1, _) :: tups, rfl, z2, ?_⟩
    rw [range_snoc]
    have e0 : c.P * (i : Int) + c.f = c.f + c.P * (i : Int) := Int.add_comm _ _
    refine PairsAt.snoc (t := u1) (u := u2) ?_ (hpa.more fun q hq => .tail _ hq)
    rw [Par.quo, Par.pail, ← e0]
    exact .head _
  case done =>
    rintro ys news ⟨sa, sb, tups, rfl, hsg, hpa⟩
    clear F2 N2
    have inn {q : Addr × Obj} (hq : q ∈ rest) : q ∈ sa ++ (sb ++ (tups ++ rest)) := List.mem_append_right _ (List.mem_append_right _ (List.mem_append_right _ hq))
    k_steps
    rename Fr _ _ _ _ => F3
    rename News _ _ _ _ => N3
    refine Stop.out ?_
    refine LCg.ListComp_U (F₀ := F3) (by with_unfolding_all rfl) (by decide) (by rfl) (by decide) (by rfl) ?_
    (try dsimp only)
    k_steps
    refine Stop.out ?_
    rename IsRange _ _ _ _ _ _ _ _ => hr2
    rename Fr _ _ _ _ => F4
    rename News _ _ _ _ => N4
    generalize hled : ((_, LCg.lst ys) :: (sa ++ (sb ++ (tups ++ rest))) : List (Addr × Obj)) = led at N4 ⊢
    refine LCg.CompSrc.range (n := n) (by rfl) F4 N4 hr2 (small_one (by omega) (by omega) (by omega) (by omega)) (range_n n) (by rw [sizeLine_eq]; omega) ?_
    intro g2
    refine comp_inv n (fun i ys2 news => ∃ tups2, news = tups2 ++ led ∧ PairsAt tups2 ys2 ((List.range i).map fun k => (c.quo k, c.pail k))) ?turn2 ?done2 n 0 [] _ (by omega) ⟨[], rfl, .nil⟩
    case turn2 =>
      clear F4 N4
      rintro i ys2 news v I oI C oC D m₂ h tk E' hi ⟨tups2, rfl, hpa2⟩ ⟨t, rfl⟩ hC hx F N off ne
      have inn2 {q : Addr × Obj} (hq : q ∈ rest) : q ∈ tups2 ++ led := List.mem_append_right _ (hled ▸ .tail _ (inn hq))
      have g3 := inn2 h3
      have g4 := inn2 h4
      have gb := inn2 hlb
      have gh := inn2 hlh
      have off0 := Hide.mk off
      simp only [Int.zero_add] at hx
      have zb : (c.begs n).length = n := c.begs_len n
      have zh : (c.held n).length = n := by rw [Par.held, List.length_map, List.length_range]
      refine wpAny_opq fun Q' hQ => ?_
      k_steps
      rename Fr _ _ _ _ => F9
      rename News _ _ _ _ => N9
      rename (@LT.lt Nat _ I _) ∧ _ => l9
      have eb : (c.begs n).getD ((i : Int).toNat) 0 - (i : Int) = c.quo i := by rw [Int.toNat_natCast, Par.begs, getD_range _ hi]; omega
      have eh : (c.held n).getD ((i : Int).toNat) 0 = c.pail i := by rw [Int.toNat_natCast, Par.held, getD_range _ hi]
      rw [eb, eh] at N9
      rename Addr => D9
      generalize hT : ({ cls := Value.type "tuple", data := Data.seq #[Value.int (c.quo i) _, Value.int (c.pail i) _] } : Obj) = oT at N9
      refine hQ _ _ ?_
      refine LCg.CompEnd.intro F9 N9 ((D9, oT) :: (tups2 ++ led)) ?sub ⟨⟨(Nat.ne_of_lt l9.1).symm, (Nat.ne_of_lt l9.2.1).symm, (Nat.ne_of_lt l9.2.2.1).symm⟩, off0.out⟩ trivial ⟨(D9, oT) :: tups2, rfl, ?_⟩
      case sub =>
        intro q hq
        simp only [List.mem_cons] at hq ⊢
        rcases hq with h | h | h | h | h <;> simp [h]
      rw [range_snoc]
      subst hT
      exact PairsAt.snoc (.head _) (hpa2.more fun q hq => .tail _ hq)
    case done2 =>
      rintro ys2 news ⟨tups2, rfl, hpa2⟩
      clear F4 N4
      k_steps
      rename Fr _ _ _ _ => F5
      rename News _ _ _ _ => N5
      refine Stop.out ?_
      have r1 : Reads _ (.ref _) (.list (((List.range n).map fun k => (c.quo k, c.pail k)).map pairD)) _ := reads_list_at (N5 _ (.tail _ (List.mem_append_right _ (by rw [← hled]; exact .head _)))).1 rfl rfl (pairs_reads N5 (hpa.more fun q hq => .tail _ (List.mem_append_right _ (by rw [← hled]; exact .tail _ (List.mem_append_right _ (List.mem_append_right _ (List.mem_append_left _ hq)))))))
      have r2 : Reads _ (.ref _) (.list (((List.range n).map fun k => (c.quo k, c.pail k)).map pairD)) _ := reads_list_at (N5 _ (.head _)).1 rfl rfl (pairs_reads N5 (hpa2.more fun q hq => .tail _ (List.mem_append_left _ hq)))
      refine ne_dataH r1 r2 (pairs_shaped _) (pairs_shaped _) (by ke_room) ?_
      rw [PyData.eqv, pairs_eqv]
      (try dsimp only)
      k_steps
      rename Fr _ _ _ _ => F9
      rename News _ _ _ _ => N9
      rw [eM] at F9
      have hsub : ∀ q ∈ sa ++ (sb ++ rest), q ∈ sa ++ (sb ++ (tups ++ rest)) := by
        intro q hq
        simp only [List.mem_append] at hq ⊢
        rcases hq with h | h | h <;> simp [h]
      refine hret sa sb _ _ (hsg.sub fun q hq => List.mem_append_right _ hq) F9 (News.sub N9 fun q hq => .tail _ (List.mem_append_right _ (by rw [← hled]; exact .tail _ (hsub q hq))))
end
end Mine
end -- U1
section -- U2
open PySem PySem.W PySem.Calls PyProof.Rows
set_option Elab.async false
set_option maxRecDepth 100000
set_option maxHeartbeats 1000000
namespace Mine
/-- a list of two-number lists -/
inductive RowsAt (led : List (Addr × Obj)) : List Value → List (Int × Int) → Prop
  | nil : RowsAt led [] []
  | cons {a x y t u k vs ps} : (a, listOf #[.int x t, .int y u] k) ∈ led → RowsAt led vs ps → RowsAt led (.ref a :: vs) ((x, y) :: ps)
theorem RowsAt.more {a b : List (Addr × Obj)} (h : ∀ p ∈ a, p ∈ b) {vs : List Value} {ps : List (Int × Int)} (x : RowsAt a vs ps) : RowsAt b vs ps := by
  induction x with
  | nil => exact .nil
  | cons h1 _ ih => exact .cons (h _ h1) ih
theorem RowsAt.snoc {led : List (Addr × Obj)} {d : Addr} {x y : Int} {t u : Tok} {k : Nat} {vs : List Value} {ps : List (Int × Int)} (hd : (d, listOf #[.int x t, .int y u] k) ∈ led) (h : RowsAt led vs ps) : RowsAt led (vs ++ [.ref d]) (ps ++ [(x, y)]) := by
  induction h with
  | nil => exact .cons hd .nil
  | cons h1 _ ih => exact .cons h1 ih
theorem RowsAt.length {led : List (Addr × Obj)} {vs : List Value} {ps : List (Int × Int)} (x : RowsAt led vs ps) : vs.length = ps.length := by
  induction x with
  | nil => rfl
  | cons h1 _ ih => simp [ih]
theorem off1_mem {D : Addr} : ∀ {l : List (Addr × Obj)}, LCg.Off1 D l → ∀ p ∈ l, p.1 ≠ D
  | [], _, _, h => nomatch h
  | _ :: _, x, p, h => by
    rcases List.mem_cons.mp h with rfl | h
    · exact x.1
    · exact off1_mem x.2 p h
section
local macro_rules | `(tactic| walk_at "exec Assign cons ListComp") => `(tactic| refine Stop.mk ?_)
local macro_rules | `(tactic| walk_at "CompSrc") => `(tactic| refine Stop.mk ?_)
theorem clear_23 : True := by
  first
  | (row_walk; done)
  | trivial
theorem row17 (w : World) (p : Program) (loose : List Str) (mean : ExcName → Option Value) (mg mb : Str → Option Value)
  {oc0 : Value} {od0 : Option Addr} {osl0 : Array (Option Value)} {nm0 q0 : Str} {ps0 : Arguments} {s0 s1 s2 s3 s4 s5 s6 s7 s8 s9 s10 s11 s12 s13 s14 s15 s16 s17 : Stmt} {rs : List Stmt} {sc : Scope} {dV0 kV0 doc0 pm0 : Value} {an0 : Option Addr} {cdv0 ct0 : Value}
  (ho : (pre.heap_1 w.params).lookup 143 = some ⟨oc0, od0, .func (fnOf nm0 q0 ps0 (s0 :: s1 :: s2 :: s3 :: s4 :: s5 :: s6 :: s7 :: s8 :: s9 :: s10 :: s11 :: s12 :: s13 :: s14 :: s15 :: s16 :: s17 :: rs) sc dV0 kV0 doc0 pm0 an0 cdv0 ct0), osl0⟩)
  (rs' : List Stmt) (h₀ : Heap) (L : Addr) (m : Str → Option Value) (s : Shared) (Q : Flow → Shared → Prop)
  (c : Par) (n : Nat) (hn : n ≤ 10) (tn : Tok) (o4 : Obj) (lb : Addr) (bv : List Value) (nb : Nat) (seg62 seg69 rest : List (Addr × Obj))
  (B : Below callerA h₀ [] h₀) (F : Fr h₀ L s.heap m) (X : (pre.heap_1 w.params).In h₀) (N : News h₀ L s.heap (seg62 ++ (seg69 ++ rest)))
  (h4 : (L + 1 + 1 + 1 + 1, o4) ∈ rest) (hlb : (lb, listOf bv.toArray nb) ∈ rest) (hS : Segs seg62 seg69 rest) (ib : IntsAre bv (c.begs n))
  (T : Top p loose mean mg mb h₀) (d4 : o4.data = .cell (some (.ref lb))) (m1 : m "count" = some (.int (n : Int) tn))
  (hret : ∀ (lr : Addr) (ys : List Value) (its : List (Addr × Obj)) (h' : Heap) (tk : Nat) (m' : Str → Option Value), Segs seg62 seg69 ((lr, listOf ys.toArray ys.length) :: (its ++ rest)) → (∀ q ∈ its ++ rest, q.1 ≠ lr) → RowsAt its ys ((List.range n).map fun k : Nat => (-((k : Int) + c.quo k), (k : Int))) → Fr h₀ L h' m' → m' "row" = some (.ref lr) → (∀ z : Str, z ≠ "row" → m' z = m z) → News h₀ L h' (seg62 ++ (seg69 ++ ((lr, listOf ys.toArray ys.length) :: (its ++ rest)))) →
    wpAny (model PySem.Challenge.rw_ta0044_01.row.prog w) (callerA.deeper (envOfC nm0 sc L 143 (.ref 142))) (execs rs' (envOfC nm0 sc L 143 (.ref 142))) Q (fun _ _ => False) { s with heap := h', toks := tk }) :
  wpAny (model PySem.Challenge.rw_ta0044_01.row.prog w) (callerA.deeper (envOfC nm0 sc L 143 (.ref 142))) (execs (s17 :: rs') (envOfC nm0 sc L 143 (.ref 142))) Q (fun _ _ => False) s := by
  have e_sc := congrArg (fun o => scopeOf o) ho
  conv at e_sc => lhs; whnf
  conv at e_sc => rhs; whnf
  have e_s17 := congrArg (fun o => stmtAt (bodyOf o) 17) ho
  conv at e_s17 => lhs; whnf
  conv at e_s17 => rhs; whnf
  clear ho
  subst e_sc
  subst e_s17
  have eM : kstB m [("count", .int (n : Int) tn)] = m := funext fun z => kstB_eq (by simp [m1]) fun _ => rfl
  have F' : Fr h₀ L s.heap (kstB m [("count", .int (n : Int) tn)]) := by rw [eM]; exact F
  clear F
  revert X; k_fill; intro X
  (try k_fold)
  k_steps
  rename Fr _ _ _ _ => F'
  refine Stop.out ?_
  refine LCg.Assign_ListComp_U (F₀ := F') (by rfl) (by with_unfolding_all rfl) (by with_unfolding_all rfl) (by decide) (by rfl) (by decide) (by rfl) (by rfl) (by rfl) ?_
  (try dsimp only)
  k_steps
  refine Stop.out ?_
  rename IsRange _ _ _ _ _ _ _ _ => hr
  rename Fr _ _ _ _ => F2
  rename News _ _ _ _ => N2
  refine LCg.CompSrc.range (n := n) (by rfl) F2 N2 hr (small_one (by omega) (by omega) (by omega) (by omega)) (range_n n) (by rw [sizeLine_eq]; omega) ?_
  intro g
  refine comp_inv n (fun i ys news => ∃ its, news = its ++ (seg62 ++ (seg69 ++ rest)) ∧ Segs seg62 seg69 (its ++ rest) ∧ RowsAt its ys ((List.range i).map fun k : Nat => (-((k : Int) + c.quo k), (k : Int)))) ?turn ?done n 0 [] _ (by omega) ⟨[], rfl, hS, .nil⟩
  case turn =>
    clear F2 N2
    rintro i ys news v I oI C oC D m₂ h tk E' hi ⟨its, rfl, hsg, hpa⟩ ⟨t, rfl⟩ hC hx F N off ne
    have inn {q : Addr × Obj} (hq : q ∈ rest) : q ∈ its ++ (seg62 ++ (seg69 ++ rest)) := List.mem_append_right _ (List.mem_append_right _ (List.mem_append_right _ hq))
    have g4 := inn h4
    have gb := inn hlb
    have off0 := Hide.mk off
    simp only [Int.zero_add] at hx
    have zb : (c.begs n).length = n := c.begs_len n
    k_steps
    rename Fr _ _ _ _ => F9
    rename News _ _ _ _ => N9
    rename (@LT.lt Nat _ I _) ∧ _ => l9
    have eb : (c.begs n).getD ((i : Int).toNat) 0 = (i : Int) + c.quo i := by rw [Int.toNat_natCast, Par.begs, getD_range _ hi]
    rw [eb] at N9
    rename Addr => D9
    generalize hT : (listOf #[Value.int (-((i : Int) + c.quo i)) _, Value.int (i : Int) _] _ : Obj) = oT at N9
    refine LCg.CompEnd.intro F9 N9 ((D9, oT) :: (its ++ (seg62 ++ (seg69 ++ rest)))) ?sub ⟨⟨(Nat.ne_of_lt l9.1).symm, (Nat.ne_of_lt l9.2.1).symm, (Nat.ne_of_lt l9.2.2.1).symm⟩, off0.out⟩ trivial ⟨(D9, oT) :: its, rfl, ?_, ?_⟩
    case sub =>
      intro q hq
      simp only [List.mem_cons] at hq ⊢
      rcases hq with h | h | h | h | h <;> simp [h]
    · refine hsg.cons fun q hq => (Nat.ne_of_lt (allLt_mem l9.2.2.2 q ?_)).symm
      simp only [List.mem_append] at hq ⊢
      rcases hq with h | h | h | h <;> simp [h]
    · rw [range_snoc]
      subst hT
      exact RowsAt.snoc (.head _) (hpa.more fun q hq => .tail _ hq)
  case done =>
    rintro ys news ⟨its, rfl, hsg, hpa⟩
    clear F2 N2
    k_steps
    rename Fr _ _ _ _ => F3
    rename News _ _ _ _ => N3
    rename LCg.Off1 _ _ => o1
    have om := off1_mem o1
    rw [eM] at F3
    refine hret _ ys its _ _ _ (hsg.cons fun q hq => (om q ?_).symm) (fun q hq => om q ?_) hpa F3 (by rfl) (fun z hz => if_neg hz) (News.sub N3 ?_)
    · simp only [List.mem_append] at hq ⊢
      rcases hq with h | h | h | h <;> simp [h]
    · simp only [List.mem_append] at hq ⊢
      rcases hq with h | h <;> simp [h]
    · intro q hq
      simp only [List.mem_append, List.mem_cons] at hq ⊢
      rcases hq with h | h | h | h | h
      · simp [h]
      · simp [h]
      · exact .inl h
      · simp [h]
      · simp [h]
end
end Mine
end -- U2
section -- U3
open PySem PySem.W PySem.Calls PyProof.Rows
set_option Elab.async false
set_option maxRecDepth 100000
set_option maxHeartbeats 1000000
namespace Mine
section
local macro_rules | `(tactic| walk_at "call ref") => `(tactic| refine Stop.mk ?_)
theorem clear_24 : True := by
  first
  | (row_walk; done)
  | trivial
theorem ins1 (w : World) (p : Program) (loose : List Str) (mean : ExcName → Option Value) (mg mb : Str → Option Value)
  {oc0 : Value} {od0 : Option Addr} {osl0 : Array (Option Value)} {nm0 q0 : Str} {ps0 : Arguments} {s0 s1 s2 s3 s4 s5 s6 s7 s8 s9 s10 s11 s12 s13 s14 s15 s16 s17 b0 b1 b2 : Stmt} {bs e18 rs : List Stmt} {x18 it18 : Expr} {p18 : Pos} {sc : Scope} {dV0 kV0 doc0 pm0 : Value} {an0 : Option Addr} {cdv0 ct0 : Value}
  (ho : (pre.heap_1 w.params).lookup 143 = some ⟨oc0, od0, .func (fnOf nm0 q0 ps0 (s0 :: s1 :: s2 :: s3 :: s4 :: s5 :: s6 :: s7 :: s8 :: s9 :: s10 :: s11 :: s12 :: s13 :: s14 :: s15 :: s16 :: s17 :: .For x18 it18 (b0 :: b1 :: b2 :: bs) e18 p18 :: rs) sc dV0 kV0 doc0 pm0 an0 cdv0 ct0), osl0⟩)
  (bs' : List Stmt) (h₀ : Heap) (L : Addr) (m : Str → Option Value) (s : Shared) (Q : Flow → Shared → Prop)
  (c : Par) (hc : c.Ok) (hW : Hide (c.W ≤ 10 ^ 30)) (hP : 0 < c.P) (n k : Nat) (l : Int) (n1 : 1 ≤ n) (n2 : n ≤ 10) (k2 : k ≤ 10) (ms ls : List Int) (e1 : (c.f - c.W * n) / c.P = -((k : Int) + 1)) (e2 : (c.f - c.W * n) % c.P = l) (e3 : ms.getD (n - 1) 0 = k) (e4 : ls.getD (n - 1) 0 = l) (zm : n ≤ ms.length) (zl : n ≤ ls.length)
  (tW tP tf tn : Tok) (o5 o6 o8 : Obj) (lm ll : Addr) (mv lv : List Value) (nm nl : Nat) (seg62 seg69 rest : List (Addr × Obj))
  (B : Below callerA h₀ [] h₀) (F : Fr h₀ L s.heap m) (X : (pre.heap_1 w.params).In h₀) (N : News h₀ L s.heap (seg62 ++ (seg69 ++ rest)))
  (h5 : (L + 1 + 1 + 1 + 1 + 1, o5) ∈ rest) (h6 : (L + 1 + 1 + 1 + 1 + 1 + 1, o6) ∈ rest) (h8 : (L + 1 + 1 + 1 + 1 + 1 + 1 + 1 + 1, o8) ∈ rest) (hlm : (lm, listOf mv.toArray nm) ∈ rest) (hll : (ll, listOf lv.toArray nl) ∈ rest) (im : IntsAre mv ms) (il : IntsAre lv ls)
  (C62 : CodeHd h₀ 66 62) (C69 : CodeHd h₀ 73 69) (C140 : CodeHd h₀ 142 140) (hS : Segs seg62 seg69 rest)
  (T : Top p loose mean mg mb h₀)
  (d5 : o5.data = .cell (some (.int c.f tf))) (d6 : o6.data = .cell (some (.int c.P tP))) (d8 : o8.data = .cell (some (.int c.W tW)))
  (m1 : m "n" = some (.int (n : Int) tn)) (m2 : m "marks" = some (.ref lm)) (m3 : m "left" = some (.ref ll))
  (hret : ∀ (u v : Tok) (seg62' seg69' : List (Addr × Obj)) (h' : Heap) (tk : Nat) (m' : Str → Option Value), Segs seg62' seg69' rest → Fr h₀ L h' m' →
    m' "turn" = some (.int (-((k : Int) + 1)) u) → m' "half" = some (.int ((n : Int) + k) v) → (∀ z : Str, z ≠ "turn" → z ≠ "rest" → z ≠ "half" → m' z = m z) → News h₀ L h' (seg62' ++ (seg69' ++ rest)) →
    wpAny (model PySem.Challenge.rw_ta0044_01.row.prog w) (callerA.deeper (envOfC nm0 sc L 143 (.ref 142))) (execs bs' (envOfC nm0 sc L 143 (.ref 142))) Q (fun _ _ => False) { s with heap := h', toks := tk }) :
  wpAny (model PySem.Challenge.rw_ta0044_01.row.prog w) (callerA.deeper (envOfC nm0 sc L 143 (.ref 142))) (execs (b0 :: b1 :: b2 :: bs') (envOfC nm0 sc L 143 (.ref 142))) Q (fun _ _ => False) s := by
  have e_sc := congrArg (fun o => scopeOf o) ho
  conv at e_sc => lhs; whnf
  conv at e_sc => rhs; whnf
  have e_b0 := congrArg (fun o => stmtAt (forBody (stmtAt (bodyOf o) 18)) 0) ho
  conv at e_b0 => lhs; whnf
  conv at e_b0 => rhs; whnf
  have e_b1 := congrArg (fun o => stmtAt (forBody (stmtAt (bodyOf o) 18)) 1) ho
  conv at e_b1 => lhs; whnf
  conv at e_b1 => rhs; whnf
  have e_b2 := congrArg (fun o => stmtAt (forBody (stmtAt (bodyOf o) 18)) 2) ho
  conv at e_b2 => lhs; whnf
  conv at e_b2 => rhs; whnf
  clear ho
  subst e_sc
  subst e_b0
  subst e_b1
  subst e_b2
  have eM : kstB m [("n", .int (n : Int) tn), ("marks", .ref lm), ("left", .ref ll)] = m := funext fun z => kstB_eq (by simp [m1, m2, m3]) fun _ => rfl
  have F' : Fr h₀ L s.heap (kstB m [("n", .int (n : Int) tn), ("marks", .ref lm), ("left", .ref ll)]) := by rw [eM]; exact F
  clear F
  have h5' : (L + 1 + 1 + 1 + 1 + 1, o5) ∈ seg62 ++ (seg69 ++ rest) := List.mem_append_right _ (List.mem_append_right _ h5)
  have h6' : (L + 1 + 1 + 1 + 1 + 1 + 1, o6) ∈ seg62 ++ (seg69 ++ rest) := List.mem_append_right _ (List.mem_append_right _ h6)
  have h8' : (L + 1 + 1 + 1 + 1 + 1 + 1 + 1 + 1, o8) ∈ seg62 ++ (seg69 ++ rest) := List.mem_append_right _ (List.mem_append_right _ h8)
  have X0 := Hide.mk X
  revert X; k_fill; intro X
  (try k_fold)
  k_steps
  rename Fr _ _ _ _ => F1
  rename News _ _ _ _ => N1
  have F1 : Fr h₀ L _ _ := F1
  have N1 : News h₀ L _ _ := N1
  have PW := hc.PW
  have f0 := hc.f0
  have fW := hc.fW
  have hD := Int.mul_ediv_add_emod (c.f - c.W * n) c.P
  have hD0 := Int.emod_nonneg (c.f - c.W * n) (Int.ne_of_gt hP)
  have hD1 := Int.emod_lt_of_pos (c.f - c.W * n) hP
  rw [e1, e2] at hD
  rw [e2] at hD0 hD1
  have hPk : c.P * ((k : Int) + 1) ≤ c.P * 11 := Int.mul_le_mul_of_nonneg_left (by omega) (by omega)
  have hPk0 : 0 ≤ c.P * ((k : Int) + 1) := Int.mul_nonneg (by omega) (by omega)
  rw [Int.mul_neg] at hD
  refine Stop.out ?_
  show wpAny (model PySem.Challenge.rw_ta0044_01.row.prog w) (ktrTop lawDp 7 (some []) _ _ L _ _ (cellsFrom (L + 1) _ []) []) (call (.ref 88) [.int _ _, .int _ _]) _ _ _
  refine idm2 w p loose mean mg mb lawDp 7 (some []) _ _ _ _ (cellsFrom (L + 1) _ []) [] callerA h₀ h₀ L (kstB m [("n", .int (n : Int) tn), ("marks", .ref lm), ("left", .ref ll)]) ⟨s.heap, _, _, _, _⟩ _ _ seg62 seg69 rest B ?F1 ?X1 ?N1 ?T1 ?rfl C62 C69 ?hS1 _ _ _ _ ?a1 ?hyb ?a2 ?a3 ?a4 ?_
  case F1 => exact F1
  case X1 => exact X0.out
  case N1 => exact N1
  case T1 => exact T
  case rfl => rfl
  case hS1 => exact hS
  case a1 => omega
  case a2 => omega
  case a3 => omega
  case a4 => decide
  case hyb => rw [Int.neg_neg]; exact bits_small (by omega) (by have := hW.out; omega)
  intro h' tk' t u1 u2 sa sb hf F2 N2 lt
  have x1 : -(c.W * (n : Int) - c.f) / - -c.P = -((k : Int) + 1) := by rw [Int.neg_neg, show -(c.W * (n : Int) - c.f) = c.f - c.W * n by omega]; exact e1
  have x2 : -(-(c.W * (n : Int) - c.f) % - -c.P) = -l := by rw [Int.neg_neg c.P, show -(c.W * (n : Int) - c.f) = c.f - c.W * n by omega, e2]
  rw [x1, x2] at N2
  have hm1 : (lm, listOf mv.toArray nm) ∈ sa ++ (sb ++ rest) := List.mem_append_right _ (List.mem_append_right _ hlm)
  have hm2 : (ll, listOf lv.toArray nl) ∈ sa ++ (sb ++ rest) := List.mem_append_right _ (List.mem_append_right _ hll)
  clear F1 N1
  (try dsimp only)
  k_steps
  all_goals (rename Fr _ _ _ _ => F9; rename News _ _ _ _ => N9)
  · have eh : (n : Int) - -((k : Int) + 1) - 1 = n + k := by omega
    rw [eM] at F9
    simp only [eh] at F9
    exact hret u1 _ sa sb _ _ _ hf.toSegs F9 (by rfl) (by rfl) (fun z z1 z2 z3 => (if_neg z3).trans ((if_neg z2).trans (if_neg z1))) (News.dropHd (News.dropHd (News.dropHd N9)))
  · rename ¬ _ = _ => hb
    have et : ((n : Int) - 1).toNat = n - 1 := by omega
    rw [et, e3, e4] at hb
    exact absurd (by rw [show -((k : Int) + 1) = -1 - k by omega]) hb
end
end Mine
end -- U3
section -- U4
open PySem PySem.W PySem.Calls PyProof.Rows
set_option Elab.async false
set_option maxRecDepth 100000
set_option maxHeartbeats 1000000
namespace Mine
/-! the law's code table: the lambdas made so far -/
structure Cd where
  pos : Pos
  c : Addr
  o : Obj
def tabL : List Cd → List Value
  | [] => []
  | k :: r => rawInt k.pos.line :: rawInt k.pos.col :: .ref k.c :: tabL r
def cdsL (ks : List Cd) : List (Addr × Obj) := ks.map fun k => (k.c, k.o)
abbrev tabE (ks : List Cd) : Addr × Obj := (140, tabObj (tabL ks).toArray)
def CdOk (qual : Str) (ks : List Cd) : Prop := ∀ k ∈ ks, ∃ vs t, k.o.data = .fields vs ∧ vs[1]? = some (.str qual t)
abbrev lamQ : Str := Str.ofString "law" ++ ".<locals>." ++ "<lambda>"
theorem tabL_ok : ∀ ks, TriplesOk (tabL ks)
  | [] => trivial
  | _ :: r => tabL_ok r
theorem tabL_snoc (k : Cd) : ∀ ks, tabL (ks ++ [k]) = tabL ks ++ [rawInt k.pos.line, rawInt k.pos.col, .ref k.c]
  | [] => rfl
  | a :: r => by rw [List.cons_append, tabL, tabL_snoc k r]; rfl
theorem tabL_among (pos : Pos) : ∀ ks, codeAmong pos (tabL ks) = none ∨ ∃ k ∈ ks, codeAmong pos (tabL ks) = some (.ref k.c)
  | [] => .inl rfl
  | a :: r => by
    have e : codeAmong pos (tabL (a :: r)) = if (a.pos.line : Int) == pos.line && (a.pos.col : Int) == pos.col then some (.ref a.c) else codeAmong pos (tabL r) := rfl
    rw [e]
    split
    · exact .inr ⟨a, .head _, rfl⟩
    · rcases tabL_among pos r with h | ⟨k, hk, h⟩
      · exact .inl h
      · exact .inr ⟨k, .tail _ hk, h⟩
theorem cdsL_snoc (ks : List Cd) (k : Cd) : cdsL (ks ++ [k]) = cdsL ks ++ [(k.c, k.o)] := by simp [cdsL]
theorem lamAny {M : Model} {A : Around} {E : Value → Shared → Prop} {s : Shared} {h₀ : Heap} {L a c : Addr} {m mg mb : Str → Option Value} {cn : Str} {cs : Scope} {ccd : Value} {cl : List (Str × Addr)} {ks : List Cd} {others : List (Addr × Obj)}
  {p : Program} {loose : List Str} {mean : ExcName → Option Value} {name qual : Str} {params : Arguments} {body : Expr} {scope : Scope} {pos : Pos} {firstLine : Nat} {clos : List (Str × Addr)} {Q : Value → Shared → Prop}
  (F : Fr h₀ L s.heap m) (N : News h₀ L s.heap (tabE ks :: (cdsL ks ++ others))) (T : Top p loose mean mg mb h₀) (C : CodeHd h₀ c 140) (hcd : ccd = .ref c) (hks : CdOk qual ks) (hoth : ∀ q ∈ cdsL ks ++ others, q.1 ≠ 140)
  (hcl : closureFor scope (envX cn cs L a ccd cl) = pure clos)
  (h : ∀ f k' ctv ks' h' tk, CdOk qual ks' → k' ∈ ks' → (∀ k ∈ ks', k ∈ ks ∨ ∀ q ∈ tabE ks :: (cdsL ks ++ others), @LT.lt Nat _ q.1 k.c) → Fr h₀ L h' m →
      News h₀ L h' ((f, kla_obj name qual params body scope clos ((mg "__name__").getD .none) k'.c ctv) :: tabE ks' :: (cdsL ks' ++ others)) → (∀ q ∈ cdsL ks' ++ others, q.1 ≠ 140) → (∀ q ∈ tabE ks' :: (cdsL ks' ++ others), @LT.lt Nat _ q.1 f) → Q (.ref f) { s with heap := h', toks := tk }) :
  wpAny M A (makeFunction name qual params (.expr body) scope (envX cn cs L a ccd cl) [] [] [] pos firstLine) Q E s := by
  rcases tabL_among pos ks with hn | ⟨k, hk, hs⟩
  · refine kla_nest F N T C hcd (.head hoth) (by rw [List.toList_toArray]; exact tabL_ok ks) (by rw [List.toList_toArray]; exact hn) hcl ?_
    intro f c' oc vs t ctv h' tk F' N' d1 d2 l1 l2
    have ne140 : c' ≠ 140 := (Nat.ne_of_lt (l1 _ (.head _))).symm
    have et : tabL (ks ++ [⟨pos, c', oc⟩]) = tabL ks ++ [rawInt pos.line, rawInt pos.col, .ref c'] := tabL_snoc _ ks
    have hmem : ∀ q ∈ cdsL (ks ++ [⟨pos, c', oc⟩]) ++ others, q = (c', oc) ∨ q ∈ cdsL ks ++ others := by
      intro q hq
      rw [cdsL_snoc] at hq
      simp only [List.mem_append, List.mem_singleton] at hq ⊢
      rcases hq with (hq | hq) | hq
      · exact .inr (.inl hq)
      · exact .inl hq
      · exact .inr (.inr hq)
    refine h f ⟨pos, c', oc⟩ ctv (ks ++ [⟨pos, c', oc⟩]) h' tk ?_ (by simp) ?_ F' (News.sub N' ?_) ?_ ?_
    · intro k hk
      rcases List.mem_append.mp hk with hk | hk
      · exact hks k hk
      · rw [List.mem_singleton.mp hk]; exact ⟨vs, t, d1, d2⟩
    · intro k hk
      rcases List.mem_append.mp hk with hk | hk
      · exact .inl hk
      · rw [List.mem_singleton.mp hk]; exact .inr l1
    · intro q hq
      rcases List.mem_cons.mp hq with hq | hq
      · exact hq ▸ .head _
      · rcases List.mem_cons.mp hq with hq | hq
        · refine .tail _ (.tail _ ?_)
          rw [hq, tabE, et]
          have : (tabL ks ++ [rawInt pos.line, rawInt pos.col, .ref c']).toArray = (tabL ks).toArray ++ #[rawInt pos.line, rawInt pos.col, .ref c'] := by simp
          rw [this]
          exact .head _
        · rcases hmem q hq with hq | hq
          · exact hq ▸ .tail _ (.head _)
          · exact .tail _ (.tail _ (.tail _ hq))
    · intro q hq
      rcases hmem q hq with hq | hq
      · rw [hq]; exact ne140
      · exact hoth q hq
    · intro q hq
      rcases List.mem_cons.mp hq with hq | hq
      · rw [hq]; exact Nat.lt_trans (l1 (tabE ks) (.head _)) l2
      · rcases hmem q hq with hq | hq
        · rw [hq]; exact l2
        · exact Nat.lt_trans (l1 _ (.tail _ hq)) l2
  · refine kla_hit (c' := k.c) F N T C hcd (.head _) (by rw [List.toList_toArray]; exact tabL_ok ks) (by rw [List.toList_toArray]; exact hs) hcl ?_
    intro f ctv h' tk F' N' l1
    exact h f k ctv ks h' tk hks hk (fun k hk => .inl hk) F' N' hoth l1
/-- a key: what a call with one argument gives, from any frame, over a ledger that may change -/
def KeyOk (w : World) (p : Program) (loose : List Str) (mean : ExcName → Option Value) (mg mb : Str → Option Value) (base : Heap) (need : Nat) {τ : Type} (led : τ → List (Addr × Obj)) (f : Addr) (v : Value) (k : Int) : Prop :=
  ∀ (dp un : Nat) (gd : Option (List Code)) (cn : Str) (cs : Scope) (a : Addr) (ccd : Value) (cl : List (Str × Addr)) (outer : List Env) (A₀ : Around) (h₀ : Heap) (L : Addr) (m : Str → Option Value) (s : Shared) (Q E : Value → Shared → Prop) (c : τ),
    Below A₀ base outer h₀ → Fr h₀ L s.heap m → (pre.heap_1 w.params).In h₀ → News h₀ L s.heap (led c) → Top p loose mean mg mb h₀ → cs.kind = .function → dp + need < recursionLimit →
    (∀ (c' : τ) (t : Tok) (h' : Heap) (tk : Nat), Fr h₀ L h' m → News h₀ L h' (led c') → Q (.int k t) { s with heap := h', toks := tk }) →
    wpAny (model PySem.Challenge.rw_ta0044_01.row.prog w) (ktrTop dp un gd cn cs L a ccd cl outer) (call (.ref f) [v]) Q E s
end Mine
end -- U4
section -- U5
open PySem PySem.W PySem.Calls PyProof.Rows
set_option Elab.async false
set_option maxRecDepth 100000
set_option maxHeartbeats 1000000
namespace Mine
section
local macro_rules | `(tactic| walk_at "call builtin:len") => `(tactic| ((with_reducible show wpAny _ _ (call (Value.builtin "len") [Value.ref _]) _ _ _); refine' len_list (News.isList ?N ?hm) ?hf ?_; (case N => assumption); (case hm => assumption); (case hf => first | assumption | (simp only [List.size_toArray]; omega))))
local macro_rules | `(tactic| walk_at "exec While Compare cons nil") => `(tactic| refine Stop.mk ?_)
local macro_rules | `(tactic| walk_at "subscriptTail Name Name ref int") => `(tactic| refine Stop.mk ?_)
local macro_rules | `(tactic| walk_at "call ref") => `(tactic| refine Stop.mk ?_)
theorem clear_25 : True := by
  first
  | (row_walk; done)
  | trivial
theorem kbisl2 (w : World) (p : Program) (loose : List Str) (mean : ExcName → Option Value) (mg mb : Str → Option Value)
  (dp un : Nat) (gd : Option (List Code)) (cn : Str) (cs : Scope) (a : Addr) (ccd : Value) (cl : List (Str × Addr)) (outer : List Env) (A₀ : Around) (base h₀ : Heap) (L : Addr) (m : Str → Option Value) (s : Shared) (Q E : Value → Shared → Prop) {τ : Type} (led : τ → List (Addr × Obj)) (c₀ : τ)
  (B : Below A₀ base outer h₀) (F : Fr h₀ L s.heap m) (X : (pre.heap_1 w.params).In h₀) (N : News h₀ L s.heap (led c₀)) (T : Top p loose mean mg mb h₀) (hk : cs.kind = .function) (C140 : CodeHd base 142 140) (need : Nat) (hdp : dp + 1 + need < recursionLimit)
  (la f : Addr) (vs : List Value) (ns : List Int) (nn : Nat) (hm : ∀ c, (la, listOf vs.toArray nn) ∈ led c) (zl : vs.length = ns.length) (hlen : ns.length < 2 ^ 40) (hfn : ∀ c, ∃ oc od fd sl, (f, (⟨oc, od, .func fd, sl⟩ : Obj)) ∈ led c) (hkey : ∀ (i : Nat) (v : Value), vs[i]? = some v → KeyOk w p loose mean mg mb base need led f v (ns.getD i 0)) (x : Int) (t1 t2 : Tok)
  (c : Nat) (hc : c ≤ ns.length) (hcut : ∀ i : Nat, i < ns.length → ((ns.getD i 0 < x) ↔ i < c))
  (hret : ∀ (c' : τ) (h' : Heap) (tk' : Nat) (u : Tok), Fr h₀ L h' m → News h₀ L h' (led c') → Q (.int (c : Int) u) { s with heap := h', toks := tk' }) :
  wpAny (model PySem.Challenge.rw_ta0044_01.row.prog w) (ktrTop dp un gd cn cs L a ccd cl outer) (call (.ref 124) [.ref la, .int x t1] [("key", .ref f)]) Q E s := by
  have zv : vs.length < 2 ^ 40 := by omega
  have hm₀ := hm c₀
  revert X; k_fill; intro X
  refine wpAny_call ?_
  refine' code_def (binds := [("a", .ref la), ("x", .int x t1), ("lo", .int 0 360), ("hi", .none), ("key", .ref f)]) ?k1 ?k2 ?k3 ?k4 ?k5 ?kA ?kF ?kK ?k6 ?k7 ?k8 ?k9 ?kB ?_ ?c2 ?c3 ?c4 ?c5
  walk_at "my enter 1"
  k_steps
  refine Stop.out ?_
  rename Fr _ _ _ _ => F'
  rename News _ _ _ _ => N'
  rename Below _ _ _ _ => B'
  rename Frag.In _ _ => X'
  rename Top _ _ _ _ _ _ => T'
  refine ksw_while (σ := ((Int × Int) × (Tok × Tok)) × τ) (fun d => led d.2) (fun c => [("lo", .int c.1.1.1 c.1.2.1), ("hi", .int c.1.1.2 c.1.2.2)]) (fun _ => True) ["mid"] (fun d => 0 ≤ d.1.1.1 ∧ d.1.1.1 ≤ d.1.1.2 ∧ d.1.1.2 ≤ ns.length ∧ (d.1.1.1 = 0 ∨ d.1.1.1 ≤ c) ∧ (d.1.1.2 = (ns.length : Int) ∨ c ≤ d.1.1.2)) (fun c => (c.1.1.2 - c.1.1.1).toNat) (((0, _), (_, _)), c₀) F' N' trivial (all2 rfl rfl) ?hp ?turn
  case hp => (simp [zl]) <;> omega
  case turn =>
    rintro ⟨⟨⟨lo, hi⟩, ⟨u1, u2⟩⟩, c₁⟩ u h tk - ⟨h1, h2, h3, h6, h7⟩ F N
    dsimp only at F N h1 h2 h3 h6 h7 ⊢
    refine ksw_opq fun K' hK => ?_
    have hm₁ := hm c₁
    obtain ⟨oc1, od1, fd1, sl1, hf1⟩ := hfn c₁
    k_steps
    · rename Fr _ _ _ _ => F2
      rename News _ _ _ _ => N2
      have hlt : ((lo + hi).fdiv 2).toNat < ns.length := by rw [fdiv2]; omega
      have hlv : ((lo + hi).fdiv 2).toNat < vs.length := by omega
      refine Stop.out (PyProof.Rows.item_list (News.isList N2 hm₁) (by rw [fdiv2]; omega) (by rw [fdiv2]; omega) (x := vs[((lo + hi).fdiv 2).toNat]'hlv) (by rw [List.getElem?_toArray]; exact List.getElem?_eq_getElem _) ?_)
      (try dsimp only)
      k_steps
      rename Fr _ _ _ _ => F3
      rename News _ _ _ _ => N3
      refine Stop.out (hkey ((lo + hi).fdiv 2).toNat _ (List.getElem?_eq_getElem hlv) _ _ _ _ _ _ _ _ _ _ _ _ _ _ _ _ c₁ B' F3 X' N3 T' rfl ?hd2 ?_)
      case hd2 => show dp + 1 + need < recursionLimit; omega
      intro c' t9 h9 tk9 F4 N4
      (try dsimp only)
      k_steps
      · rw [fdiv2] at *
        have := cut_up hcut h1 (by assumption) h3 (by assumption)
        refine hK _ _ ?_
        refine ksw_end (((_, _), (_, _)), c') (by assumption) (by assumption) (fun _ h => h) trivial (all2 rfl rfl) (by intro z h2 h3; have a1 : ¬ z = _ := h2 _ (.head _); have a2 : ¬ z = _ := h2 _ (.tail _ (.head _)); have a3 : ¬ z = _ := not_mem1 h3; dsimp only at a1 a2 a3; first | exact (if_neg a1).trans ((if_neg a3).trans (kst_same2 a1 a2 h3)) | exact (if_neg a2).trans ((if_neg a3).trans (kst_same2 a1 a2 h3))) (inv_up2 h1 h3 h7 (by assumption) (by assumption)) (low_up (by assumption))
      · rw [fdiv2] at *
        have := cut_dn hcut h1 (by assumption) h3 (by assumption)
        refine hK _ _ ?_
        refine ksw_end (((_, _), (_, _)), c') (by assumption) (by assumption) (fun _ h => h) trivial (all2 rfl rfl) (by intro z h2 h3; have a1 : ¬ z = _ := h2 _ (.head _); have a2 : ¬ z = _ := h2 _ (.tail _ (.head _)); have a3 : ¬ z = _ := not_mem1 h3; dsimp only at a1 a2 a3; first | exact (if_neg a1).trans ((if_neg a3).trans (kst_same2 a1 a2 h3)) | exact (if_neg a2).trans ((if_neg a3).trans (kst_same2 a1 a2 h3))) (inv_dn2 h1 h3 h6 (by assumption) (by assumption)) (low_dn (by assumption))
    · have e : lo = (c : Int) := by omega
      rw [e]
      exact hret _ _ _ _ (by assumption) (by assumption)
theorem kbisl4 (w : World) (p : Program) (loose : List Str) (mean : ExcName → Option Value) (mg mb : Str → Option Value)
  (dp un : Nat) (gd : Option (List Code)) (cn : Str) (cs : Scope) (a : Addr) (ccd : Value) (cl : List (Str × Addr)) (outer : List Env) (A₀ : Around) (base h₀ : Heap) (L : Addr) (m : Str → Option Value) (s : Shared) (Q E : Value → Shared → Prop) {τ : Type} (led : τ → List (Addr × Obj)) (c₀ : τ)
  (B : Below A₀ base outer h₀) (F : Fr h₀ L s.heap m) (X : (pre.heap_1 w.params).In h₀) (N : News h₀ L s.heap (led c₀)) (T : Top p loose mean mg mb h₀) (hk : cs.kind = .function) (C140 : CodeHd base 142 140) (need : Nat) (hdp : dp + 1 + need < recursionLimit)
  (la f : Addr) (vs : List Value) (ns : List Int) (nn : Nat) (hm : ∀ c, (la, listOf vs.toArray nn) ∈ led c) (zl : vs.length = ns.length) (hlen : ns.length < 2 ^ 40) (hfn : ∀ c, ∃ oc od fd sl, (f, (⟨oc, od, .func fd, sl⟩ : Obj)) ∈ led c) (hkey : ∀ (i : Nat) (v : Value), vs[i]? = some v → KeyOk w p loose mean mg mb base need led f v (ns.getD i 0)) (x : Int) (t1 t2 : Tok)
  (c : Nat) (hc : c ≤ ns.length) (hcut : ∀ i : Nat, i < ns.length → ((ns.getD i 0 < x) ↔ i < c))
  (hret : ∀ (c' : τ) (h' : Heap) (tk' : Nat) (u : Tok), Fr h₀ L h' m → News h₀ L h' (led c') → Q (.int (c : Int) u) { s with heap := h', toks := tk' }) :
  wpAny (model PySem.Challenge.rw_ta0044_01.row.prog w) (ktrTop dp un gd cn cs L a ccd cl outer) (call (.ref 124) [.ref la, .int x t1, .int 0 t2, .none] [("key", .ref f)]) Q E s := by
  have zv : vs.length < 2 ^ 40 := by omega
  have hm₀ := hm c₀
  revert X; k_fill; intro X
  refine wpAny_call ?_
  refine' code_def (binds := [("a", .ref la), ("x", .int x t1), ("lo", .int 0 t2), ("hi", .none), ("key", .ref f)]) ?k1 ?k2 ?k3 ?k4 ?k5 ?kA ?kF ?kK ?k6 ?k7 ?k8 ?k9 ?kB ?_ ?c2 ?c3 ?c4 ?c5
  walk_at "my enter 1"
  k_steps
  refine Stop.out ?_
  rename Fr _ _ _ _ => F'
  rename News _ _ _ _ => N'
  rename Below _ _ _ _ => B'
  rename Frag.In _ _ => X'
  rename Top _ _ _ _ _ _ => T'
  refine ksw_while (σ := ((Int × Int) × (Tok × Tok)) × τ) (fun d => led d.2) (fun c => [("lo", .int c.1.1.1 c.1.2.1), ("hi", .int c.1.1.2 c.1.2.2)]) (fun _ => True) ["mid"] (fun d => 0 ≤ d.1.1.1 ∧ d.1.1.1 ≤ d.1.1.2 ∧ d.1.1.2 ≤ ns.length ∧ (d.1.1.1 = 0 ∨ d.1.1.1 ≤ c) ∧ (d.1.1.2 = (ns.length : Int) ∨ c ≤ d.1.1.2)) (fun c => (c.1.1.2 - c.1.1.1).toNat) (((0, _), (_, _)), c₀) F' N' trivial (all2 rfl rfl) ?hp ?turn
  case hp => (simp [zl]) <;> omega
  case turn =>
    rintro ⟨⟨⟨lo, hi⟩, ⟨u1, u2⟩⟩, c₁⟩ u h tk - ⟨h1, h2, h3, h6, h7⟩ F N
    dsimp only at F N h1 h2 h3 h6 h7 ⊢
    refine ksw_opq fun K' hK => ?_
    have hm₁ := hm c₁
    obtain ⟨oc1, od1, fd1, sl1, hf1⟩ := hfn c₁
    k_steps
    · rename Fr _ _ _ _ => F2
      rename News _ _ _ _ => N2
      have hlt : ((lo + hi).fdiv 2).toNat < ns.length := by rw [fdiv2]; omega
      have hlv : ((lo + hi).fdiv 2).toNat < vs.length := by omega
      refine Stop.out (PyProof.Rows.item_list (News.isList N2 hm₁) (by rw [fdiv2]; omega) (by rw [fdiv2]; omega) (x := vs[((lo + hi).fdiv 2).toNat]'hlv) (by rw [List.getElem?_toArray]; exact List.getElem?_eq_getElem _) ?_)
      (try dsimp only)
      k_steps
      rename Fr _ _ _ _ => F3
      rename News _ _ _ _ => N3
      refine Stop.out (hkey ((lo + hi).fdiv 2).toNat _ (List.getElem?_eq_getElem hlv) _ _ _ _ _ _ _ _ _ _ _ _ _ _ _ _ c₁ B' F3 X' N3 T' rfl ?hd2 ?_)
      case hd2 => show dp + 1 + need < recursionLimit; omega
      intro c' t9 h9 tk9 F4 N4
      (try dsimp only)
      k_steps
      · rw [fdiv2] at *
        have := cut_up hcut h1 (by assumption) h3 (by assumption)
        refine hK _ _ ?_
        refine ksw_end (((_, _), (_, _)), c') (by assumption) (by assumption) (fun _ h => h) trivial (all2 rfl rfl) (by intro z h2 h3; have a1 : ¬ z = _ := h2 _ (.head _); have a2 : ¬ z = _ := h2 _ (.tail _ (.head _)); have a3 : ¬ z = _ := not_mem1 h3; dsimp only at a1 a2 a3; first | exact (if_neg a1).trans ((if_neg a3).trans (kst_same2 a1 a2 h3)) | exact (if_neg a2).trans ((if_neg a3).trans (kst_same2 a1 a2 h3))) (inv_up2 h1 h3 h7 (by assumption) (by assumption)) (low_up (by assumption))
      · rw [fdiv2] at *
        have := cut_dn hcut h1 (by assumption) h3 (by assumption)
        refine hK _ _ ?_
        refine ksw_end (((_, _), (_, _)), c') (by assumption) (by assumption) (fun _ h => h) trivial (all2 rfl rfl) (by intro z h2 h3; have a1 : ¬ z = _ := h2 _ (.head _); have a2 : ¬ z = _ := h2 _ (.tail _ (.head _)); have a3 : ¬ z = _ := not_mem1 h3; dsimp only at a1 a2 a3; first | exact (if_neg a1).trans ((if_neg a3).trans (kst_same2 a1 a2 h3)) | exact (if_neg a2).trans ((if_neg a3).trans (kst_same2 a1 a2 h3))) (inv_dn2 h1 h3 h6 (by assumption) (by assumption)) (low_dn (by assumption))
    · have e : lo = (c : Int) := by omega
      rw [e]
      exact hret _ _ _ _ (by assumption) (by assumption)
theorem kbisr2 (w : World) (p : Program) (loose : List Str) (mean : ExcName → Option Value) (mg mb : Str → Option Value)
  (dp un : Nat) (gd : Option (List Code)) (cn : Str) (cs : Scope) (a : Addr) (ccd : Value) (cl : List (Str × Addr)) (outer : List Env) (A₀ : Around) (base h₀ : Heap) (L : Addr) (m : Str → Option Value) (s : Shared) (Q E : Value → Shared → Prop) {τ : Type} (led : τ → List (Addr × Obj)) (c₀ : τ)
  (B : Below A₀ base outer h₀) (F : Fr h₀ L s.heap m) (X : (pre.heap_1 w.params).In h₀) (N : News h₀ L s.heap (led c₀)) (T : Top p loose mean mg mb h₀) (hk : cs.kind = .function) (C140 : CodeHd base 142 140) (need : Nat) (hdp : dp + 1 + need < recursionLimit)
  (la f : Addr) (vs : List Value) (ns : List Int) (nn : Nat) (hm : ∀ c, (la, listOf vs.toArray nn) ∈ led c) (zl : vs.length = ns.length) (hlen : ns.length < 2 ^ 40) (hfn : ∀ c, ∃ oc od fd sl, (f, (⟨oc, od, .func fd, sl⟩ : Obj)) ∈ led c) (hkey : ∀ (i : Nat) (v : Value), vs[i]? = some v → KeyOk w p loose mean mg mb base need led f v (ns.getD i 0)) (x : Int) (t1 t2 : Tok)
  (c : Nat) (hc : c ≤ ns.length) (hcut : ∀ i : Nat, i < ns.length → ((¬ x < ns.getD i 0) ↔ i < c))
  (hret : ∀ (c' : τ) (h' : Heap) (tk' : Nat) (u : Tok), Fr h₀ L h' m → News h₀ L h' (led c') → Q (.int (c : Int) u) { s with heap := h', toks := tk' }) :
  wpAny (model PySem.Challenge.rw_ta0044_01.row.prog w) (ktrTop dp un gd cn cs L a ccd cl outer) (call (.ref 106) [.ref la, .int x t1] [("key", .ref f)]) Q E s := by
  have zv : vs.length < 2 ^ 40 := by omega
  have hm₀ := hm c₀
  revert X; k_fill; intro X
  refine wpAny_call ?_
  refine' code_def (binds := [("a", .ref la), ("x", .int x t1), ("lo", .int 0 333), ("hi", .none), ("key", .ref f)]) ?k1 ?k2 ?k3 ?k4 ?k5 ?kA ?kF ?kK ?k6 ?k7 ?k8 ?k9 ?kB ?_ ?c2 ?c3 ?c4 ?c5
  walk_at "my enter 1"
  k_steps
  refine Stop.out ?_
  rename Fr _ _ _ _ => F'
  rename News _ _ _ _ => N'
  rename Below _ _ _ _ => B'
  rename Frag.In _ _ => X'
  rename Top _ _ _ _ _ _ => T'
  refine ksw_while (σ := ((Int × Int) × (Tok × Tok)) × τ) (fun d => led d.2) (fun c => [("lo", .int c.1.1.1 c.1.2.1), ("hi", .int c.1.1.2 c.1.2.2)]) (fun _ => True) ["mid"] (fun d => 0 ≤ d.1.1.1 ∧ d.1.1.1 ≤ d.1.1.2 ∧ d.1.1.2 ≤ ns.length ∧ (d.1.1.1 = 0 ∨ d.1.1.1 ≤ c) ∧ (d.1.1.2 = (ns.length : Int) ∨ c ≤ d.1.1.2)) (fun c => (c.1.1.2 - c.1.1.1).toNat) (((0, _), (_, _)), c₀) F' N' trivial (all2 rfl rfl) ?hp ?turn
  case hp => (simp [zl]) <;> omega
  case turn =>
    rintro ⟨⟨⟨lo, hi⟩, ⟨u1, u2⟩⟩, c₁⟩ u h tk - ⟨h1, h2, h3, h6, h7⟩ F N
    dsimp only at F N h1 h2 h3 h6 h7 ⊢
    refine ksw_opq fun K' hK => ?_
    have hm₁ := hm c₁
    obtain ⟨oc1, od1, fd1, sl1, hf1⟩ := hfn c₁
    k_steps
    · rename Fr _ _ _ _ => F2
      rename News _ _ _ _ => N2
      have hlt : ((lo + hi).fdiv 2).toNat < ns.length := by rw [fdiv2]; omega
      have hlv : ((lo + hi).fdiv 2).toNat < vs.length := by omega
      refine Stop.out (PyProof.Rows.item_list (News.isList N2 hm₁) (by rw [fdiv2]; omega) (by rw [fdiv2]; omega) (x := vs[((lo + hi).fdiv 2).toNat]'hlv) (by rw [List.getElem?_toArray]; exact List.getElem?_eq_getElem _) ?_)
      (try dsimp only)
      k_steps
      rename Fr _ _ _ _ => F3
      rename News _ _ _ _ => N3
      refine Stop.out (hkey ((lo + hi).fdiv 2).toNat _ (List.getElem?_eq_getElem hlv) _ _ _ _ _ _ _ _ _ _ _ _ _ _ _ _ c₁ B' F3 X' N3 T' rfl ?hd2 ?_)
      case hd2 => show dp + 1 + need < recursionLimit; omega
      intro c' t9 h9 tk9 F4 N4
      (try dsimp only)
      k_steps
      · rw [fdiv2] at *
        have := cut_dn hcut h1 (by assumption) h3 (Decidable.not_not.mpr (by assumption))
        refine hK _ _ ?_
        refine ksw_end (((_, _), (_, _)), c') (by assumption) (by assumption) (fun _ h => h) trivial (all2 rfl rfl) (by intro z h2 h3; have a1 : ¬ z = _ := h2 _ (.head _); have a2 : ¬ z = _ := h2 _ (.tail _ (.head _)); have a3 : ¬ z = _ := not_mem1 h3; dsimp only at a1 a2 a3; first | exact (if_neg a1).trans ((if_neg a3).trans (kst_same2 a1 a2 h3)) | exact (if_neg a2).trans ((if_neg a3).trans (kst_same2 a1 a2 h3))) (inv_dn2 h1 h3 h6 (by assumption) (by assumption)) (low_dn (by assumption))
      · rw [fdiv2] at *
        have := cut_up hcut h1 (by assumption) h3 (by assumption)
        refine hK _ _ ?_
        refine ksw_end (((_, _), (_, _)), c') (by assumption) (by assumption) (fun _ h => h) trivial (all2 rfl rfl) (by intro z h2 h3; have a1 : ¬ z = _ := h2 _ (.head _); have a2 : ¬ z = _ := h2 _ (.tail _ (.head _)); have a3 : ¬ z = _ := not_mem1 h3; dsimp only at a1 a2 a3; first | exact (if_neg a1).trans ((if_neg a3).trans (kst_same2 a1 a2 h3)) | exact (if_neg a2).trans ((if_neg a3).trans (kst_same2 a1 a2 h3))) (inv_up2 h1 h3 h7 (by assumption) (by assumption)) (low_up (by assumption))
    · have e : lo = (c : Int) := by omega
      rw [e]
      exact hret _ _ _ _ (by assumption) (by assumption)
theorem kbisr4 (w : World) (p : Program) (loose : List Str) (mean : ExcName → Option Value) (mg mb : Str → Option Value)
  (dp un : Nat) (gd : Option (List Code)) (cn : Str) (cs : Scope) (a : Addr) (ccd : Value) (cl : List (Str × Addr)) (outer : List Env) (A₀ : Around) (base h₀ : Heap) (L : Addr) (m : Str → Option Value) (s : Shared) (Q E : Value → Shared → Prop) {τ : Type} (led : τ → List (Addr × Obj)) (c₀ : τ)
  (B : Below A₀ base outer h₀) (F : Fr h₀ L s.heap m) (X : (pre.heap_1 w.params).In h₀) (N : News h₀ L s.heap (led c₀)) (T : Top p loose mean mg mb h₀) (hk : cs.kind = .function) (C140 : CodeHd base 142 140) (need : Nat) (hdp : dp + 1 + need < recursionLimit)
  (la f : Addr) (vs : List Value) (ns : List Int) (nn : Nat) (hm : ∀ c, (la, listOf vs.toArray nn) ∈ led c) (zl : vs.length = ns.length) (hlen : ns.length < 2 ^ 40) (hfn : ∀ c, ∃ oc od fd sl, (f, (⟨oc, od, .func fd, sl⟩ : Obj)) ∈ led c) (hkey : ∀ (i : Nat) (v : Value), vs[i]? = some v → KeyOk w p loose mean mg mb base need led f v (ns.getD i 0)) (x : Int) (t1 t2 : Tok)
  (c : Nat) (hc : c ≤ ns.length) (hcut : ∀ i : Nat, i < ns.length → ((¬ x < ns.getD i 0) ↔ i < c))
  (hret : ∀ (c' : τ) (h' : Heap) (tk' : Nat) (u : Tok), Fr h₀ L h' m → News h₀ L h' (led c') → Q (.int (c : Int) u) { s with heap := h', toks := tk' }) :
  wpAny (model PySem.Challenge.rw_ta0044_01.row.prog w) (ktrTop dp un gd cn cs L a ccd cl outer) (call (.ref 106) [.ref la, .int x t1, .int 0 t2, .none] [("key", .ref f)]) Q E s := by
  have zv : vs.length < 2 ^ 40 := by omega
  have hm₀ := hm c₀
  revert X; k_fill; intro X
  refine wpAny_call ?_
  refine' code_def (binds := [("a", .ref la), ("x", .int x t1), ("lo", .int 0 t2), ("hi", .none), ("key", .ref f)]) ?k1 ?k2 ?k3 ?k4 ?k5 ?kA ?kF ?kK ?k6 ?k7 ?k8 ?k9 ?kB ?_ ?c2 ?c3 ?c4 ?c5
  walk_at "my enter 1"
  k_steps
  refine Stop.out ?_
  rename Fr _ _ _ _ => F'
  rename News _ _ _ _ => N'
  rename Below _ _ _ _ => B'
  rename Frag.In _ _ => X'
  rename Top _ _ _ _ _ _ => T'
  refine ksw_while (σ := ((Int × Int) × (Tok × Tok)) × τ) (fun d => led d.2) (fun c => [("lo", .int c.1.1.1 c.1.2.1), ("hi", .int c.1.1.2 c.1.2.2)]) (fun _ => True) ["mid"] (fun d => 0 ≤ d.1.1.1 ∧ d.1.1.1 ≤ d.1.1.2 ∧ d.1.1.2 ≤ ns.length ∧ (d.1.1.1 = 0 ∨ d.1.1.1 ≤ c) ∧ (d.1.1.2 = (ns.length : Int) ∨ c ≤ d.1.1.2)) (fun c => (c.1.1.2 - c.1.1.1).toNat) (((0, _), (_, _)), c₀) F' N' trivial (all2 rfl rfl) ?hp ?turn
  case hp => (simp [zl]) <;> omega
  case turn =>
    rintro ⟨⟨⟨lo, hi⟩, ⟨u1, u2⟩⟩, c₁⟩ u h tk - ⟨h1, h2, h3, h6, h7⟩ F N
    dsimp only at F N h1 h2 h3 h6 h7 ⊢
    refine ksw_opq fun K' hK => ?_
    have hm₁ := hm c₁
    obtain ⟨oc1, od1, fd1, sl1, hf1⟩ := hfn c₁
    k_steps
    · rename Fr _ _ _ _ => F2
      rename News _ _ _ _ => N2
      have hlt : ((lo + hi).fdiv 2).toNat < ns.length := by rw [fdiv2]; omega
      have hlv : ((lo + hi).fdiv 2).toNat < vs.length := by omega
      refine Stop.out (PyProof.Rows.item_list (News.isList N2 hm₁) (by rw [fdiv2]; omega) (by rw [fdiv2]; omega) (x := vs[((lo + hi).fdiv 2).toNat]'hlv) (by rw [List.getElem?_toArray]; exact List.getElem?_eq_getElem _) ?_)
      (try dsimp only)
      k_steps
      rename Fr _ _ _ _ => F3
      rename News _ _ _ _ => N3
      refine Stop.out (hkey ((lo + hi).fdiv 2).toNat _ (List.getElem?_eq_getElem hlv) _ _ _ _ _ _ _ _ _ _ _ _ _ _ _ _ c₁ B' F3 X' N3 T' rfl ?hd2 ?_)
      case hd2 => show dp + 1 + need < recursionLimit; omega
      intro c' t9 h9 tk9 F4 N4
      (try dsimp only)
      k_steps
      · rw [fdiv2] at *
        have := cut_dn hcut h1 (by assumption) h3 (Decidable.not_not.mpr (by assumption))
        refine hK _ _ ?_
        refine ksw_end (((_, _), (_, _)), c') (by assumption) (by assumption) (fun _ h => h) trivial (all2 rfl rfl) (by intro z h2 h3; have a1 : ¬ z = _ := h2 _ (.head _); have a2 : ¬ z = _ := h2 _ (.tail _ (.head _)); have a3 : ¬ z = _ := not_mem1 h3; dsimp only at a1 a2 a3; first | exact (if_neg a1).trans ((if_neg a3).trans (kst_same2 a1 a2 h3)) | exact (if_neg a2).trans ((if_neg a3).trans (kst_same2 a1 a2 h3))) (inv_dn2 h1 h3 h6 (by assumption) (by assumption)) (low_dn (by assumption))
      · rw [fdiv2] at *
        have := cut_up hcut h1 (by assumption) h3 (by assumption)
        refine hK _ _ ?_
        refine ksw_end (((_, _), (_, _)), c') (by assumption) (by assumption) (fun _ h => h) trivial (all2 rfl rfl) (by intro z h2 h3; have a1 : ¬ z = _ := h2 _ (.head _); have a2 : ¬ z = _ := h2 _ (.tail _ (.head _)); have a3 : ¬ z = _ := not_mem1 h3; dsimp only at a1 a2 a3; first | exact (if_neg a1).trans ((if_neg a3).trans (kst_same2 a1 a2 h3)) | exact (if_neg a2).trans ((if_neg a3).trans (kst_same2 a1 a2 h3))) (inv_up2 h1 h3 h7 (by assumption) (by assumption)) (low_up (by assumption))
    · have e : lo = (c : Int) := by omega
      rw [e]
      exact hret _ _ _ _ (by assumption) (by assumption)
end
end Mine
end -- U5
section -- U6
open PySem PySem.W PySem.Calls PyProof.Rows
set_option Elab.async false
set_option maxRecDepth 100000
set_option maxHeartbeats 1000000
namespace Mine
section
local macro_rules | `(tactic| walk_at "call builtin:len") => `(tactic| ((with_reducible show wpAny _ _ (call (Value.builtin "len") [Value.ref _]) _ _ _); refine' len_list (News.isList ?N ?hm) ?hf ?_; (case N => assumption); (case hm => assumption); (case hf => first | assumption | (simp only [List.size_toArray]; omega))))
local macro_rules | `(tactic| walk_at "exec While Compare cons nil") => `(tactic| refine Stop.mk ?_)
local macro_rules | `(tactic| walk_at "subscriptTail Name Name ref int") => `(tactic| refine Stop.mk ?_)
local macro_rules | `(tactic| walk_at "call ref") => `(tactic| refine Stop.mk ?_)
local macro_rules | `(tactic| walk_at "call builtin:list.insert") => `(tactic| refine Stop.mk ?_)
theorem clear_26 : True := by
  first
  | (row_walk; done)
  | trivial
theorem insl (w : World) (p : Program) (loose : List Str) (mean : ExcName → Option Value) (mg mb : Str → Option Value)
  (dp un : Nat) (gd : Option (List Code)) (cn : Str) (cs : Scope) (a : Addr) (ccd : Value) (cl : List (Str × Addr)) (outer : List Env) (A₀ : Around) (base h₀ : Heap) (L : Addr) (m : Str → Option Value) (s : Shared) (Q E : Value → Shared → Prop) (rest : List (Addr × Obj)) (la f xa : Addr) (vs : List Value) (ns : List Int) (nn : Nat)
  (B : Below A₀ base outer h₀) (F : Fr h₀ L s.heap m) (X : (pre.heap_1 w.params).In h₀) (N : News h₀ L s.heap ((la, listOf vs.toArray nn) :: rest)) (T : Top p loose mean mg mb h₀) (hk : cs.kind = .function) (C140 : CodeHd base 142 140) (hrest : ∀ q ∈ rest, q.1 ≠ la) (need : Nat) (hdp : dp + 2 + need < recursionLimit)
  (hfn : ∃ oc od fd sl, (f, (⟨oc, od, .func fd, sl⟩ : Obj)) ∈ rest) (zl : vs.length = ns.length) (hlen : ns.length < 1000) (hkey : ∀ (i : Nat) (v : Value), vs[i]? = some v → KeyOk w p loose mean mg mb base need (fun _ : Unit => (la, listOf vs.toArray nn) :: rest) f v (ns.getD i 0)) (kx : Int) (hkx : KeyOk w p loose mean mg mb base need (fun _ : Unit => (la, listOf vs.toArray nn) :: rest) f (.ref xa) kx)
  (c : Nat) (hc : c ≤ ns.length) (hcut : ∀ i : Nat, i < ns.length → ((ns.getD i 0 < kx) ↔ i < c))
  (hret : ∀ (nn' : Nat) (h' : Heap) (tk' : Nat), Fr h₀ L h' m → News h₀ L h' ((la, listOf (vs.take c ++ .ref xa :: vs.drop c).toArray nn') :: rest) → Q .none { s with heap := h', toks := tk' }) :
  wpAny (model PySem.Challenge.rw_ta0044_01.row.prog w) (ktrTop dp un gd cn cs L a ccd cl outer) (call (.ref 115) [.ref la, .ref xa] [("key", .ref f)]) Q E s := by
  obtain ⟨oc1, od1, fd1, sl1, hf1⟩ := hfn
  revert X; k_fill; intro X
  refine wpAny_call ?_
  refine' code_def (binds := [("a", .ref la), ("x", .ref xa), ("lo", .int 0 347), ("hi", .none), ("key", .ref f)]) ?k1 ?k2 ?k3 ?k4 ?k5 ?kA ?kF ?kK ?k6 ?k7 ?k8 ?k9 ?kB ?_ ?c2 ?c3 ?c4 ?c5
  walk_at "my enter 1"
  k_steps
  rename Fr _ _ _ _ => F'
  rename News _ _ _ _ => N'
  rename Below _ _ _ _ => B'
  rename Frag.In _ _ => X'
  rename Top _ _ _ _ _ _ => T'
  refine Stop.out (hkx _ _ _ _ _ _ _ _ _ _ _ _ _ _ _ _ () B' F' X' N' T' rfl ?hd1 ?_)
  case hd1 => show dp + 1 + need < recursionLimit; omega
  intro _ t9 h9 tk9 F2 N2
  (try dsimp only)
  k_steps
  rename Fr _ _ _ _ => F3
  rename News _ _ _ _ => N3
  refine Stop.out (kbisl4 w p loose mean mg mb _ _ _ _ _ _ _ _ _ _ _ _ _ _ _ _ _ (fun _ : Unit => (la, listOf vs.toArray nn) :: rest) () B' F3 X' N3 T' rfl C140 need ?hd2 la f vs ns nn (fun _ => .head _) zl (by omega) (fun _ => ⟨_, _, _, _, .tail _ hf1⟩) hkey kx _ _ c hc hcut ?_)
  case hd2 => show dp + 1 + 1 + need < recursionLimit; omega
  intro _ h8 tk8 u8 F4 N4
  (try dsimp only)
  k_steps
  rename Fr _ _ _ _ => F5
  rename News _ _ _ _ => N5
  refine Stop.out (kl_insert F5 N5 (by simp only [Builtin.List.listFitsIndex, Bool.and_eq_true, decide_eq_true_eq]; omega) rfl (.head hrest) (by rw [List.toList_toArray, sizeLine_eq]; omega) ?_)
  intro h7 F6 N6
  have e : kl_ins vs (c : Int) (.ref xa) = vs.take c ++ .ref xa :: vs.drop c := by
    unfold kl_ins
    rw [if_neg (by omega), Int.toNat_natCast, Nat.min_eq_left (by omega)]
  (try dsimp only)
  k_steps
  rename Fr _ _ _ _ => F7
  rename News _ _ _ _ => N7
  rw [e] at N7
  exact hret _ _ _ F7 N7
theorem insr (w : World) (p : Program) (loose : List Str) (mean : ExcName → Option Value) (mg mb : Str → Option Value)
  (dp un : Nat) (gd : Option (List Code)) (cn : Str) (cs : Scope) (a : Addr) (ccd : Value) (cl : List (Str × Addr)) (outer : List Env) (A₀ : Around) (base h₀ : Heap) (L : Addr) (m : Str → Option Value) (s : Shared) (Q E : Value → Shared → Prop) (rest : List (Addr × Obj)) (la f xa : Addr) (vs : List Value) (ns : List Int) (nn : Nat)
  (B : Below A₀ base outer h₀) (F : Fr h₀ L s.heap m) (X : (pre.heap_1 w.params).In h₀) (N : News h₀ L s.heap ((la, listOf vs.toArray nn) :: rest)) (T : Top p loose mean mg mb h₀) (hk : cs.kind = .function) (C140 : CodeHd base 142 140) (hrest : ∀ q ∈ rest, q.1 ≠ la) (need : Nat) (hdp : dp + 2 + need < recursionLimit)
  (hfn : ∃ oc od fd sl, (f, (⟨oc, od, .func fd, sl⟩ : Obj)) ∈ rest) (zl : vs.length = ns.length) (hlen : ns.length < 1000) (hkey : ∀ (i : Nat) (v : Value), vs[i]? = some v → KeyOk w p loose mean mg mb base need (fun _ : Unit => (la, listOf vs.toArray nn) :: rest) f v (ns.getD i 0)) (kx : Int) (hkx : KeyOk w p loose mean mg mb base need (fun _ : Unit => (la, listOf vs.toArray nn) :: rest) f (.ref xa) kx)
  (c : Nat) (hc : c ≤ ns.length) (hcut : ∀ i : Nat, i < ns.length → ((¬ kx < ns.getD i 0) ↔ i < c))
  (hret : ∀ (nn' : Nat) (h' : Heap) (tk' : Nat), Fr h₀ L h' m → News h₀ L h' ((la, listOf (vs.take c ++ .ref xa :: vs.drop c).toArray nn') :: rest) → Q .none { s with heap := h', toks := tk' }) :
  wpAny (model PySem.Challenge.rw_ta0044_01.row.prog w) (ktrTop dp un gd cn cs L a ccd cl outer) (call (.ref 97) [.ref la, .ref xa] [("key", .ref f)]) Q E s := by
  obtain ⟨oc1, od1, fd1, sl1, hf1⟩ := hfn
  revert X; k_fill; intro X
  refine wpAny_call ?_
  refine' code_def (binds := [("a", .ref la), ("x", .ref xa), ("lo", .int 0 320), ("hi", .none), ("key", .ref f)]) ?k1 ?k2 ?k3 ?k4 ?k5 ?kA ?kF ?kK ?k6 ?k7 ?k8 ?k9 ?kB ?_ ?c2 ?c3 ?c4 ?c5
  walk_at "my enter 1"
  k_steps
  rename Fr _ _ _ _ => F'
  rename News _ _ _ _ => N'
  rename Below _ _ _ _ => B'
  rename Frag.In _ _ => X'
  rename Top _ _ _ _ _ _ => T'
  refine Stop.out (hkx _ _ _ _ _ _ _ _ _ _ _ _ _ _ _ _ () B' F' X' N' T' rfl ?hd1 ?_)
  case hd1 => show dp + 1 + need < recursionLimit; omega
  intro _ t9 h9 tk9 F2 N2
  (try dsimp only)
  k_steps
  rename Fr _ _ _ _ => F3
  rename News _ _ _ _ => N3
  refine Stop.out (kbisr4 w p loose mean mg mb _ _ _ _ _ _ _ _ _ _ _ _ _ _ _ _ _ (fun _ : Unit => (la, listOf vs.toArray nn) :: rest) () B' F3 X' N3 T' rfl C140 need ?hd2 la f vs ns nn (fun _ => .head _) zl (by omega) (fun _ => ⟨_, _, _, _, .tail _ hf1⟩) hkey kx _ _ c hc hcut ?_)
  case hd2 => show dp + 1 + 1 + need < recursionLimit; omega
  intro _ h8 tk8 u8 F4 N4
  (try dsimp only)
  k_steps
  rename Fr _ _ _ _ => F5
  rename News _ _ _ _ => N5
  refine Stop.out (kl_insert F5 N5 (by simp only [Builtin.List.listFitsIndex, Bool.and_eq_true, decide_eq_true_eq]; omega) rfl (.head hrest) (by rw [List.toList_toArray, sizeLine_eq]; omega) ?_)
  intro h7 F6 N6
  have e : kl_ins vs (c : Int) (.ref xa) = vs.take c ++ .ref xa :: vs.drop c := by
    unfold kl_ins
    rw [if_neg (by omega), Int.toNat_natCast, Nat.min_eq_left (by omega)]
  (try dsimp only)
  k_steps
  rename Fr _ _ _ _ => F7
  rename News _ _ _ _ => N7
  rw [e] at N7
  exact hret _ _ _ F7 N7
end
end Mine
end -- U6
section -- U7
open PySem PySem.W PySem.Calls PyProof.Rows
set_option Elab.async false
set_option maxRecDepth 100000
set_option maxHeartbeats 1000000
namespace Mine
section
local macro_rules | `(tactic| walk_at "subscriptTail Name Constant ref int") => `(tactic| refine Stop.mk ?_)
theorem clear_27 : True := by
  first
  | (row_walk; done)
  | trivial
theorem keyRow1 (w : World) (p : Program) (loose : List Str) (mean : ExcName → Option Value) (mg mb : Str → Option Value)
  {oc0 : Value} {od0 : Option Addr} {osl0 : Array (Option Value)} {nm0 q0 : Str} {ps0 : Arguments} {s0 s1 s2 s3 s4 s5 s6 s7 s8 s9 s10 s11 s12 s13 s14 s15 s16 s17 b0 b1 b2 : Stmt} {bs e18 rs : List Stmt} {x18 it18 : Expr} {p18 : Pos} {sc : Scope} {dV0 kV0 doc0 pm0 : Value} {an0 : Option Addr} {cdv0 ct0 : Value} {te fa fb : Expr} {ta tb aa ab : List Expr} {ka kb : Option Str} {P1 P2 : Arguments} {B1 B2 : Expr} {S1 S2 : Scope} {g1 g2 gk1 gk2 ga gb gs1 gs2 gi : Pos}
  (ho : (pre.heap_1 w.params).lookup 143 = some ⟨oc0, od0, .func (fnOf nm0 q0 ps0 (s0 :: s1 :: s2 :: s3 :: s4 :: s5 :: s6 :: s7 :: s8 :: s9 :: s10 :: s11 :: s12 :: s13 :: s14 :: s15 :: s16 :: s17 :: .For x18 it18 (b0 :: b1 :: b2 :: .If te [.Assign ta (.Call fa aa [⟨ka, .Lambda P1 B1 S1 g1, gk1⟩] ga) gs1] [.Assign tb (.Call fb ab [⟨kb, .Lambda P2 B2 S2 g2, gk2⟩] gb) gs2] gi :: bs) e18 p18 :: rs) sc dV0 kV0 doc0 pm0 an0 cdv0 ct0), osl0⟩)
  (base : Heap) (C140 : CodeHd base 142 140) (f c' xa : Addr) (oc : Obj) (pm ctv : Value) (vc : Array Value) (tc : Tok) (x y : Int) (t1 t2 : Tok) (nx : Nat) (news : List (Addr × Obj))
  (oF oX : Obj) (hoF : kla_obj "<lambda>" lamQ P1 B1 S1 [] pm c' ctv = oF) (hoX : listOf #[.int x t1, .int y t2] nx = oX) (hf : (f, oF) ∈ news) (hc : (c', oc) ∈ news) (d1 : oc.data = .fields vc) (d2 : vc[1]? = some (.str lamQ tc)) (hx : (xa, oX) ∈ news) :
  KeyOk w p loose mean mg mb base 5 (fun _ : Unit => news) f (.ref xa) y := by
  have e_sc := congrArg (fun o => scopeOf o) ho
  conv at e_sc => lhs; whnf
  conv at e_sc => rhs; whnf
  have e_nm : Str.ofString "law" = nm0 := congrArg (fun o => nameOf o) ho
  have e_c3 := congrArg (fun o => stmtAt (forBody (stmtAt (bodyOf o) 18)) 3) ho
  conv at e_c3 => lhs; whnf
  conv at e_c3 => rhs; whnf
  clear ho
  subst e_sc
  subst e_nm
  cases e_c3
  subst hoF hoX
  intro dp un gd cn cs a ccd cl outer A₀ h₀ L m s Q E _ B F X N T hk hdp hret
  revert X; k_fill; intro X
  refine wpAny_call ?_
  refine' kla_code (binds := [("one", .ref xa)]) ?k1 ?k2 ?k3 ?k4 ?k5 ?kA ?kF ?kK ?k6 ?k7 ?k8 ?k9 ?kB ?_ ?c2 ?c3 ?c4 ?c5
  (case kA => exact rfl); (case kF => exact rfl); (case kK => exact hk); (case k1 => exact B); (case k2 => exact F); (case k3 => exact X); (case k4 => exact N); (case k5 => exact T); (case k6 => exact hf); (case k7 => exact codeRec_news N hc d1 d2); (case k8 => show dp < recursionLimit; omega); (case k9 => exact rfl); (case c5 => decide); (case kB => exact locs rfl); (case c2 => exact rfl); (case c3 => exact rfl); (case c4 => exact rfl)
  intro g' L' h' FG' F' N' B' X' T'
  (try dsimp only)
  (try k_fold)
  k_steps
  rename Fr _ _ _ _ => F2
  rename News _ _ _ _ => N2
  refine Stop.out (PyProof.Rows.item_list (s := ⟨_, _, _, _, _⟩) (News.isList N2 hx) (by decide) (by decide) (x := .int y t2) rfl ?_)
  (try dsimp only)
  k_steps
  rename Fr _ _ _ _ => F9
  rename News _ _ _ _ => N9
  exact hret () _ _ _ F9 N9
theorem keyRow2 (w : World) (p : Program) (loose : List Str) (mean : ExcName → Option Value) (mg mb : Str → Option Value)
  {oc0 : Value} {od0 : Option Addr} {osl0 : Array (Option Value)} {nm0 q0 : Str} {ps0 : Arguments} {s0 s1 s2 s3 s4 s5 s6 s7 s8 s9 s10 s11 s12 s13 s14 s15 s16 s17 b0 b1 b2 : Stmt} {bs e18 rs : List Stmt} {x18 it18 : Expr} {p18 : Pos} {sc : Scope} {dV0 kV0 doc0 pm0 : Value} {an0 : Option Addr} {cdv0 ct0 : Value} {te fa fb : Expr} {ta tb aa ab : List Expr} {ka kb : Option Str} {P1 P2 : Arguments} {B1 B2 : Expr} {S1 S2 : Scope} {g1 g2 gk1 gk2 ga gb gs1 gs2 gi : Pos}
  (ho : (pre.heap_1 w.params).lookup 143 = some ⟨oc0, od0, .func (fnOf nm0 q0 ps0 (s0 :: s1 :: s2 :: s3 :: s4 :: s5 :: s6 :: s7 :: s8 :: s9 :: s10 :: s11 :: s12 :: s13 :: s14 :: s15 :: s16 :: s17 :: .For x18 it18 (b0 :: b1 :: b2 :: .If te [.Assign ta (.Call fa aa [⟨ka, .Lambda P1 B1 S1 g1, gk1⟩] ga) gs1] [.Assign tb (.Call fb ab [⟨kb, .Lambda P2 B2 S2 g2, gk2⟩] gb) gs2] gi :: bs) e18 p18 :: rs) sc dV0 kV0 doc0 pm0 an0 cdv0 ct0), osl0⟩)
  (base : Heap) (C140 : CodeHd base 142 140) (f c' xa : Addr) (oc : Obj) (pm ctv : Value) (vc : Array Value) (tc : Tok) (x y : Int) (t1 t2 : Tok) (nx : Nat) (news : List (Addr × Obj))
  (oF oX : Obj) (hoF : kla_obj "<lambda>" lamQ P2 B2 S2 [] pm c' ctv = oF) (hoX : listOf #[.int x t1, .int y t2] nx = oX) (hf : (f, oF) ∈ news) (hc : (c', oc) ∈ news) (d1 : oc.data = .fields vc) (d2 : vc[1]? = some (.str lamQ tc)) (hx : (xa, oX) ∈ news) :
  KeyOk w p loose mean mg mb base 5 (fun _ : Unit => news) f (.ref xa) y := by
  have e_sc := congrArg (fun o => scopeOf o) ho
  conv at e_sc => lhs; whnf
  conv at e_sc => rhs; whnf
  have e_nm : Str.ofString "law" = nm0 := congrArg (fun o => nameOf o) ho
  have e_c3 := congrArg (fun o => stmtAt (forBody (stmtAt (bodyOf o) 18)) 3) ho
  conv at e_c3 => lhs; whnf
  conv at e_c3 => rhs; whnf
  clear ho
  subst e_sc
  subst e_nm
  cases e_c3
  subst hoF hoX
  intro dp un gd cn cs a ccd cl outer A₀ h₀ L m s Q E _ B F X N T hk hdp hret
  revert X; k_fill; intro X
  refine wpAny_call ?_
  refine' kla_code (binds := [("one", .ref xa)]) ?k1 ?k2 ?k3 ?k4 ?k5 ?kA ?kF ?kK ?k6 ?k7 ?k8 ?k9 ?kB ?_ ?c2 ?c3 ?c4 ?c5
  (case kA => exact rfl); (case kF => exact rfl); (case kK => exact hk); (case k1 => exact B); (case k2 => exact F); (case k3 => exact X); (case k4 => exact N); (case k5 => exact T); (case k6 => exact hf); (case k7 => exact codeRec_news N hc d1 d2); (case k8 => show dp < recursionLimit; omega); (case k9 => exact rfl); (case c5 => decide); (case kB => exact locs rfl); (case c2 => exact rfl); (case c3 => exact rfl); (case c4 => exact rfl)
  intro g' L' h' FG' F' N' B' X' T'
  (try dsimp only)
  (try k_fold)
  k_steps
  rename Fr _ _ _ _ => F2
  rename News _ _ _ _ => N2
  refine Stop.out (PyProof.Rows.item_list (s := ⟨_, _, _, _, _⟩) (News.isList N2 hx) (by decide) (by decide) (x := .int y t2) rfl ?_)
  (try dsimp only)
  k_steps
  rename Fr _ _ _ _ => F9
  rename News _ _ _ _ => N9
  exact hret () _ _ _ F9 N9
end
end Mine
end -- U7
section -- U8
open PySem PySem.W PySem.Calls PyProof.Rows
set_option Elab.async false
set_option maxRecDepth 100000
set_option maxHeartbeats 1000000
namespace Mine
theorem RowsAt.insert {led : List (Addr × Obj)} {d : Addr} {x y : Int} {t u : Tok} {k : Nat} {vs : List Value} {ps : List (Int × Int)} (hd : (d, listOf #[.int x t, .int y u] k) ∈ led) (h : RowsAt led vs ps) : ∀ c : Nat, RowsAt led (vs.take c ++ .ref d :: vs.drop c) (ps.take c ++ (x, y) :: ps.drop c) := by
  induction h with
  | nil => intro c; simp; exact .cons hd .nil
  | cons h1 h2 ih =>
    intro c
    cases c with
    | zero => exact .cons hd (.cons h1 h2)
    | succ c => exact .cons h1 (ih c)
theorem RowsAt.get {led : List (Addr × Obj)} {vs : List Value} {ps : List (Int × Int)} (h : RowsAt led vs ps) : ∀ {i : Nat} {v : Value}, vs[i]? = some v → ∃ a x y t u k, v = .ref a ∧ (a, listOf #[.int x t, .int y u] k) ∈ led ∧ (ps.map (·.2)).getD i 0 = y ∧ (ps.map (·.1)).getD i 0 = x := by
  induction h with
  | nil => intro i v h; simp at h
  | cons h1 h2 ih =>
    intro i v h
    cases i with
    | zero => simp at h; exact ⟨_, _, _, _, _, _, h.symm, h1, rfl, rfl⟩
    | succ i =>
      obtain ⟨a, x, y, t, u, k, e1, e2, e3, e4⟩ := ih (i := i) (v := v) (by simpa using h)
      exact ⟨a, x, y, t, u, k, e1, e2, by simpa using e3, by simpa using e4⟩
theorem tab_in {h₀ h : Heap} {L : Addr} {x t : Addr × Obj} {a b : List (Addr × Obj)} (N : News h₀ L h (x :: t :: (a ++ b))) : News h₀ L h (t :: (a ++ (x :: b))) := by
  refine News.sub N fun q hq => ?_
  simp only [List.mem_append, List.mem_cons] at hq ⊢
  rcases hq with h | h | h | h <;> simp [h]
theorem tab_out {f t x l : Addr × Obj} {a b : List (Addr × Obj)} : ∀ q ∈ l :: f :: t :: (a ++ (x :: b)), q ∈ f :: t :: (a ++ (x :: l :: b)) := by
  intro q hq
  simp only [List.mem_append, List.mem_cons] at hq ⊢
  rcases hq with h | h | h | h | h | h <;> simp [h]
theorem tab_back {f t x l : Addr × Obj} {a b : List (Addr × Obj)} : ∀ q ∈ t :: (a ++ (l :: x :: b)), q ∈ l :: f :: t :: (a ++ (x :: b)) := by
  intro q hq
  simp only [List.mem_append, List.mem_cons] at hq ⊢
  rcases hq with h | h | h | h | h <;> simp [h]
theorem tab_ne {x : Addr} {o : Obj} {a b : List (Addr × Obj)} (h : ∀ q ∈ a ++ b, q.1 ≠ 140) (l : (@LT.lt Nat _ 140 x) ∧ AllLt x (a ++ b)) : ∀ q ∈ a ++ ((x, o) :: b), q.1 ≠ 140 := by
  intro q hq
  simp only [List.mem_append, List.mem_cons] at hq
  rcases hq with hq | hq | hq
  · exact h q (List.mem_append_left _ hq)
  · rw [hq]; exact (Nat.ne_of_lt l.1).symm
  · exact h q (List.mem_append_right _ hq)
theorem mem_cds {ks : List Cd} {k : Cd} (t : Addr × Obj) (b : List (Addr × Obj)) (h : k ∈ ks) : (k.c, k.o) ∈ t :: (cdsL ks ++ b) := .tail _ (List.mem_append_left _ (List.mem_map_of_mem (f := fun k : Cd => (k.c, k.o)) h))
theorem cds_back {ks : List Cd} {q : Addr × Obj} (h : q ∈ cdsL ks) : ∃ k ∈ ks, q = (k.c, k.o) := by
  obtain ⟨k, h1, h2⟩ := List.mem_map.mp h
  exact ⟨k, h1, h2.symm⟩
/-- none but the row's own address -/
theorem ins_rest {lr f x1 : Addr} {ox1 ol of : Obj} {ks ks' : List Cd} {others : List (Addr × Obj)} (hlr : ∀ q ∈ tabE ks :: (cdsL ks ++ others), q.1 ≠ lr) (l1 : (@LT.lt Nat _ 140 x1) ∧ AllLt x1 (cdsL ks ++ ((lr, ol) :: others)))
    (hnew : ∀ k ∈ ks', k ∈ ks ∨ ∀ q ∈ tabE ks :: (cdsL ks ++ ((x1, ox1) :: (lr, ol) :: others)), @LT.lt Nat _ q.1 k.c) (hlt : ∀ q ∈ tabE ks' :: (cdsL ks' ++ ((x1, ox1) :: (lr, ol) :: others)), @LT.lt Nat _ q.1 f) :
    ∀ q ∈ (f, of) :: tabE ks' :: (cdsL ks' ++ ((x1, ox1) :: others)), q.1 ≠ lr := by
  intro q hq
  have hlr1 : (lr, ol) ∈ (x1, ox1) :: (lr, ol) :: others := .tail _ (.head _)
  rcases List.mem_cons.mp hq with hq | hq
  · rw [hq]; exact (Nat.ne_of_lt (hlt (lr, ol) (.tail _ (List.mem_append_right _ hlr1)))).symm
  · rcases List.mem_cons.mp hq with hq | hq
    · rw [hq]; exact hlr (tabE ks) (.head _)
    · rcases List.mem_append.mp hq with hq | hq
      · obtain ⟨k, hk, e⟩ := cds_back hq
        rw [e]
        rcases hnew k hk with hk | hk
        · exact hlr (k.c, k.o) (mem_cds _ _ hk)
        · exact (Nat.ne_of_lt (hk (lr, ol) (.tail _ (List.mem_append_right _ hlr1)))).symm
      · rcases List.mem_cons.mp hq with hq | hq
        · rw [hq]; exact (Nat.ne_of_lt (allLt_mem l1.2 (lr, ol) (List.mem_append_right _ (.head _)))).symm
        · exact hlr q (.tail _ (List.mem_append_right _ hq))
section
local macro_rules | `(tactic| walk_at "call ref") => `(tactic| refine Stop.mk ?_)
local macro_rules | `(tactic| walk_at "eval Lambda") => `(tactic| refine Stop.mk ?_)
local macro_rules | `(tactic| walk_at "binaryOp Mod int int") => `(tactic| refine Stop.mk ?_)
theorem clear_28 : True := by
  first
  | (row_walk; done)
  | trivial
theorem ins2 (w : World) (p : Program) (loose : List Str) (mean : ExcName → Option Value) (mg mb : Str → Option Value)
  {oc0 : Value} {od0 : Option Addr} {osl0 : Array (Option Value)} {nm0 q0 : Str} {ps0 : Arguments} {s0 s1 s2 s3 s4 s5 s6 s7 s8 s9 s10 s11 s12 s13 s14 s15 s16 s17 b0 b1 b2 b4 : Stmt} {bs e18 rs : List Stmt} {x18 it18 : Expr} {p18 : Pos} {sc : Scope} {dV0 kV0 doc0 pm0 : Value} {an0 : Option Addr} {cdv0 ct0 : Value} {te fa fb : Expr} {ta tb aa ab : List Expr} {ka kb : Option Str} {P1 P2 : Arguments} {B1 B2 : Expr} {S1 S2 : Scope} {g1 g2 gk1 gk2 ga gb gs1 gs2 gi : Pos}
  (ho : (pre.heap_1 w.params).lookup 143 = some ⟨oc0, od0, .func (fnOf nm0 q0 ps0 (s0 :: s1 :: s2 :: s3 :: s4 :: s5 :: s6 :: s7 :: s8 :: s9 :: s10 :: s11 :: s12 :: s13 :: s14 :: s15 :: s16 :: s17 :: .For x18 it18 (b0 :: b1 :: b2 :: .If te [.Assign ta (.Call fa aa [⟨ka, .Lambda P1 B1 S1 g1, gk1⟩] ga) gs1] [.Assign tb (.Call fb ab [⟨kb, .Lambda P2 B2 S2 g2, gk2⟩] gb) gs2] gi :: b4 :: bs) e18 p18 :: rs) sc dV0 kV0 doc0 pm0 an0 cdv0 ct0), osl0⟩)
  (bs' : List Stmt) (h₀ : Heap) (L : Addr) (m : Str → Option Value) (s : Shared) (Q : Flow → Shared → Prop)
  (n k : Nat) (n1 : 1 ≤ n) (n2 : n ≤ 10) (k2 : k ≤ 10) (tn t1 t2 : Tok) (lr : Addr) (vs : List Value) (nn : Nat) (ps : List (Int × Int)) (ks : List Cd) (others : List (Addr × Obj)) (hks : CdOk lamQ ks) (h140 : ∀ q ∈ cdsL ks ++ ((lr, listOf vs.toArray nn) :: others), q.1 ≠ 140) (hlr : ∀ q ∈ tabE ks :: (cdsL ks ++ others), q.1 ≠ lr) (hrow : RowsAt others vs ps) (zp : ps.length ≤ 20) (hnk : n + k ≤ ps.length)
  (hcut : ∀ i : Nat, i < ps.length → (((ps.map (·.2)).getD i 0 ≤ (k : Int)) ↔ i < n + k))
  (B : Below callerA h₀ [] h₀) (F : Fr h₀ L s.heap m) (X : (pre.heap_1 w.params).In h₀) (N : News h₀ L s.heap (tabE ks :: (cdsL ks ++ ((lr, listOf vs.toArray nn) :: others)))) (C140 : CodeHd h₀ 142 140)
  (T : Top p loose mean mg mb h₀)
  (m1 : m "n" = some (.int (n : Int) tn)) (m2 : m "turn" = some (.int (-((k : Int) + 1)) t1)) (m3 : m "half" = some (.int ((n : Int) + k) t2)) (m4 : m "row" = some (.ref lr))
  (hret : ∀ (x1 : Addr) (ox1 : Obj) (y : Int) (u1 u2 : Tok) (ks' : List Cd) (nn' : Nat) (h' : Heap) (tk : Nat) (m' : Str → Option Value), ox1 = listOf #[.int (-((n : Int) + k)) u1, .int y u2] 0 → y ≤ (k : Int) + 1 → CdOk lamQ ks' → ((@LT.lt Nat _ 140 x1) ∧ AllLt x1 (cdsL ks ++ ((lr, listOf vs.toArray nn) :: others))) →
    (∀ k ∈ ks', k ∈ ks ∨ ∀ q ∈ tabE ks :: (cdsL ks ++ ((x1, ox1) :: (lr, listOf vs.toArray nn) :: others)), @LT.lt Nat _ q.1 k.c) → (∀ q ∈ tabE ks' :: (cdsL ks' ++ ((x1, ox1) :: others)), q.1 ≠ lr) → (∀ q ∈ cdsL ks' ++ ((x1, ox1) :: (lr, listOf vs.toArray nn) :: others), q.1 ≠ 140) → Fr h₀ L h' m' → (∀ z : Str, z ≠ "told" → m' z = m z) →
    News h₀ L h' (tabE ks' :: (cdsL ks' ++ ((lr, listOf (vs.take (n + k) ++ .ref x1 :: vs.drop (n + k)).toArray nn') :: (x1, ox1) :: others))) →
    wpAny (model PySem.Challenge.rw_ta0044_01.row.prog w) (callerA.deeper (envOfC nm0 sc L 143 (.ref 142))) (execs bs' (envOfC nm0 sc L 143 (.ref 142))) Q (fun _ _ => False) { s with heap := h', toks := tk }) :
  wpAny (model PySem.Challenge.rw_ta0044_01.row.prog w) (callerA.deeper (envOfC nm0 sc L 143 (.ref 142))) (execs (.If te [.Assign ta (.Call fa aa [⟨ka, .Lambda P1 B1 S1 g1, gk1⟩] ga) gs1] [.Assign tb (.Call fb ab [⟨kb, .Lambda P2 B2 S2 g2, gk2⟩] gb) gs2] gi :: b4 :: bs') (envOfC nm0 sc L 143 (.ref 142))) Q (fun _ _ => False) s := by
  have e_sc := congrArg (fun o => scopeOf o) ho
  conv at e_sc => lhs; whnf
  conv at e_sc => rhs; whnf
  have e_nm : Str.ofString "law" = nm0 := congrArg (fun o => nameOf o) ho
  have e_c3 := congrArg (fun o => stmtAt (forBody (stmtAt (bodyOf o) 18)) 3) ho
  conv at e_c3 => lhs; whnf
  conv at e_c3 => rhs; whnf
  have e_b4 := congrArg (fun o => stmtAt (forBody (stmtAt (bodyOf o) 18)) 4) ho
  conv at e_b4 => lhs; whnf
  conv at e_b4 => rhs; whnf
  clear ho
  subst e_sc
  subst e_nm
  cases e_c3
  subst e_b4
  have eM : kstB m [("n", .int (n : Int) tn), ("turn", .int (-((k : Int) + 1)) t1), ("half", .int ((n : Int) + k) t2), ("row", .ref lr)] = m := funext fun z => kstB_eq (by simp [m1, m2, m3, m4]) fun _ => rfl
  have F' : Fr h₀ L s.heap (kstB m [("n", .int (n : Int) tn), ("turn", .int (-((k : Int) + 1)) t1), ("half", .int ((n : Int) + k) t2), ("row", .ref lr)]) := by rw [eM]; exact F
  clear F
  have X0 := Hide.mk X
  revert X; k_fill; intro X
  (try k_fold)
  k_steps
  refine Stop.out (my_mod (by decide) fun r0 t0 e0 l0 u0 => ?_)
  (try dsimp only)
  k_steps
  · rename Fr _ _ _ _ => F2
    rename News _ _ _ _ => N2
    rename (@LT.lt Nat _ 140 _) ∧ _ => l1
    rename Addr => x1
    have hkv : - -((k : Int) + 1) = k + 1 := by omega
    generalize hx1 : (listOf _ 0 : Obj) = ox1 at N2
    refine Stop.out (kla_eval rfl (lamAny (qual := lamQ) (ks := ks) (others := (x1, ox1) :: (lr, listOf vs.toArray nn) :: others) F2 (tab_in N2) T C140 rfl hks (tab_ne h140 l1) rfl ?_))
    intro f k' ctv ks' h9 tk9 hks' hk' hnew F3 N3 hoth3 hlt
    obtain ⟨vc, tc, dc1, dc2⟩ := hks' k' hk'
    generalize hoF : kla_obj _ _ _ _ _ _ _ _ _ = oF at N3
    have hres := ins_rest (of := oF) hlr l1 hnew hlt
    replace N3 := News.sub N3 tab_out
    have hmc : (k'.c, k'.o) ∈ (lr, listOf vs.toArray nn) :: (f, oF) :: tabE ks' :: (cdsL ks' ++ ((x1, ox1) :: others)) := .tail _ (.tail _ (mem_cds _ _ hk'))
    have hmo : ∀ q ∈ others, q ∈ (lr, listOf vs.toArray nn) :: (f, oF) :: tabE ks' :: (cdsL ks' ++ ((x1, ox1) :: others)) := fun q hq => .tail _ (.tail _ (.tail _ (List.mem_append_right _ (.tail _ hq))))
    have hmx : (x1, ox1) ∈ (lr, listOf vs.toArray nn) :: (f, oF) :: tabE ks' :: (cdsL ks' ++ ((x1, ox1) :: others)) := .tail _ (.tail _ (.tail _ (List.mem_append_right _ (.head _))))
    have hmF : (f, oF) ∈ (lr, listOf vs.toArray nn) :: (f, oF) :: tabE ks' :: (cdsL ks' ++ ((x1, ox1) :: others)) := .tail _ (.head _)
    have hfn : ∃ oc od fd sl, (f, (⟨oc, od, .func fd, sl⟩ : Obj)) ∈ (f, oF) :: tabE ks' :: (cdsL ks' ++ ((x1, ox1) :: others)) := ⟨_, _, _, _, by rw [← hoF]; exact .head _⟩
    have zl : vs.length = (ps.map (·.2)).length := by rw [hrow.length, List.length_map]
    have zm : (ps.map (·.2)).length = ps.length := List.length_map _
    have hkey : ∀ (i : Nat) (v : Value), vs[i]? = some v → KeyOk w p loose mean mg mb h₀ 5 (fun _ : Unit => (lr, listOf vs.toArray nn) :: (f, oF) :: tabE ks' :: (cdsL ks' ++ ((x1, ox1) :: others))) f v ((ps.map (·.2)).getD i 0) := by
      intro i v hv
      obtain ⟨a, x, y, t, u, kk, rfl, hm, e1, _⟩ := hrow.get hv
      rw [e1]
      exact keyRow1 w p loose mean mg mb (ho := rfl) h₀ C140 f k'.c a k'.o _ ctv vc tc x y t u kk _ oF _ hoF rfl hmF hmc dc1 dc2 (hmo _ hm)
    have hkx := keyRow1 w p loose mean mg mb (ho := rfl) h₀ C140 f k'.c x1 k'.o _ ctv vc tc _ _ _ _ 0 _ oF ox1 hoF hx1 hmF hmc dc1 dc2 hmx
    rw [hkv] at hkx
    (try dsimp only)
    k_steps
    rename Fr _ _ _ _ => F4
    rename News _ _ _ _ => N4
    refine Stop.out ?_
    show wpAny (model PySem.Challenge.rw_ta0044_01.row.prog w) (ktrTop lawDp 7 (some []) _ _ L _ _ (cellsFrom (L + 1) _ []) []) (call (.ref 115) [.ref lr, .ref x1] [("key", .ref f)]) _ _ _
    refine insl w p loose mean mg mb lawDp 7 (some []) _ _ _ _ (cellsFrom (L + 1) _ []) [] callerA h₀ h₀ L (kstB m [("n", .int (n : Int) tn), ("turn", .int (-((k : Int) + 1)) t1), ("half", .int ((n : Int) + k) t2), ("row", .ref lr)]) ⟨h9, _, _, _, _⟩ _ _ ((f, oF) :: tabE ks' :: (cdsL ks' ++ ((x1, ox1) :: others))) lr f x1 vs (ps.map (·.2)) nn B ?F4b1 ?X4b1 ?N4b1 ?T4b1 ?hk4b1 C140 hres 5 ?dp4b1 hfn zl ?len4b1 hkey _ hkx (n + k) ?c4b1 ?cut4b1 ?_
    case F4b1 => exact F4
    case X4b1 => exact X0.out
    case N4b1 => exact N4
    case T4b1 => exact T
    case hk4b1 => rfl
    case dp4b1 => decide
    case len4b1 => omega
    case c4b1 => omega
    case cut4b1 => intro i hi; rw [← hcut i (by omega)]; omega
    intro nn' h8 tk8 F5 N5
    (try dsimp only)
    k_steps
    rename Fr _ _ _ _ => F6
    rename News _ _ _ _ => N6
    rw [eM] at F6
    exact hret x1 ox1 _ _ _ ks' nn' _ _ _ hx1.symm (by omega) hks' l1 hnew (fun q hq => hres q (.tail _ hq)) hoth3 F6 (fun z hz => if_neg hz) (News.sub N6 tab_back)
  · rename Fr _ _ _ _ => F2
    rename News _ _ _ _ => N2
    rename (@LT.lt Nat _ 140 _) ∧ _ => l1
    rename Addr => x1
    have hkv : -1 - -((k : Int) + 1) = k := by omega
    generalize hx1 : (listOf _ 0 : Obj) = ox1 at N2
    refine Stop.out (kla_eval rfl (lamAny (qual := lamQ) (ks := ks) (others := (x1, ox1) :: (lr, listOf vs.toArray nn) :: others) F2 (tab_in N2) T C140 rfl hks (tab_ne h140 l1) rfl ?_))
    intro f k' ctv ks' h9 tk9 hks' hk' hnew F3 N3 hoth3 hlt
    obtain ⟨vc, tc, dc1, dc2⟩ := hks' k' hk'
    generalize hoF : kla_obj _ _ _ _ _ _ _ _ _ = oF at N3
    have hres := ins_rest (of := oF) hlr l1 hnew hlt
    replace N3 := News.sub N3 tab_out
    have hmc : (k'.c, k'.o) ∈ (lr, listOf vs.toArray nn) :: (f, oF) :: tabE ks' :: (cdsL ks' ++ ((x1, ox1) :: others)) := .tail _ (.tail _ (mem_cds _ _ hk'))
    have hmo : ∀ q ∈ others, q ∈ (lr, listOf vs.toArray nn) :: (f, oF) :: tabE ks' :: (cdsL ks' ++ ((x1, ox1) :: others)) := fun q hq => .tail _ (.tail _ (.tail _ (List.mem_append_right _ (.tail _ hq))))
    have hmx : (x1, ox1) ∈ (lr, listOf vs.toArray nn) :: (f, oF) :: tabE ks' :: (cdsL ks' ++ ((x1, ox1) :: others)) := .tail _ (.tail _ (.tail _ (List.mem_append_right _ (.head _))))
    have hmF : (f, oF) ∈ (lr, listOf vs.toArray nn) :: (f, oF) :: tabE ks' :: (cdsL ks' ++ ((x1, ox1) :: others)) := .tail _ (.head _)
    have hfn : ∃ oc od fd sl, (f, (⟨oc, od, .func fd, sl⟩ : Obj)) ∈ (f, oF) :: tabE ks' :: (cdsL ks' ++ ((x1, ox1) :: others)) := ⟨_, _, _, _, by rw [← hoF]; exact .head _⟩
    have zl : vs.length = (ps.map (·.2)).length := by rw [hrow.length, List.length_map]
    have zm : (ps.map (·.2)).length = ps.length := List.length_map _
    have hkey : ∀ (i : Nat) (v : Value), vs[i]? = some v → KeyOk w p loose mean mg mb h₀ 5 (fun _ : Unit => (lr, listOf vs.toArray nn) :: (f, oF) :: tabE ks' :: (cdsL ks' ++ ((x1, ox1) :: others))) f v ((ps.map (·.2)).getD i 0) := by
      intro i v hv
      obtain ⟨a, x, y, t, u, kk, rfl, hm, e1, _⟩ := hrow.get hv
      rw [e1]
      exact keyRow2 w p loose mean mg mb (ho := rfl) h₀ C140 f k'.c a k'.o _ ctv vc tc x y t u kk _ oF _ hoF rfl hmF hmc dc1 dc2 (hmo _ hm)
    have hkx := keyRow2 w p loose mean mg mb (ho := rfl) h₀ C140 f k'.c x1 k'.o _ ctv vc tc _ _ _ _ 0 _ oF ox1 hoF hx1 hmF hmc dc1 dc2 hmx
    rw [hkv] at hkx
    (try dsimp only)
    k_steps
    rename Fr _ _ _ _ => F4
    rename News _ _ _ _ => N4
    refine Stop.out ?_
    show wpAny (model PySem.Challenge.rw_ta0044_01.row.prog w) (ktrTop lawDp 7 (some []) _ _ L _ _ (cellsFrom (L + 1) _ []) []) (call (.ref 97) [.ref lr, .ref x1] [("key", .ref f)]) _ _ _
    refine insr w p loose mean mg mb lawDp 7 (some []) _ _ _ _ (cellsFrom (L + 1) _ []) [] callerA h₀ h₀ L (kstB m [("n", .int (n : Int) tn), ("turn", .int (-((k : Int) + 1)) t1), ("half", .int ((n : Int) + k) t2), ("row", .ref lr)]) ⟨h9, _, _, _, _⟩ _ _ ((f, oF) :: tabE ks' :: (cdsL ks' ++ ((x1, ox1) :: others))) lr f x1 vs (ps.map (·.2)) nn B ?F4b2 ?X4b2 ?N4b2 ?T4b2 ?hk4b2 C140 hres 5 ?dp4b2 hfn zl ?len4b2 hkey _ hkx (n + k) ?c4b2 ?cut4b2 ?_
    case F4b2 => exact F4
    case X4b2 => exact X0.out
    case N4b2 => exact N4
    case T4b2 => exact T
    case hk4b2 => rfl
    case dp4b2 => decide
    case len4b2 => omega
    case c4b2 => omega
    case cut4b2 => intro i hi; rw [← hcut i (by omega)]; omega
    intro nn' h8 tk8 F5 N5
    (try dsimp only)
    k_steps
    rename Fr _ _ _ _ => F6
    rename News _ _ _ _ => N6
    rw [eM] at F6
    exact hret x1 ox1 _ _ _ ks' nn' _ _ _ hx1.symm (by omega) hks' l1 hnew (fun q hq => hres q (.tail _ hq)) hoth3 F6 (fun z hz => if_neg hz) (News.sub N6 tab_back)
end
end Mine
end -- U8
section -- P4
open PySem PySem.W PySem.Calls PyProof.Rows
set_option Elab.async false
namespace Mine
variable {c : Par}
theorem Par.Ok.quo_mono (h : c.Ok) {i : Nat} : ∀ {j : Nat}, i ≤ j → c.quo i ≤ c.quo j
  | 0, hj => by rw [Nat.le_zero.mp hj]; exact Int.le_refl _
  | j + 1, hj => by
    rcases Nat.lt_or_ge j i with q | q
    · rw [show i = j + 1 by omega]; exact Int.le_refl _
    · have ih := h.quo_mono (j := j) q
      have s := h.step j
      cases hm : c.mark j with
      | true => have := (s.1 hm).2; omega
      | false => have := (s.2 hm).2; omega
theorem Par.Ok.marks_len (h : c.Ok) : ∀ N : Nat, (((List.range N).filter c.mark).length : Int) = c.quo N
  | 0 => by rw [h.zero.2]; rfl
  | N + 1 => by
    have ih := h.marks_len N
    have s := h.step N
    rw [List.range_succ, List.filter_append, List.length_append, Int.natCast_add, ih]
    cases hm : c.mark N with
    | true => rw [(s.1 hm).2]; simp [hm]
    | false => rw [(s.2 hm).2]; simp [hm]
theorem Par.Ok.marks_nth (h : c.Ok) (j : Nat) : ∀ N : Nat, j < ((List.range N).filter c.mark).length → ∃ k, k < N ∧ ((List.range N).filter c.mark)[j]? = some k ∧ c.mark k = true ∧ c.quo (k + 1) = j + 1
  | 0, hj => by simp at hj
  | N + 1, hj => by
    have hl := h.marks_len N
    have s := h.step N
    rw [List.range_succ, List.filter_append] at hj ⊢
    rcases Nat.lt_or_ge j ((List.range N).filter c.mark).length with q | q
    · obtain ⟨k, h1, h2, h3, h4⟩ := h.marks_nth j N q
      exact ⟨k, by omega, by rw [List.getElem?_append_left q]; exact h2, h3, h4⟩
    · cases hm : c.mark N with
      | false => simp [hm] at hj; omega
      | true =>
        have e : List.filter c.mark [N] = [N] := by simp [hm]
        rw [e] at hj ⊢
        rw [List.length_append, List.length_singleton] at hj
        have ej : j = ((List.range N).filter c.mark).length := by omega
        refine ⟨N, by omega, ?_, hm, ?_⟩
        · rw [List.getElem?_append_right q, ej, Nat.sub_self]; rfl
        · rw [(s.1 hm).2, ← hl, ej]
/-- the n-th mark, by the part below nought -/
theorem Par.Ok.mark_turn (h : c.Ok) {k n : Nat} (hm : c.mark k = true) (hq : c.quo (k + 1) = n) : 0 < c.P ∧ (c.f - c.W * n) / c.P = -((k : Int) + 1) ∧ (c.f - c.W * n) % c.P = c.pail (k + 1) := by
  have s := ((h.step k).1 hm).1
  have p0 := h.pail0 (k + 1)
  have pW := h.pailW k
  have hP : 0 < c.P := by omega
  have sp := h.split (k + 1)
  rw [hq] at sp
  have e : c.f - c.W * n = c.pail (k + 1) + c.P * (-((k : Int) + 1)) := by
    rw [Int.mul_neg]
    have : ((k + 1 : Nat) : Int) = (k : Int) + 1 := by omega
    rw [this] at sp
    omega
  refine ⟨hP, ?_, ?_⟩
  · rw [e, Int.add_mul_ediv_left _ _ (by omega), Int.ediv_eq_zero_of_lt p0 (by omega)]; omega
  · rw [e, Int.add_mul_emod_self_left]; exact Int.emod_eq_of_lt p0 (by omega)
/-- the row after j marks -/
def Par.Row (c : Par) (N j : Nat) (ps : List (Int × Int)) : Prop :=
  ∃ (t : Nat) (A : List (Int × Int)), t ≤ N ∧ c.quo t = j ∧ A.length = t + j ∧ ps = A ++ (List.range' t (N - t)).map (fun k : Nat => (-((k : Int) + c.quo k), (k : Int))) ∧ ∀ (i : Nat) (p : Int × Int), A[i]? = some p → p.1 = -(i : Int) ∧ p.2 ≤ t
theorem Par.Ok.row0 (h : c.Ok) (N : Nat) : c.Row N 0 ((List.range N).map fun k : Nat => (-((k : Int) + c.quo k), (k : Int))) :=
  ⟨0, [], Nat.zero_le _, h.zero.2, rfl, by rw [List.range_eq_range', Nat.sub_zero]; rfl, fun i p e => by simp at e⟩
theorem Par.Row.len {N j : Nat} {ps : List (Int × Int)} (r : c.Row N j ps) : ps.length = N + j := by
  obtain ⟨t, A, h1, h2, h3, rfl, _⟩ := r
  rw [List.length_append, List.length_map, List.length_range']; omega
theorem range_nth {t l i : Nat} {p : Int × Int} {f : Nat → Int × Int} (e : ((List.range' t l).map f)[i]? = some p) : i < l ∧ p = f (t + i) := by
  rw [List.getElem?_map] at e
  rcases Nat.lt_or_ge i l with q | q
  · rw [List.getElem?_range' q] at e
    simp at e
    exact ⟨q, e.symm⟩
  · rw [List.getElem?_eq_none (by rw [List.length_range']; exact q)] at e
    simp at e
theorem sub_cut {k t N : Nat} (h1 : t ≤ k) (h2 : k < N) : k + 1 - t + (N - (k + 1)) = N - t := by omega
theorem Par.Ok.row_step (h : c.Ok) {N j k : Nat} {ps : List (Int × Int)} (r : c.Row N j ps) (hk : k < N) (hm : c.mark k = true) (hq : c.quo (k + 1) = j + 1) :
    (∀ i : Nat, i < ps.length → (((ps.map (·.2)).getD i 0 ≤ (k : Int)) ↔ i < j + 1 + k)) ∧ ∀ y : Int, y ≤ (k : Int) + 1 → c.Row N (j + 1) (ps.take (j + 1 + k) ++ (-(((j + 1 : Nat) : Int) + k), y) :: ps.drop (j + 1 + k)) := by
  have hl := r.len
  obtain ⟨t, A, h1, h2, h3, rfl, h5⟩ := r
  have hqk : c.quo k = j := by have := ((h.step k).1 hm).2; omega
  have htk : t ≤ k := by
    rcases Nat.lt_or_ge k t with q | q
    · have := h.quo_mono (show k + 1 ≤ t from q); omega
    · exact q
  have es : (List.range' t (N - t)) = List.range' t (k + 1 - t) ++ List.range' (k + 1) (N - (k + 1)) := by
    have e := List.range'_append_1 (s := t) (m := k + 1 - t) (n := N - (k + 1))
    rw [show t + (k + 1 - t) = k + 1 from Nat.add_sub_cancel' (Nat.le_succ_of_le htk), sub_cut htk hk] at e
    exact e.symm
  rw [es, List.map_append, ← List.append_assoc]
  generalize hB : A ++ (List.range' t (k + 1 - t)).map (fun k : Nat => (-((k : Int) + c.quo k), (k : Int))) = B
  have hBl : B.length = j + 1 + k := by rw [← hB, List.length_append, List.length_map, List.length_range']; omega
  have hBp : ∀ (i : Nat) (p : Int × Int), B[i]? = some p → p.1 = -(i : Int) ∧ p.2 ≤ k := by
    intro i p e
    rw [← hB] at e
    rcases Nat.lt_or_ge i A.length with q | q
    · rw [List.getElem?_append_left q] at e
      have := h5 i p e
      omega
    · rw [List.getElem?_append_right q] at e
      obtain ⟨e1, rfl⟩ := range_nth e
      have m1 := h.quo_mono (show t ≤ t + (i - A.length) by omega)
      have m2 := h.quo_mono (show t + (i - A.length) ≤ k by omega)
      dsimp only
      omega
  refine ⟨fun i hi => ?_, fun y hy => ?_⟩
  · rw [List.getD_eq_getElem?_getD, List.getElem?_map]
    rcases Nat.lt_or_ge i B.length with q | q
    · rw [List.getElem?_append_left q, List.getElem?_eq_getElem q]
      have := (hBp i _ (List.getElem?_eq_getElem q)).2
      simp
      omega
    · rw [List.getElem?_append_right q]
      have hi2 : i - B.length < ((List.range' (k + 1) (N - (k + 1))).map (fun k : Nat => (-((k : Int) + c.quo k), (k : Int)))).length := by
        rw [List.length_map, List.length_range']
        rw [List.length_append, List.length_map, List.length_range'] at hi
        omega
      rw [List.getElem?_eq_getElem hi2]
      have e := (range_nth (List.getElem?_eq_getElem hi2)).2
      rw [e]
      simp
      omega
  · rw [List.take_left' hBl, List.drop_left' hBl]
    refine ⟨k + 1, B ++ [(-(((j + 1 : Nat) : Int) + k), y)], by omega, by rw [hq]; rfl, by rw [List.length_append, hBl]; simp; omega, by rw [List.append_assoc]; rfl, ?_⟩
    intro i p e
    rcases Nat.lt_or_ge i B.length with q | q
    · rw [List.getElem?_append_left q] at e
      have := hBp i p e
      omega
    · rw [List.getElem?_append_right q] at e
      rcases Nat.lt_or_ge (i - B.length) 1 with q2 | q2
      · rw [show i - B.length = 0 by omega] at e
        simp at e
        obtain rfl := e
        dsimp only
        omega
      · rw [List.getElem?_eq_none (by simpa using q2)] at e
        simp at e
/-- in the end: all places in order -/
theorem Par.Ok.row_end (h : c.Ok) {N j : Nat} {ps : List (Int × Int)} (r : c.Row N j ps) (hj : c.quo N = j) : ∀ (i : Nat) (p : Int × Int), ps[i]? = some p → p.1 = -(i : Int) := by
  obtain ⟨t, A, h1, h2, h3, rfl, h5⟩ := r
  intro i p e
  rcases Nat.lt_or_ge i A.length with q | q
  · rw [List.getElem?_append_left q] at e
    exact (h5 i p e).1
  · rw [List.getElem?_append_right q] at e
    obtain ⟨e1, rfl⟩ := range_nth e
    have m1 := h.quo_mono (show t ≤ t + (i - A.length) by omega)
    have m2 := h.quo_mono (show t + (i - A.length) ≤ N by omega)
    dsimp only
    omega
end Mine
end -- P4
section -- U9
open PySem PySem.W PySem.Calls PyProof.Rows
set_option Elab.async false
set_option maxRecDepth 100000
set_option maxHeartbeats 1000000
namespace Mine
theorem Segs.by {a b r r' : List (Addr × Obj)} (h : Segs a b r) (hq : ∀ q ∈ r', (∃ o, (q.1, o) ∈ r) ∨ ∀ p ∈ a ++ b, @LT.lt Nat _ p.1 q.1) : Segs a b r' where
  s62 := h.s62
  s69 := h.s69
  a62 := fun p hp q hq' => by
    rcases List.mem_append.mp hq' with hq' | hq'
    · exact h.a62 p hp q (List.mem_append_left _ hq')
    · rcases hq q hq' with ⟨o, ho⟩ | hl
      · exact h.a62 p hp (q.1, o) (List.mem_append_right _ ho)
      · exact (Nat.ne_of_lt (hl p (List.mem_append_left _ hp))).symm
  a69 := fun p hp q hq' => by
    rcases hq q hq' with ⟨o, ho⟩ | hl
    · exact h.a69 p hp (q.1, o) ho
    · exact (Nat.ne_of_lt (hl p (List.mem_append_right _ hp))).symm
structure StN where
  vs : List Value
  nn : Nat
  ps : List (Int × Int)
  ks : List Cd
  a : List (Addr × Obj)
  b : List (Addr × Obj)
  its : List (Addr × Obj)
abbrev StN.led (lr : Addr) (rest : List (Addr × Obj)) (d : StN) : List (Addr × Obj) := tabE d.ks :: (cdsL d.ks ++ ((lr, listOf d.vs.toArray d.nn) :: (d.a ++ (d.b ++ (d.its ++ rest)))))
abbrev StN.R (lr : Addr) (rest : List (Addr × Obj)) (d : StN) : List (Addr × Obj) := tabE d.ks :: (cdsL d.ks ++ ((lr, listOf d.vs.toArray d.nn) :: (d.its ++ rest)))
structure StN.Ok (lr : Addr) (rest : List (Addr × Obj)) (d : StN) : Prop where
  ks : CdOk lamQ d.ks
  h140 : ∀ q ∈ cdsL d.ks ++ ((lr, listOf d.vs.toArray d.nn) :: (d.a ++ (d.b ++ (d.its ++ rest)))), q.1 ≠ 140
  hlr : ∀ q ∈ tabE d.ks :: (cdsL d.ks ++ (d.a ++ (d.b ++ (d.its ++ rest)))), q.1 ≠ lr
  seg : Segs d.a d.b (d.R lr rest)
  row : RowsAt d.its d.vs d.ps
theorem perm_n1 {t l : Addr × Obj} {a b cd its rest own : List (Addr × Obj)} : ∀ q ∈ a ++ (b ++ ((t :: (cd ++ (l :: (its ++ rest)))) ++ own)), q ∈ (t :: (cd ++ (l :: (a ++ (b ++ (its ++ rest)))))) ++ own := by
  intro q hq
  simp only [List.mem_append, List.mem_cons, List.cons_append] at hq ⊢
  rcases hq with h | h | h | (h | h | h | h) | h <;> simp [h]
theorem perm_n2 {t l : Addr × Obj} {a b cd its rest own : List (Addr × Obj)} : ∀ q ∈ t :: (cd ++ (l :: ((a ++ (b ++ (its ++ rest))) ++ own))), q ∈ a ++ (b ++ ((t :: (cd ++ (l :: (its ++ rest)))) ++ own)) := by
  intro q hq
  simp only [List.mem_append, List.mem_cons, List.cons_append] at hq ⊢
  rcases hq with h | h | h | (h | h | h | h) | h <;> simp [h]
theorem perm_n3 {t l x : Addr × Obj} {a b cd its rest own : List (Addr × Obj)} : ∀ q ∈ t :: (cd ++ (l :: (a ++ (b ++ ((x :: its) ++ rest))))), q ∈ t :: (cd ++ (l :: x :: ((a ++ (b ++ (its ++ rest))) ++ own))) := by
  intro q hq
  simp only [List.mem_append, List.mem_cons, List.cons_append] at hq ⊢
  rcases hq with h | h | h | h | h | h | h | h <;> simp [h]
theorem perm_n4 {t l x : Addr × Obj} {a cd own : List (Addr × Obj)} : ∀ q ∈ own, q ∈ t :: (cd ++ (l :: x :: (a ++ own))) := by
  intro q h
  simp only [List.mem_append, List.mem_cons]
  simp [h]
theorem range_n1 (n : Nat) : Builtin.Range.rangeSize 1 ((n : Int) + 1) 1 = n := by
  rw [rangeSize_one]; split <;> omega
section
local macro_rules | `(tactic| walk_at "call builtin:len") => `(tactic| ((with_reducible show wpAny _ _ (call (Value.builtin "len") [Value.ref _]) _ _ _); refine' len_list (News.isList ?N ?hm) ?hf ?_; (case N => assumption); (case hm => assumption); (case hf => first | assumption | (simp only [List.size_toArray]; omega))))
local macro_rules | `(tactic| walk_at "exec For Name Call cons nil") => `(tactic| refine Stop.mk ?_)
local macro_rules | `(tactic| walk_at "pyIter ref") => `(tactic| refine Stop.mk ?_)
local macro_rules | `(tactic| walk_at "none 28 0") => `(tactic| skip)
theorem clear_29 : True := by
  first
  | (row_walk; done)
  | trivial
theorem nloop (w : World) (p : Program) (loose : List Str) (mean : ExcName → Option Value) (mg mb : Str → Option Value)
  {oc0 : Value} {od0 : Option Addr} {osl0 : Array (Option Value)} {nm0 q0 : Str} {ps0 : Arguments} {s0 s1 s2 s3 s4 s5 s6 s7 s8 s9 s10 s11 s12 s13 s14 s15 s16 s17 s18 : Stmt} {rs : List Stmt} {sc : Scope} {dV0 kV0 doc0 pm0 : Value} {an0 : Option Addr} {cdv0 ct0 : Value}
  (ho : (pre.heap_1 w.params).lookup 143 = some ⟨oc0, od0, .func (fnOf nm0 q0 ps0 (s0 :: s1 :: s2 :: s3 :: s4 :: s5 :: s6 :: s7 :: s8 :: s9 :: s10 :: s11 :: s12 :: s13 :: s14 :: s15 :: s16 :: s17 :: s18 :: rs) sc dV0 kV0 doc0 pm0 an0 cdv0 ct0), osl0⟩)
  (rs' : List Stmt) (h₀ : Heap) (L : Addr) (m : Str → Option Value) (s : Shared) (Q : Flow → Shared → Prop)
  (c : Par) (hc : c.Ok) (hW : Hide (c.W ≤ 10 ^ 30)) (N : Nat) (hN : N ≤ 10) (tW tP tf tn tb : Tok) (o5 o6 o8 : Obj) (le lm ll lk lr D : Addr) (mv lv : List Value) (nm nl : Nat) (d₀ : StN) (rest : List (Addr × Obj)) (hd₀ : d₀.Ok lr rest) (hr₀ : c.Row N 0 d₀.ps)
  (B : Below callerA h₀ [] h₀) (F : Fr h₀ L s.heap m) (X : (pre.heap_1 w.params).In h₀) (Nw : News h₀ L s.heap (d₀.led lr rest))
  (h5 : (L + 1 + 1 + 1 + 1 + 1, o5) ∈ rest) (h6 : (L + 1 + 1 + 1 + 1 + 1 + 1, o6) ∈ rest) (h8 : (L + 1 + 1 + 1 + 1 + 1 + 1 + 1 + 1, o8) ∈ rest) (hlm : (lm, listOf mv.toArray nm) ∈ rest) (hll : (ll, listOf lv.toArray nl) ∈ rest) (imv : IntsAre mv (c.marks N)) (ilv : IntsAre lv (c.left N))
  (C62 : CodeHd h₀ 66 62) (C69 : CodeHd h₀ 73 69) (C140 : CodeHd h₀ 142 140)
  (T : Top p loose mean mg mb h₀)
  (d5 : o5.data = .cell (some (.int c.f tf))) (d6 : o6.data = .cell (some (.int c.P tP))) (d8 : o8.data = .cell (some (.int c.W tW)))
  (m1 : m "count" = some (.int (N : Int) tn)) (m2 : m "ends" = some (.ref le)) (m3 : m "marks" = some (.ref lm)) (m4 : m "left" = some (.ref ll)) (m5 : m "written" = some (.str ⟨(c.writ N).toArray⟩ tb)) (m6 : m "cells" = some (.ref D)) (m7 : m "kept" = some (.ref lk)) (m8 : m "row" = some (.ref lr))
  (hret : ∀ (d : StN) (h' : Heap) (tk : Nat) (m' : Str → Option Value), d.Ok lr rest → c.Row N (c.marks N).length d.ps → Fr h₀ L h' m' → m' "count" = some (.int (N : Int) tn) → m' "ends" = some (.ref le) → m' "marks" = some (.ref lm) → m' "left" = some (.ref ll) → m' "written" = some (.str ⟨(c.writ N).toArray⟩ tb) → m' "cells" = some (.ref D) → m' "kept" = some (.ref lk) → m' "row" = some (.ref lr) → News h₀ L h' (d.led lr rest) →
    wpAny (model PySem.Challenge.rw_ta0044_01.row.prog w) (callerA.deeper (envOfC nm0 sc L 143 (.ref 142))) (execs rs' (envOfC nm0 sc L 143 (.ref 142))) Q (fun _ _ => False) { s with heap := h', toks := tk }) :
  wpAny (model PySem.Challenge.rw_ta0044_01.row.prog w) (callerA.deeper (envOfC nm0 sc L 143 (.ref 142))) (execs (s18 :: rs') (envOfC nm0 sc L 143 (.ref 142))) Q (fun _ _ => False) s := by
  have e_sc := congrArg (fun o => scopeOf o) ho
  conv at e_sc => lhs; whnf
  conv at e_sc => rhs; whnf
  have e_nm : Str.ofString "law" = nm0 := congrArg (fun o => nameOf o) ho
  have e_s18 := congrArg (fun o => stmtAt (bodyOf o) 18) ho
  conv at e_s18 => lhs; whnf
  conv at e_s18 => rhs; whnf
  clear ho
  subst e_sc
  subst e_nm
  subst e_s18
  have eM : kstB m [("count", .int (N : Int) tn), ("ends", .ref le), ("marks", .ref lm), ("left", .ref ll), ("written", .str ⟨(c.writ N).toArray⟩ tb), ("cells", .ref D), ("kept", .ref lk), ("row", .ref lr)] = m := funext fun z => kstB_eq (by simp [m1, m2, m3, m4, m5, m6, m7, m8]) fun _ => rfl
  have F' : Fr h₀ L s.heap (kstB m [("count", .int (N : Int) tn), ("ends", .ref le), ("marks", .ref lm), ("left", .ref ll), ("written", .str ⟨(c.writ N).toArray⟩ tb), ("cells", .ref D), ("kept", .ref lk), ("row", .ref lr)]) := by rw [eM]; exact F
  clear F
  have zJ : (c.marks N).length ≤ 10 := by rw [Par.marks, List.length_map]; exact Nat.le_trans (List.length_filter_le _ _) (by rw [List.length_range]; exact hN)
  have zmv : mv.length = (c.marks N).length := imv.length
  have zmv2 : mv.length < 2 ^ 40 := by omega
  have zll : (c.left N).length = (c.marks N).length := by simp [Par.left, Par.marks]
  have hin : ∀ {q : Addr × Obj}, q ∈ rest → q ∈ d₀.led lr rest := fun hq => .tail _ (List.mem_append_right _ (.tail _ (List.mem_append_right _ (List.mem_append_right _ (List.mem_append_right _ hq)))))
  have hlm' := hin hlm
  have X0 := Hide.mk X
  have il0 := Hide.mk ilv
  have im0 := Hide.mk imv
  revert X; k_fill; intro X
  (try k_fold)
  k_steps
  refine Stop.out ?_
  with_unfolding_all refine' For_invVF F' ?k1 ?k2 ?_
  case k1 => exact rfl
  case k2 => exact rfl
  (try dsimp only)
  k_steps
  rename IsRange _ _ _ _ _ _ _ _ => hr
  rename Fr _ _ _ _ => F2
  rename News _ _ _ _ => N2
  rw [List.size_toArray, zmv] at hr
  have hI : ∀ p ∈ d₀.led lr rest, p.1 ≠ _ := fun p hp => Nat.ne_of_lt (Heap.lt_size (N2 p hp).1)
  refine Stop.out (wpAny_pyIter_range hr ?hsm ?_)
  case hsm => exact small_one (by omega) (by omega) (by omega) (by omega)
  refine my_for (σ := StN) (fun d => d.led lr rest)
    (fun _ => [("count", .int (N : Int) tn), ("ends", .ref le), ("marks", .ref lm), ("left", .ref ll), ("written", .str ⟨(c.writ N).toArray⟩ tb), ("cells", .ref D), ("kept", .ref lk), ("row", .ref lr)]) ["turn", "rest", "half", "told"]
    (fun i d => d.Ok lr rest ∧ c.Row N i d.ps) d₀ (LCg.range_walks rfl 1 (c.marks N).length) ?hLf ?hwr ?hnw ?hst (F2.keeps fun _ _ e => Heap.get?_push_of_some _ e) (N2.grown fun _ _ e => Heap.get?_push_of_some _ e) ?hk ⟨hd₀, hr₀⟩ ?turn ?done
  case hLf => exact fun q => Nat.ne_of_lt F2.ns.lt (List.mem_singleton.mp q)
  case hwr => exact all1 (next_is_new F2)
  case hnw => exact fun p hp q => hI p hp (List.mem_singleton.mp q)
  case hst => show IsRangeIter _ _ _ _ _; rw [range_n1]; simpa using Heap.get?_push_size _ rfl
  case hk => repeat (first | exact List.forall_mem_nil _ | refine List.forall_mem_cons.mpr ⟨rfl, ?_⟩)
  case done =>
    rintro d u h tk ⟨hd1, hr1⟩ F3 N3
    exact hret d h tk _ hd1 hr1 F3 (by rfl) (by rfl) (by rfl) (by rfl) (by rfl) (by rfl) (by rfl) (by rfl) N3
  case turn =>
    rintro d i v u h tk own hin ⟨tv, rfl⟩ hoff hof hown ⟨hd1, hr1⟩ hst F3 N3
    (try dsimp only at F3 N3)
    refine wpAny_opq fun Q' hQ => ?_
    have en : (1 + (i : Int)) = ((i + 1 : Nat) : Int) := by omega
    rw [en] at F3
    have hl0 : ((List.range N).filter c.mark).length = (c.marks N).length := by rw [Par.marks, List.length_map]
    obtain ⟨k, hkN, hk1, hk2, hk3⟩ := hc.marks_nth i N (by omega)
    have hk3' : c.quo (k + 1) = ((i + 1 : Nat) : Int) := by rw [hk3]; rfl
    have ⟨hP, e1, e2⟩ := hc.mark_turn hk2 hk3'
    have e3 : (c.marks N).getD (i + 1 - 1) 0 = (k : Int) := by rw [Nat.add_sub_cancel, Par.marks, List.getD_eq_getElem?_getD, List.getElem?_map, hk1]; rfl
    have e4 : (c.left N).getD (i + 1 - 1) 0 = c.pail (k + 1) := by rw [Nat.add_sub_cancel, Par.left, List.getD_eq_getElem?_getD, List.getElem?_map, hk1]; rfl
    have N3' : News h₀ L h (d.a ++ (d.b ++ (d.R lr rest ++ own))) := News.sub N3 perm_n1
    have hS' : Segs d.a d.b (d.R lr rest ++ own) := hd1.seg.more hof (fun q hq => hoff q (by
      have := perm_n1 (own := []) q (by rw [List.append_nil]; exact hq)
      rw [List.append_nil] at this; exact this))
    have inR : ∀ {q : Addr × Obj}, q ∈ rest → q ∈ d.R lr rest ++ own := fun hq => List.mem_append_left _ (.tail _ (List.mem_append_right _ (.tail _ (List.mem_append_right _ hq))))
    refine ins1 w p loose mean mg mb (ho := rfl) _ h₀ L _ _ _ c hc hW hP (i + 1) k (c.pail (k + 1)) (by omega) (by omega) (by omega) (c.marks N) (c.left N) e1 e2 e3 e4 (by omega) (by omega) tW tP tf _ o5 o6 o8 lm ll mv lv nm nl d.a d.b (d.R lr rest ++ own) B F3 X0.out N3' (inR h5) (inR h6) (inR h8) (inR hlm) (inR hll) im0.out il0.out C62 C69 C140 hS' T d5 d6 d8 (by rfl) (by rfl) (by rfl) ?_
    intro t1 t2 sa sb h1 tk1 mm1 hS1 F4 k1 k2 k3 N4
    have lrR : (lr, listOf d.vs.toArray d.nn) ∈ d.R lr rest ++ own := List.mem_append_left _ (.tail _ (List.mem_append_right _ (.head _)))
    have tbR : tabE d.ks ∈ d.R lr rest ++ own := List.mem_append_left _ (.head _)
    have seg_ne : ∀ q, q ∈ sa ++ sb → ∀ p ∈ d.R lr rest ++ own, p.1 ≠ q.1 := by
      intro q hq p hp
      rcases List.mem_append.mp hq with hq | hq
      · exact hS1.a62 q hq p (List.mem_append_right _ hp)
      · exact hS1.a69 q hq p hp
    have own_ne : ∀ q ∈ own, ∀ p ∈ d.led lr rest, q.1 ≠ p.1 := fun q hq p hp e => hoff p hp (e ▸ hof q hq)
    have lrL : (lr, listOf d.vs.toArray d.nn) ∈ d.led lr rest := .tail _ (List.mem_append_right _ (.head _))
    have cdL : ∀ {q : Addr × Obj}, q ∈ cdsL d.ks → q ∈ d.led lr rest := fun hq => .tail _ (List.mem_append_left _ hq)
    have itL : ∀ {q : Addr × Obj}, q ∈ d.its ++ rest → q ∈ d.led lr rest := fun hq => .tail _ (List.mem_append_right _ (.tail _ (List.mem_append_right _ (List.mem_append_right _ hq))))
    have oth : ∀ q, q ∈ (sa ++ (sb ++ (d.its ++ rest))) ++ own → q ∈ sa ++ sb ∨ q ∈ d.its ++ rest ∨ q ∈ own := by
      intro q hq
      simp only [List.mem_append] at hq ⊢
      rcases hq with (h | h | h | h) | h <;> simp [h]
    have sgO : ∀ {q : Addr × Obj}, q ∈ sa ++ sb → q ∈ (sa ++ (sb ++ (d.its ++ rest))) ++ own := by
      intro q hq
      simp only [List.mem_append] at hq ⊢
      rcases hq with h | h <;> simp [h]
    have N4' : News h₀ L h1 (tabE d.ks :: (cdsL d.ks ++ ((lr, listOf d.vs.toArray d.nn) :: ((sa ++ (sb ++ (d.its ++ rest))) ++ own)))) := News.sub N4 perm_n2
    have hA : ∀ q ∈ cdsL d.ks ++ ((lr, listOf d.vs.toArray d.nn) :: ((sa ++ (sb ++ (d.its ++ rest))) ++ own)), q.1 ≠ 140 := by
      intro q hq
      rcases List.mem_append.mp hq with hq | hq
      · exact hd1.h140 q (List.mem_append_left _ hq)
      · rcases List.mem_cons.mp hq with hq | hq
        · exact hd1.h140 q (List.mem_append_right _ (hq ▸ .head _))
        · rcases oth q hq with hq | hq | hq
          · exact (seg_ne q hq _ tbR).symm
          · exact hd1.h140 q (List.mem_append_right _ (.tail _ (List.mem_append_right _ (List.mem_append_right _ hq))))
          · exact own_ne q hq (tabE d.ks) (.head _)
    have hB : ∀ q ∈ tabE d.ks :: (cdsL d.ks ++ ((sa ++ (sb ++ (d.its ++ rest))) ++ own)), q.1 ≠ lr := by
      intro q hq
      rcases List.mem_cons.mp hq with hq | hq
      · exact hd1.hlr q (hq ▸ .head _)
      · rcases List.mem_append.mp hq with hq | hq
        · exact hd1.hlr q (.tail _ (List.mem_append_left _ hq))
        · rcases oth q hq with hq | hq | hq
          · exact (seg_ne q hq _ lrR).symm
          · exact hd1.hlr q (.tail _ (List.mem_append_right _ (List.mem_append_right _ (List.mem_append_right _ hq))))
          · exact own_ne q hq _ lrL
    have hlen := hr1.len
    have hstep := hc.row_step hr1 hkN hk2 hk3
    refine ins2 w p loose mean mg mb (ho := rfl) _ h₀ L _ _ _ (i + 1) k (by omega) (by omega) (by omega) _ _ _ lr d.vs d.nn d.ps d.ks ((sa ++ (sb ++ (d.its ++ rest))) ++ own) hd1.ks hA hB (hd1.row.more fun q hq => List.mem_append_left _ (List.mem_append_right _ (List.mem_append_right _ (List.mem_append_left _ hq)))) (by omega) (by omega) hstep.1 B F4 X0.out N4' C140 T ((k3 _ (by decide) (by decide) (by decide)).trans (by rfl)) k1 k2 ((k3 _ (by decide) (by decide) (by decide)).trans (by rfl)) ?_
    intro x1 ox1 y u1 u2 ks' nn' h2 tk2 mm2 eo hy hks' lx hnew hlr' h140' F5 k4 N5
    refine wpAny_execs_nil ?_
    have fin : ∀ z : Str, z ≠ "turn" → z ≠ "rest" → z ≠ "half" → z ≠ "told" → mm2 z = _ := fun z a1 a2 a3 a4 => (k4 z a4).trans (k3 z a1 a2 a3)
    have hIo := hown _ (.head _) (next_is_new F2) _ hst
    have xlt : ∀ {q : Addr × Obj}, q ∈ (sa ++ (sb ++ (d.its ++ rest))) ++ own → @LT.lt Nat _ q.1 x1 := fun hq => allLt_mem lx.2 _ (List.mem_append_right _ (.tail _ hq))
    have othL : ∀ {q : Addr × Obj}, q ∈ (sa ++ (sb ++ (d.its ++ rest))) ++ own → q ∈ tabE d.ks :: (cdsL d.ks ++ ((x1, ox1) :: (lr, listOf d.vs.toArray d.nn) :: ((sa ++ (sb ++ (d.its ++ rest))) ++ own))) := fun hq => .tail _ (List.mem_append_right _ (.tail _ (.tail _ hq)))
    refine hQ _ _ ?_
    refine MfPost.next (⟨d.vs.take (i + 1 + k) ++ .ref x1 :: d.vs.drop (i + 1 + k), nn', d.ps.take (i + 1 + k) ++ (-(((i + 1 : Nat) : Int) + k), y) :: d.ps.drop (i + 1 + k), ks', sa, sb, (x1, ox1) :: d.its⟩ : StN) F5 N5 perm_n3 perm_n4 ?c3 ?c4 ?c5 ?c6
    case c3 =>
      intro q hq hw
      have hw1 := List.mem_singleton.mp hw
      rcases List.mem_cons.mp hq with hq | hq
      · exact hoff (tabE d.ks) (.head _) (by rw [hq] at hw; exact hw)
      · rcases List.mem_append.mp hq with hq | hq
        · obtain ⟨kc, hkc, e⟩ := cds_back hq
          rcases hnew kc hkc with h | h
          · exact hoff (kc.c, kc.o) (mem_cds _ _ h) (by rw [e] at hw; exact hw)
          · have := h _ (othL (List.mem_append_right _ hIo))
            rw [e] at hw1
            exact Nat.ne_of_lt this hw1.symm
        · rcases List.mem_cons.mp hq with hq | hq
          · exact hoff _ lrL (by rw [hq] at hw; exact hw)
          · have hq' : q ∈ sa ++ sb ∨ q = (x1, ox1) ∨ q ∈ d.its ++ rest := by
              simp only [List.mem_append, List.mem_cons] at hq ⊢
              rcases hq with h | h | (h | h) | h <;> simp [h]
            rcases hq' with h | h | h
            · exact seg_ne q h _ (List.mem_append_right _ hIo) hw1.symm
            · have := xlt (List.mem_append_right _ hIo)
              rw [h] at hw1
              exact Nat.ne_of_lt this hw1.symm
            · exact hoff q (itL h) hw
    case c4 =>
      have names : ∀ z : Str, z ∈ (["count", "ends", "marks", "left", "written", "cells", "kept", "row"] : List Str) → mm2 z = _ := fun z hz => fin z (by rintro rfl; revert hz; decide) (by rintro rfl; revert hz; decide) (by rintro rfl; revert hz; decide) (by rintro rfl; revert hz; decide)
      refine List.forall_mem_cons.mpr ⟨(names (Str.ofString "count") (by decide)).trans (by rfl), ?_⟩
      refine List.forall_mem_cons.mpr ⟨(names (Str.ofString "ends") (by decide)).trans (by rfl), ?_⟩
      refine List.forall_mem_cons.mpr ⟨(names (Str.ofString "marks") (by decide)).trans (by rfl), ?_⟩
      refine List.forall_mem_cons.mpr ⟨(names (Str.ofString "left") (by decide)).trans (by rfl), ?_⟩
      refine List.forall_mem_cons.mpr ⟨(names (Str.ofString "written") (by decide)).trans (by rfl), ?_⟩
      refine List.forall_mem_cons.mpr ⟨(names (Str.ofString "cells") (by decide)).trans (by rfl), ?_⟩
      refine List.forall_mem_cons.mpr ⟨(names (Str.ofString "kept") (by decide)).trans (by rfl), ?_⟩
      refine List.forall_mem_cons.mpr ⟨(names (Str.ofString "row") (by decide)).trans (by rfl), ?_⟩
      exact List.forall_mem_nil _
    case c5 =>
      intro z a0 a1 a2
      have a3 : ∀ y ∈ (["turn", "rest", "half", "told"] : List Str), z ≠ y := fun y hy e => by
        rw [← e] at hy
        exact absurd (List.contains_iff_mem.mpr hy) (by rw [a2]; decide)
      exact (fin z (a3 _ (by decide)) (a3 _ (by decide)) (a3 _ (by decide)) (a3 _ (by decide))).trans ((if_neg a0).trans (kst_same (same_names (by rfl) a1) a2))
    case c6 =>
      have spl : ∀ {q : Addr × Obj}, q ∈ sa ++ (sb ++ (((x1, ox1) :: d.its) ++ rest)) → q = (x1, ox1) ∨ q ∈ (sa ++ (sb ++ (d.its ++ rest))) ++ own := by
        intro q hq
        simp only [List.mem_append, List.mem_cons] at hq ⊢
        rcases hq with h | h | (h | h) | h <;> simp [h]
      refine ⟨⟨hks', ?_, ?_, ?_, ?_⟩, hstep.2 y hy⟩
      · intro q hq
        rcases List.mem_append.mp hq with hq | hq
        · exact h140' q (List.mem_append_left _ hq)
        · rcases List.mem_cons.mp hq with hq | hq
          · rw [hq]; exact h140' (lr, listOf d.vs.toArray d.nn) (List.mem_append_right _ (.tail _ (.head _)))
          · rcases spl hq with hq | hq
            · exact h140' q (List.mem_append_right _ (hq ▸ .head _))
            · exact h140' q (List.mem_append_right _ (.tail _ (.tail _ hq)))
      · intro q hq
        rcases List.mem_cons.mp hq with hq | hq
        · exact hlr' q (hq ▸ .head _)
        · rcases List.mem_append.mp hq with hq | hq
          · exact hlr' q (.tail _ (List.mem_append_left _ hq))
          · rcases spl hq with hq | hq
            · exact hlr' q (.tail _ (List.mem_append_right _ (hq ▸ .head _)))
            · exact hlr' q (.tail _ (List.mem_append_right _ (.tail _ hq)))
      · refine hS1.by fun q hq => ?_
        rcases List.mem_cons.mp hq with hq | hq
        · exact .inl ⟨_, by rw [hq]; exact tbR⟩
        · rcases List.mem_append.mp hq with hq | hq
          · obtain ⟨kc, hkc, e⟩ := cds_back hq
            rcases hnew kc hkc with h | h
            · exact .inl ⟨kc.o, by rw [e]; exact List.mem_append_left _ (mem_cds _ _ h)⟩
            · exact .inr fun p hp => by rw [e]; exact h p (othL (sgO hp))
          · rcases List.mem_cons.mp hq with hq | hq
            · exact .inl ⟨_, by rw [hq]; exact lrR⟩
            · rcases List.mem_cons.mp hq with hq | hq
              · exact .inr fun p hp => by rw [hq]; exact xlt (sgO hp)
              · exact .inl ⟨q.2, List.mem_append_left _ (.tail _ (List.mem_append_right _ (.tail _ hq)))⟩
      · rw [eo]
        exact RowsAt.insert (.head _) (hd1.row.more fun q hq => .tail _ hq) (i + 1 + k)
end
end Mine
end -- U9
section -- U10
open PySem PySem.W PySem.Calls PyProof.Rows
set_option Elab.async false
set_option maxRecDepth 100000
set_option maxHeartbeats 1000000
namespace Mine
theorem ks_range (k : Nat) : rangeKs 0 k = (List.range k).map fun i : Nat => (i : Int) := by
  simp [rangeKs]
section
local macro_rules | `(tactic| walk_at "eval ListComp") => `(tactic| refine Stop.mk ?_)
local macro_rules | `(tactic| walk_at "CompSrc") => `(tactic| refine Stop.mk ?_)
local macro_rules | `(tactic| walk_at "subscriptTail Name Constant ref int") => `(tactic| refine Stop.mk ?_)
local macro_rules | `(tactic| walk_at "compareOp NotEq ref ref") => `(tactic| refine Stop.mk ?_)
local macro_rules | `(tactic| walk_at "none 29 0") => `(tactic| skip)
theorem clear_30 : True := by
  first
  | (row_walk; done)
  | trivial
theorem cmp19 (w : World) (p : Program) (loose : List Str) (mean : ExcName → Option Value) (mg mb : Str → Option Value)
  {oc0 : Value} {od0 : Option Addr} {osl0 : Array (Option Value)} {nm0 q0 : Str} {ps0 : Arguments} {s0 s1 s2 s3 s4 s5 s6 s7 s8 s9 s10 s11 s12 s13 s14 s15 s16 s17 s18 s19 : Stmt} {rs : List Stmt} {sc : Scope} {dV0 kV0 doc0 pm0 : Value} {an0 : Option Addr} {cdv0 ct0 : Value}
  (ho : (pre.heap_1 w.params).lookup 143 = some ⟨oc0, od0, .func (fnOf nm0 q0 ps0 (s0 :: s1 :: s2 :: s3 :: s4 :: s5 :: s6 :: s7 :: s8 :: s9 :: s10 :: s11 :: s12 :: s13 :: s14 :: s15 :: s16 :: s17 :: s18 :: s19 :: rs) sc dV0 kV0 doc0 pm0 an0 cdv0 ct0), osl0⟩)
  (rs' : List Stmt) (h₀ : Heap) (L : Addr) (m : Str → Option Value) (s : Shared) (Q : Flow → Shared → Prop)
  (B : Below callerA h₀ [] h₀) (F : Fr h₀ L s.heap m) (X : (pre.heap_1 w.params).In h₀) (T : Top p loose mean mg mb h₀)
  (wl : List Nat) (tw : Tok) (lr : Addr) (vs : List Value) (nn : Nat) (ps : List (Int × Int)) (news : List (Addr × Obj)) (N : News h₀ L s.heap news) (hlr : (lr, listOf vs.toArray nn) ∈ news) (hrow : RowsAt news vs ps) (hps : ∀ (i : Nat) (q : Int × Int), ps[i]? = some q → q.1 = -(i : Int)) (zp : ps.length = wl.length) (zw : wl.length ≤ 20)
  (m1 : m "row" = some (.ref lr)) (m2 : m "written" = some (.str ⟨wl.toArray⟩ tw))
  (hret : ∀ (h' : Heap) (tk : Nat), Fr h₀ L h' m → News h₀ L h' news → wpAny (model PySem.Challenge.rw_ta0044_01.row.prog w) (callerA.deeper (envOfC nm0 sc L 143 (.ref 142))) (execs rs' (envOfC nm0 sc L 143 (.ref 142))) Q (fun _ _ => False) { s with heap := h', toks := tk }) :
  wpAny (model PySem.Challenge.rw_ta0044_01.row.prog w) (callerA.deeper (envOfC nm0 sc L 143 (.ref 142))) (execs (s19 :: rs') (envOfC nm0 sc L 143 (.ref 142))) Q (fun _ _ => False) s := by
  have e_sc := congrArg (fun o => scopeOf o) ho
  conv at e_sc => lhs; whnf
  conv at e_sc => rhs; whnf
  have e_s19 := congrArg (fun o => stmtAt (bodyOf o) 19) ho
  conv at e_s19 => lhs; whnf
  conv at e_s19 => rhs; whnf
  clear ho
  subst e_sc
  subst e_s19
  have eM : kstB m [("row", .ref lr), ("written", .str ⟨wl.toArray⟩ tw)] = m := funext fun z => kstB_eq (by simp [m1, m2]) fun _ => rfl
  have F' : Fr h₀ L s.heap (kstB m [("row", .ref lr), ("written", .str ⟨wl.toArray⟩ tw)]) := by rw [eM]; exact F
  clear F
  have zw2 : (⟨wl.toArray⟩ : Str).length ≤ 20 := zw
  have zv : vs.length = wl.length := by rw [hrow.length, zp]
  revert X; k_fill; intro X
  (try k_fold)
  k_steps
  refine Stop.out ?_
  refine LCg.ListComp_U (F₀ := F') (by with_unfolding_all rfl) (by decide) (by rfl) (by decide) (by rfl) ?_
  (try dsimp only)
  k_steps
  refine Stop.out ?_
  rename Fr _ _ _ _ => F2
  rename News _ _ _ _ => N2
  refine LCg.CompSrc.ledger (by rfl) F2 N2 hlr (by rw [List.size_toArray, sizeLine_eq]; omega) ?_
  intro g
  rw [List.size_toArray]
  refine comp_inv vs.length (fun i ys nw => nw = news ∧ IntsAre ys ((List.range i).map fun k : Nat => (k : Int))) ?turn ?done vs.length 0 [] _ (by omega) ⟨rfl, .nil⟩
  case turn =>
    clear F2 N2
    rintro i ys nw v I oI C oC D m₂ h tk E' hi ⟨rfl, hys⟩ hv hC hx F N off ne
    have hv' : vs[i]? = some v := by simpa using hv
    obtain ⟨a, x, y, t, u, kk, rfl, hm, e1, e2⟩ := hrow.get hv'
    have ex : x = -(i : Int) := by
      have hi2 : i < ps.length := by omega
      have := hps i _ (List.getElem?_eq_getElem hi2)
      rw [← e2, List.getD_eq_getElem?_getD, List.getElem?_map, List.getElem?_eq_getElem hi2]
      exact this
    subst ex
    have off0 := Hide.mk off
    k_steps
    rename Fr _ _ _ _ => F3
    rename News _ _ _ _ => N3
    refine Stop.out (PyProof.Rows.item_list (s := ⟨_, _, _, _, _⟩) (News.isList N3 (.tail _ (.tail _ (.tail _ hm)))) (by decide) (by decide) (x := .int (-(i : Int)) t) rfl ?_)
    (try dsimp only)
    k_steps
    rename Fr _ _ _ _ => F9
    rename News _ _ _ _ => N9
    rw [Int.neg_neg]
    refine LCg.CompEnd.intro F9 N9 nw (fun q hq => hq) off0.out (.inr ⟨_, hlr, rfl, _, rfl⟩) ⟨rfl, ?_⟩
    rw [range_snoc]
    exact ints_snoc hys
  case done =>
    rintro ys nw ⟨rfl, hys⟩
    clear F2 N2
    k_steps
    rename Fr _ _ _ _ => F4
    rename News _ _ _ _ => N4
    rename IntsAre _ (rangeKs _ _) => hI4
    have zl : (⟨wl.toArray⟩ : Str).length = wl.length := List.size_toArray
    rw [zl, ks_range, zv.symm, show ((vs.length : Int) - 0).toNat = vs.length by omega] at hI4
    refine Stop.out (ke_ne_ints (News.isList N4 (.tail _ (.head _))) (News.isList N4 (.head _)) hys hI4 (by ke_room) ?_)
    rw [decide_eq_true rfl]
    (try dsimp only)
    k_steps
    rename Fr _ _ _ _ => F9
    rename News _ _ _ _ => N9
    rw [eM] at F9
    exact hret _ _ F9 (News.dropHd (News.dropHd N9))
end
end Mine
end -- U10
section -- U11
open PySem PySem.W PySem.Calls PyProof.Rows
set_option Elab.async false
set_option maxRecDepth 100000
set_option maxHeartbeats 1000000
namespace Mine
theorem allLt_of {d : Addr} : ∀ {l : List (Addr × Obj)}, (∀ p ∈ l, @LT.lt Nat _ p.1 d) → AllLt d l
  | [], _ => trivial
  | _ :: _, h => ⟨h _ (.head _), allLt_of fun p hp => h p (.tail _ hp)⟩
section
local macro_rules | `(tactic| walk_at "binaryOp Mod int int") => `(tactic| refine Stop.mk ?_)
local macro_rules | `(tactic| walk_at "call type:list") => `(tactic| refine Stop.mk ?_)
theorem clear_31 : True := by
  first
  | (row_walk; done)
  | trivial
theorem srch20 (w : World) (p : Program) (loose : List Str) (mean : ExcName → Option Value) (mg mb : Str → Option Value)
  {oc0 : Value} {od0 : Option Addr} {osl0 : Array (Option Value)} {nm0 q0 : Str} {ps0 : Arguments} {s0 s1 s2 s3 s4 s5 s6 s7 s8 s9 s10 s11 s12 s13 s14 s15 s16 s17 s18 s19 s20 s21 : Stmt} {rs : List Stmt} {sc : Scope} {dV0 kV0 doc0 pm0 : Value} {an0 : Option Addr} {cdv0 ct0 : Value}
  (ho : (pre.heap_1 w.params).lookup 143 = some ⟨oc0, od0, .func (fnOf nm0 q0 ps0 (s0 :: s1 :: s2 :: s3 :: s4 :: s5 :: s6 :: s7 :: s8 :: s9 :: s10 :: s11 :: s12 :: s13 :: s14 :: s15 :: s16 :: s17 :: s18 :: s19 :: s20 :: s21 :: rs) sc dV0 kV0 doc0 pm0 an0 cdv0 ct0), osl0⟩)
  (rs' : List Stmt) (h₀ : Heap) (L : Addr) (m : Str → Option Value) (s : Shared) (Q : Flow → Shared → Prop)
  (B : Below callerA h₀ [] h₀) (F : Fr h₀ L s.heap m) (X : (pre.heap_1 w.params).In h₀) (T : Top p loose mean mg mb h₀)
  (n : Nat) (hn : n ≤ 10) (tn tw : Tok) (wl : List Nat) (zw : wl.length ≤ 20) (D : Addr) (ys : List Value) (cs : List Int) (hcs : IntsAre ys cs) (hlen : cs.length = 6) (o7 : Obj) (v7 : Option Value) (d7 : o7.data = .cell v7) (news : List (Addr × Obj)) (N : News h₀ L s.heap ((L + 1 + 1 + 1 + 1 + 1 + 1 + 1, o7) :: news)) (hr7 : ∀ q ∈ news, q.1 ≠ L + 1 + 1 + 1 + 1 + 1 + 1 + 1) (hD : (D, LCg.lst ys) ∈ news)
  (m1 : m "count" = some (.int (n : Int) tn)) (m2 : m "written" = some (.str ⟨wl.toArray⟩ tw)) (m3 : m "cells" = some (.ref D))
  (hret : ∀ (sv : Int) (ts : Tok) (ln : Addr) (nv : List Value) (cn : Nat) (o7' : Obj) (h' : Heap) (tk : Nat) (m' : Str → Option Value), 0 ≤ sv → sv ≤ wl.length → o7'.data = .cell (some (.int sv ts)) → IntsAre nv ((List.range n).map fun i : Nat => (i : Int)) → @LT.lt Nat _ (L + 1 + 1 + 1 + 1 + 1 + 1 + 1) ln → AllLt ln news → Fr h₀ L h' m' → m' "numbers" = some (.ref ln) → (∀ z : Str, z ≠ "numbers" → m' z = m z) → News h₀ L h' ((ln, listOf nv.toArray cn) :: (L + 1 + 1 + 1 + 1 + 1 + 1 + 1, o7') :: news) → wpAny (model PySem.Challenge.rw_ta0044_01.row.prog w) (callerA.deeper (envOfC nm0 sc L 143 (.ref 142))) (execs rs' (envOfC nm0 sc L 143 (.ref 142))) Q (fun _ _ => False) { s with heap := h', toks := tk }) :
  wpAny (model PySem.Challenge.rw_ta0044_01.row.prog w) (callerA.deeper (envOfC nm0 sc L 143 (.ref 142))) (execs (s20 :: s21 :: rs') (envOfC nm0 sc L 143 (.ref 142))) Q (fun _ _ => False) s := by
  have e_sc := congrArg (fun o => scopeOf o) ho
  conv at e_sc => lhs; whnf
  conv at e_sc => rhs; whnf
  have e_s20 := congrArg (fun o => stmtAt (bodyOf o) 20) ho
  conv at e_s20 => lhs; whnf
  conv at e_s20 => rhs; whnf
  have e_s21 := congrArg (fun o => stmtAt (bodyOf o) 21) ho
  conv at e_s21 => lhs; whnf
  conv at e_s21 => rhs; whnf
  clear ho
  subst e_sc
  subst e_s20
  subst e_s21
  have eM : kstB m [("count", .int (n : Int) tn), ("written", .str ⟨wl.toArray⟩ tw), ("cells", .ref D)] = m := funext fun z => kstB_eq (by simp [m1, m2, m3]) fun _ => rfl
  have F' : Fr h₀ L s.heap (kstB m [("count", .int (n : Int) tn), ("written", .str ⟨wl.toArray⟩ tw), ("cells", .ref D)]) := by rw [eM]; exact F
  clear F
  have zw2 : (⟨wl.toArray⟩ : Str).length ≤ 20 := zw
  revert X; k_fill; intro X
  (try k_fold)
  k_steps
  refine Stop.out (my_mod (by omega) fun sv t0 e0 l0 u0 => ?_)
  (try dsimp only)
  k_steps
  rename IsRange _ _ _ _ _ _ _ _ => hr
  rename Fr _ _ _ _ => F2
  rename News _ _ _ _ => N2
  refine Stop.out (kll_range (n := n) (by rfl) F2 N2 hr (small_one (by omega) (by omega) (by omega) (by omega)) (range_n n) (by omega) ?_)
  intro ln nv cn h9 tk9 F3 N3 l3 hI3
  rw [ks_range] at hI3
  (try dsimp only)
  k_steps
  rename Fr _ _ _ _ => F9
  rename News _ _ _ _ => N9
  rw [eM] at F9
  have zl : (⟨wl.toArray⟩ : Str).length = wl.length := List.size_toArray
  exact hret sv t0 ln nv cn _ _ _ _ l0 (by omega) (by assumption) hI3 (l3 _ (.head _)) (allLt_of fun q hq => l3 q (.tail _ hq)) F9 (by rfl) (fun z hz => if_neg hz) N9
end
end Mine
end -- U11
section -- U12
open PySem PySem.W PySem.Calls PyProof.Rows
set_option Elab.async false
set_option maxRecDepth 100000
set_option maxHeartbeats 1000000
namespace Mine
abbrev SegP (rest : List (Addr × Obj)) : Type := {c : List (Addr × Obj) × List (Addr × Obj) // Segs c.1 c.2 rest}
abbrev SegP.led (rest : List (Addr × Obj)) (c : SegP rest) : List (Addr × Obj) := c.1.1 ++ (c.1.2 ++ rest)
section
local macro_rules | `(tactic| walk_at "call ref") => `(tactic| refine Stop.mk ?_)
theorem clear_32 : True := by
  first
  | (row_walk; done)
  | trivial
theorem keyNum1 (w : World) (p : Program) (loose : List Str) (mean : ExcName → Option Value) (mg mb : Str → Option Value)
  {oc0 : Value} {od0 : Option Addr} {osl0 : Array (Option Value)} {nm0 q0 : Str} {ps0 : Arguments} {s0 s1 s2 s3 s4 s5 s6 s7 s8 s9 s10 s11 s12 s13 s14 s15 s16 s17 s18 s19 s20 s21 : Stmt} {rs : List Stmt} {sc : Scope} {dV0 kV0 doc0 pm0 : Value} {an0 : Option Addr} {cdv0 ct0 : Value} {fa fb fc : Expr} {ta aa ac : List Expr} {kws : List Keyword} {ka kb : Option Str} {P1 P2 : Arguments} {B1 B2 : Expr} {S1 S2 : Scope} {g1 g2 gk1 gk2 ga gb gc gl ge gs1 : Pos}
  (ho : (pre.heap_1 w.params).lookup 143 = some ⟨oc0, od0, .func (fnOf nm0 q0 ps0 (s0 :: s1 :: s2 :: s3 :: s4 :: s5 :: s6 :: s7 :: s8 :: s9 :: s10 :: s11 :: s12 :: s13 :: s14 :: s15 :: s16 :: s17 :: s18 :: s19 :: s20 :: s21 :: .Assign ta (.List [.Call fa aa [⟨ka, .Lambda P1 B1 S1 g1, gk1⟩] ga] gl) gs1 :: .Expr (.Call fb [.Call fc ac [⟨kb, .Lambda P2 B2 S2 g2, gk2⟩] gc] kws gb) ge :: rs) sc dV0 kV0 doc0 pm0 an0 cdv0 ct0), osl0⟩)
  (base : Heap) (C62 : CodeHd base 66 62) (C69 : CodeHd base 73 69) (C140 : CodeHd base 142 140) (c : Par) (hc : c.Ok) (hW : Hide (c.W ≤ 10 ^ 30)) (L f c' : Addr) (oc oF o5 o6 o8 : Obj) (pm ctv : Value) (vc : Array Value) (tc tW tP tf t : Tok) (k : Nat) (hk9 : k ≤ 10) (rest : List (Addr × Obj))
  (hoF : kla_obj "<lambda>" lamQ P1 B1 S1 [("whole", L + 1 + 1 + 1 + 1 + 1 + 1 + 1 + 1), ("part", L + 1 + 1 + 1 + 1 + 1 + 1), ("first", L + 1 + 1 + 1 + 1 + 1)] pm c' ctv = oF) (hf : (f, oF) ∈ rest) (hcc : (c', oc) ∈ rest) (d1 : oc.data = .fields vc) (d2 : vc[1]? = some (.str lamQ tc))
  (h5 : (L + 1 + 1 + 1 + 1 + 1, o5) ∈ rest) (h6 : (L + 1 + 1 + 1 + 1 + 1 + 1, o6) ∈ rest) (h8 : (L + 1 + 1 + 1 + 1 + 1 + 1 + 1 + 1, o8) ∈ rest) (d5 : o5.data = .cell (some (.int c.f tf))) (d6 : o6.data = .cell (some (.int c.P tP))) (d8 : o8.data = .cell (some (.int c.W tW))) :
  KeyOk w p loose mean mg mb base 230 (SegP.led rest) f (.int (k : Int) t) ((k : Int) + c.quo k) := by
  have e_sc := congrArg (fun o => scopeOf o) ho
  conv at e_sc => lhs; whnf
  conv at e_sc => rhs; whnf
  have e_nm : Str.ofString "law" = nm0 := congrArg (fun o => nameOf o) ho
  have e_t22 := congrArg (fun o => stmtAt (bodyOf o) 22) ho
  conv at e_t22 => lhs; whnf
  conv at e_t22 => rhs; whnf
  clear ho
  subst e_sc
  subst e_nm
  cases e_t22
  subst hoF
  rintro dp un gd cn cs a ccd cl outer A₀ h₀ L₁ m s Q E ⟨⟨sa, sb⟩, hsg⟩ B F X N T hk hdp hret
  dsimp only [SegP.led] at N
  have inn : ∀ {q : Addr × Obj}, q ∈ rest → q ∈ sa ++ (sb ++ rest) := fun hq => List.mem_append_right _ (List.mem_append_right _ hq)
  have g5 := inn h5
  have g6 := inn h6
  have g8 := inn h8
  have W1 := hc.W1
  have P0 := hc.P0
  have PW := hc.PW
  have f0 := hc.f0
  have fW := hc.fW
  have hWb : Builtin.Int.intBits c.W < 900 := bits_small (by omega) (by have := hW.out; omega)
  have X0 := Hide.mk X
  revert X; k_fill; intro X
  refine wpAny_call ?_
  refine' kla_code (binds := [("k", .int (k : Int) t)]) ?k1 ?k2 ?k3 ?k4 ?k5 ?kA ?kF ?kK ?k6 ?k7 ?k8 ?k9 ?kB ?_ ?c2 ?c3 ?c4 ?c5
  (case kA => exact rfl); (case kF => exact rfl); (case kK => exact hk); (case k1 => exact B); (case k2 => exact F); (case k3 => exact X0.out); (case k4 => exact N); (case k5 => exact T); (case k6 => exact inn hf); (case k7 => exact codeRec_news N (inn hcc) d1 d2); (case k8 => show dp < recursionLimit; omega); (case k9 => exact rfl); (case c5 => decide); (case kB => exact locs rfl); (case c2 => exact rfl); (case c3 => exact rfl); (case c4 => exact rfl)
  intro g' L' h' FG' F' N' B' X' T'
  have X1 := Hide.mk X'
  revert X'; k_fill; intro X'
  (try dsimp only)
  (try k_fold)
  k_steps
  rename Fr _ _ _ _ => F2
  rename News _ _ _ _ => N2
  have pk0 : 0 ≤ c.P * (k : Int) := Int.mul_nonneg P0 (by omega)
  have pk1 : c.P * (k : Int) ≤ c.W * (k : Int) := Int.mul_le_mul_of_nonneg_right PW (by omega)
  have pk2 : c.W * (k : Int) ≤ c.W * 11 := Int.mul_le_mul_of_nonneg_left (by omega) (by omega)
  refine Stop.out ?_
  refine idm1 w p loose mean mg mb _ _ _ _ _ _ _ _ _ _ base g' L' _ _ _ _ sa sb rest B' F2 X1.out N2 T' rfl C62 C69 hsg _ _ _ _ (by omega) hWb (by omega) (by omega) ?dp9 ?_
  case dp9 => show dp + 1 + 204 < recursionLimit; omega
  intro h9 tk9 t9 u1 u2 sa' sb' hf9 F3 N3 lt
  have eq : (c.P * (k : Int) + c.f) / c.W = c.quo k := by rw [Par.quo, Int.add_comm]
  rw [eq] at N3
  (try dsimp only)
  k_steps
  rename Fr _ _ _ _ => F9
  rename News _ _ _ _ => N9
  exact hret ⟨(sa', sb'), hf9.toSegs⟩ _ _ _ F9 (News.dropHd N9)
theorem keyNum2 (w : World) (p : Program) (loose : List Str) (mean : ExcName → Option Value) (mg mb : Str → Option Value)
  {oc0 : Value} {od0 : Option Addr} {osl0 : Array (Option Value)} {nm0 q0 : Str} {ps0 : Arguments} {s0 s1 s2 s3 s4 s5 s6 s7 s8 s9 s10 s11 s12 s13 s14 s15 s16 s17 s18 s19 s20 s21 : Stmt} {rs : List Stmt} {sc : Scope} {dV0 kV0 doc0 pm0 : Value} {an0 : Option Addr} {cdv0 ct0 : Value} {fa fb fc : Expr} {ta aa ac : List Expr} {kws : List Keyword} {ka kb : Option Str} {P1 P2 : Arguments} {B1 B2 : Expr} {S1 S2 : Scope} {g1 g2 gk1 gk2 ga gb gc gl ge gs1 : Pos}
  (ho : (pre.heap_1 w.params).lookup 143 = some ⟨oc0, od0, .func (fnOf nm0 q0 ps0 (s0 :: s1 :: s2 :: s3 :: s4 :: s5 :: s6 :: s7 :: s8 :: s9 :: s10 :: s11 :: s12 :: s13 :: s14 :: s15 :: s16 :: s17 :: s18 :: s19 :: s20 :: s21 :: .Assign ta (.List [.Call fa aa [⟨ka, .Lambda P1 B1 S1 g1, gk1⟩] ga] gl) gs1 :: .Expr (.Call fb [.Call fc ac [⟨kb, .Lambda P2 B2 S2 g2, gk2⟩] gc] kws gb) ge :: rs) sc dV0 kV0 doc0 pm0 an0 cdv0 ct0), osl0⟩)
  (base : Heap) (C62 : CodeHd base 66 62) (C69 : CodeHd base 73 69) (C140 : CodeHd base 142 140) (c : Par) (hc : c.Ok) (hW : Hide (c.W ≤ 10 ^ 30)) (L f c' : Addr) (oc oF o5 o6 o8 : Obj) (pm ctv : Value) (vc : Array Value) (tc tW tP tf t : Tok) (k : Nat) (hk9 : k ≤ 10) (rest : List (Addr × Obj))
  (hoF : kla_obj "<lambda>" lamQ P2 B2 S2 [("whole", L + 1 + 1 + 1 + 1 + 1 + 1 + 1 + 1), ("part", L + 1 + 1 + 1 + 1 + 1 + 1), ("first", L + 1 + 1 + 1 + 1 + 1)] pm c' ctv = oF) (hf : (f, oF) ∈ rest) (hcc : (c', oc) ∈ rest) (d1 : oc.data = .fields vc) (d2 : vc[1]? = some (.str lamQ tc))
  (h5 : (L + 1 + 1 + 1 + 1 + 1, o5) ∈ rest) (h6 : (L + 1 + 1 + 1 + 1 + 1 + 1, o6) ∈ rest) (h8 : (L + 1 + 1 + 1 + 1 + 1 + 1 + 1 + 1, o8) ∈ rest) (d5 : o5.data = .cell (some (.int c.f tf))) (d6 : o6.data = .cell (some (.int c.P tP))) (d8 : o8.data = .cell (some (.int c.W tW))) :
  KeyOk w p loose mean mg mb base 230 (SegP.led rest) f (.int (k : Int) t) ((k : Int) + 1 + c.quo (k + 1)) := by
  have e_sc := congrArg (fun o => scopeOf o) ho
  conv at e_sc => lhs; whnf
  conv at e_sc => rhs; whnf
  have e_nm : Str.ofString "law" = nm0 := congrArg (fun o => nameOf o) ho
  have e_t23 := congrArg (fun o => stmtAt (bodyOf o) 23) ho
  conv at e_t23 => lhs; whnf
  conv at e_t23 => rhs; whnf
  clear ho
  subst e_sc
  subst e_nm
  cases e_t23
  subst hoF
  rintro dp un gd cn cs a ccd cl outer A₀ h₀ L₁ m s Q E ⟨⟨sa, sb⟩, hsg⟩ B F X N T hk hdp hret
  dsimp only [SegP.led] at N
  have inn : ∀ {q : Addr × Obj}, q ∈ rest → q ∈ sa ++ (sb ++ rest) := fun hq => List.mem_append_right _ (List.mem_append_right _ hq)
  have g5 := inn h5
  have g6 := inn h6
  have g8 := inn h8
  have W1 := hc.W1
  have P0 := hc.P0
  have PW := hc.PW
  have f0 := hc.f0
  have fW := hc.fW
  have hWb : Builtin.Int.intBits c.W < 900 := bits_small (by omega) (by have := hW.out; omega)
  have X0 := Hide.mk X
  revert X; k_fill; intro X
  refine wpAny_call ?_
  refine' kla_code (binds := [("k", .int (k : Int) t)]) ?k1 ?k2 ?k3 ?k4 ?k5 ?kA ?kF ?kK ?k6 ?k7 ?k8 ?k9 ?kB ?_ ?c2 ?c3 ?c4 ?c5
  (case kA => exact rfl); (case kF => exact rfl); (case kK => exact hk); (case k1 => exact B); (case k2 => exact F); (case k3 => exact X0.out); (case k4 => exact N); (case k5 => exact T); (case k6 => exact inn hf); (case k7 => exact codeRec_news N (inn hcc) d1 d2); (case k8 => show dp < recursionLimit; omega); (case k9 => exact rfl); (case c5 => decide); (case kB => exact locs rfl); (case c2 => exact rfl); (case c3 => exact rfl); (case c4 => exact rfl)
  intro g' L' h' FG' F' N' B' X' T'
  have X1 := Hide.mk X'
  revert X'; k_fill; intro X'
  (try dsimp only)
  (try k_fold)
  k_steps
  rename Fr _ _ _ _ => F2
  rename News _ _ _ _ => N2
  have pk0 : 0 ≤ c.P * ((k : Int) + 1) := Int.mul_nonneg P0 (by omega)
  have pk1 : c.P * ((k : Int) + 1) ≤ c.W * ((k : Int) + 1) := Int.mul_le_mul_of_nonneg_right PW (by omega)
  have pk2 : c.W * ((k : Int) + 1) ≤ c.W * 11 := Int.mul_le_mul_of_nonneg_left (by omega) (by omega)
  refine Stop.out ?_
  refine idm1 w p loose mean mg mb _ _ _ _ _ _ _ _ _ _ base g' L' _ _ _ _ sa sb rest B' F2 X1.out N2 T' rfl C62 C69 hsg _ _ _ _ (by omega) hWb (by omega) (by omega) ?dp9 ?_
  case dp9 => show dp + 1 + 204 < recursionLimit; omega
  intro h9 tk9 t9 u1 u2 sa' sb' hf9 F3 N3 lt
  have eq : (c.P * ((k : Int) + 1) + c.f) / c.W = c.quo (k + 1) := by rw [Par.quo, Int.add_comm]; rfl
  rw [eq] at N3
  (try dsimp only)
  k_steps
  rename Fr _ _ _ _ => F9
  rename News _ _ _ _ => N9
  exact hret ⟨(sa', sb'), hf9.toSegs⟩ _ _ _ F9 (News.dropHd N9)
end
end Mine
end -- U12
section -- U13
open PySem PySem.W PySem.Calls PyProof.Rows
set_option Elab.async false
set_option maxRecDepth 100000
set_option maxHeartbeats 1000000
namespace Mine
/-- the ledger's order from here on: the code table, the codes, the segments, the rest -/
structure Lg (ks : List Cd) (a b rest : List (Addr × Obj)) : Prop where
  cds : CdOk lamQ ks
  h140 : ∀ q ∈ cdsL ks ++ (a ++ (b ++ rest)), q.1 ≠ 140
  seg : Segs a b (tabE ks :: (cdsL ks ++ rest))
abbrev lgL (ks : List Cd) (a b rest : List (Addr × Obj)) : List (Addr × Obj) := tabE ks :: (cdsL ks ++ (a ++ (b ++ rest)))
theorem lgL_mem {ks : List Cd} {a b rest : List (Addr × Obj)} {q : Addr × Obj} (h : q ∈ rest) : q ∈ lgL ks a b rest := .tail _ (List.mem_append_right _ (List.mem_append_right _ (List.mem_append_right _ h)))
theorem lgL_seg {ks : List Cd} {a b rest : List (Addr × Obj)} {q : Addr × Obj} (h : q ∈ a ++ b) : q ∈ lgL ks a b rest := .tail _ (List.mem_append_right _ (by
  simp only [List.mem_append] at h ⊢
  rcases h with h | h <;> simp [h]))
/-- a new code, if any, lies above all -/
def NewCds (ks ks' : List Cd) (l : List (Addr × Obj)) : Prop := ∀ k ∈ ks', k ∈ ks ∨ ∀ q ∈ l, @LT.lt Nat _ q.1 k.c
theorem Lg.lam {ks ks' : List Cd} {a b rest : List (Addr × Obj)} {f : Addr} {oF : Obj} (g : Lg ks a b rest) (hks : CdOk lamQ ks') (hnew : NewCds ks ks' (lgL ks a b rest)) (hlt : ∀ q ∈ lgL ks' a b rest, @LT.lt Nat _ q.1 f) :
    Segs a b ((f, oF) :: tabE ks' :: (cdsL ks' ++ rest)) := by
  refine g.seg.by fun q hq => ?_
  rcases List.mem_cons.mp hq with hq | hq
  · exact .inr fun p hp => by rw [hq]; exact hlt p (lgL_seg hp)
  · rcases List.mem_cons.mp hq with hq | hq
    · exact .inl ⟨_, by rw [hq]; exact .head _⟩
    · rcases List.mem_append.mp hq with hq | hq
      · obtain ⟨k, hk, e⟩ := cds_back hq
        rcases hnew k hk with h | h
        · exact .inl ⟨k.o, by rw [e]; exact mem_cds _ _ h⟩
        · exact .inr fun p hp => by rw [e]; exact h p (lgL_seg hp)
      · exact .inl ⟨q.2, .tail _ (List.mem_append_right _ hq)⟩
theorem Lg.next {ks ks' : List Cd} {a b a' b' rest : List (Addr × Obj)} {f : Addr} {oF : Obj} (g : Lg ks a b rest) (hks : CdOk lamQ ks') (h140 : ∀ q ∈ cdsL ks' ++ (a ++ (b ++ rest)), q.1 ≠ 140) (hs : Segs a' b' ((f, oF) :: tabE ks' :: (cdsL ks' ++ rest))) : Lg ks' a' b' rest where
  cds := hks
  h140 := by
    intro q hq
    rcases List.mem_append.mp hq with hq | hq
    · exact h140 q (List.mem_append_left _ hq)
    · rcases List.mem_append.mp hq with hq | hq
      · exact (hs.a62 q hq (tabE ks') (List.mem_append_right _ (.tail _ (.head _)))).symm
      · rcases List.mem_append.mp hq with hq | hq
        · exact (hs.a69 q hq (tabE ks') (.tail _ (.head _))).symm
        · exact h140 q (List.mem_append_right _ (List.mem_append_right _ (List.mem_append_right _ hq)))
  seg := hs.sub fun q hq => .tail _ hq
theorem Lg.cons {ks : List Cd} {a b rest : List (Addr × Obj)} {x : Addr} {o : Obj} (g : Lg ks a b rest) (hlt : ∀ q ∈ lgL ks a b rest, @LT.lt Nat _ q.1 x) : Lg ks a b ((x, o) :: rest) where
  cds := g.cds
  h140 := by
    intro q hq
    simp only [List.mem_append, List.mem_cons] at hq
    rcases hq with h | h | h | h | h
    · exact g.h140 q (by simp [h])
    · exact g.h140 q (by simp [h])
    · exact g.h140 q (by simp [h])
    · rw [h]; exact (Nat.ne_of_lt (hlt (tabE ks) (.head _))).symm
    · exact g.h140 q (by simp [h])
  seg := by
    refine g.seg.by fun q hq => ?_
    rcases List.mem_cons.mp hq with hq | hq
    · exact .inl ⟨_, by rw [hq]; exact .head _⟩
    · rcases List.mem_append.mp hq with hq | hq
      · exact .inl ⟨q.2, .tail _ (List.mem_append_left _ hq)⟩
      · rcases List.mem_cons.mp hq with hq | hq
        · exact .inr fun p hp => by rw [hq]; exact hlt p (lgL_seg hp)
        · exact .inl ⟨q.2, .tail _ (List.mem_append_right _ hq)⟩
/-- another object at the same address -/
theorem Lg.swap {ks : List Cd} {a b rest : List (Addr × Obj)} {x : Addr} {o o' : Obj} (g : Lg ks a b ((x, o) :: rest)) : Lg ks a b ((x, o') :: rest) where
  cds := g.cds
  h140 := by
    intro q hq
    simp only [List.mem_append, List.mem_cons] at hq
    rcases hq with h | h | h | h | h
    · exact g.h140 q (by simp [h])
    · exact g.h140 q (by simp [h])
    · exact g.h140 q (by simp [h])
    · rw [h]; exact g.h140 (x, o) (by simp)
    · exact g.h140 q (by simp [h])
  seg := by
    refine g.seg.by fun q hq => .inl ?_
    rcases List.mem_cons.mp hq with hq | hq
    · exact ⟨_, by rw [hq]; exact .head _⟩
    · rcases List.mem_append.mp hq with hq | hq
      · exact ⟨q.2, .tail _ (List.mem_append_left _ hq)⟩
      · rcases List.mem_cons.mp hq with hq | hq
        · exact ⟨o, by rw [hq]; exact .tail _ (List.mem_append_right _ (.head _))⟩
        · exact ⟨q.2, .tail _ (List.mem_append_right _ (.tail _ hq))⟩
theorem lg_p1 {f t : Addr × Obj} {cd a b r : List (Addr × Obj)} : ∀ q ∈ a ++ (b ++ (f :: t :: (cd ++ r))), q ∈ f :: t :: (cd ++ (a ++ (b ++ r))) := by
  intro q hq
  simp only [List.mem_append, List.mem_cons] at hq ⊢
  rcases hq with h | h | h | h | h | h <;> simp [h]
theorem lg_p2 {f t : Addr × Obj} {cd a b r : List (Addr × Obj)} : ∀ q ∈ t :: (cd ++ (a ++ (b ++ r))), q ∈ a ++ (b ++ (f :: t :: (cd ++ r))) := by
  intro q hq
  simp only [List.mem_append, List.mem_cons] at hq ⊢
  rcases hq with h | h | h | h | h <;> simp [h]
theorem lg_p3 {x t : Addr × Obj} {cd a b r : List (Addr × Obj)} : ∀ q ∈ t :: (cd ++ (a ++ (b ++ (x :: r)))), q ∈ x :: t :: (cd ++ (a ++ (b ++ r))) := by
  intro q hq
  simp only [List.mem_append, List.mem_cons] at hq ⊢
  rcases hq with h | h | h | h | h | h <;> simp [h]
theorem lg_p4 {x t : Addr × Obj} {cd a b r : List (Addr × Obj)} : ∀ q ∈ x :: t :: (cd ++ (a ++ (b ++ r))), q ∈ t :: (cd ++ (a ++ (b ++ (x :: r)))) := by
  intro q hq
  simp only [List.mem_append, List.mem_cons] at hq ⊢
  rcases hq with h | h | h | h | h | h <;> simp [h]
theorem ints_at {n : Nat} {vs : List Value} (h : IntsAre vs ((List.range n).map fun i : Nat => (i : Int))) {i : Nat} {v : Value} (e : vs[i]? = some v) : i < n ∧ ∃ t, v = .int (i : Int) t := by
  have hl := h.length
  rw [List.length_map, List.length_range] at hl
  have hi : i < vs.length := by
    rcases Nat.lt_or_ge i vs.length with q | q
    · exact q
    · rw [List.getElem?_eq_none q] at e; cases e
  have hi2 : i < n := by omega
  obtain ⟨t, ht⟩ := h.get i (i : Int) (by rw [List.getElem?_map, List.getElem?_range hi2]; rfl)
  exact ⟨hi2, t, Option.some.inj (e.symm.trans ht)⟩
section
local macro_rules | `(tactic| walk_at "call ref") => `(tactic| refine Stop.mk ?_)
local macro_rules | `(tactic| walk_at "eval Lambda") => `(tactic| refine Stop.mk ?_)
theorem clear_33 : True := by
  first
  | (row_walk; done)
  | trivial
theorem srch22 (w : World) (p : Program) (loose : List Str) (mean : ExcName → Option Value) (mg mb : Str → Option Value)
  {oc0 : Value} {od0 : Option Addr} {osl0 : Array (Option Value)} {nm0 q0 : Str} {ps0 : Arguments} {s0 s1 s2 s3 s4 s5 s6 s7 s8 s9 s10 s11 s12 s13 s14 s15 s16 s17 s18 s19 s20 s21 : Stmt} {rs : List Stmt} {sc : Scope} {dV0 kV0 doc0 pm0 : Value} {an0 : Option Addr} {cdv0 ct0 : Value} {fa fb fc : Expr} {ta aa ac : List Expr} {kws : List Keyword} {ka kb : Option Str} {P1 P2 : Arguments} {B1 B2 : Expr} {S1 S2 : Scope} {g1 g2 gk1 gk2 ga gb gc gl ge gs1 : Pos}
  (ho : (pre.heap_1 w.params).lookup 143 = some ⟨oc0, od0, .func (fnOf nm0 q0 ps0 (s0 :: s1 :: s2 :: s3 :: s4 :: s5 :: s6 :: s7 :: s8 :: s9 :: s10 :: s11 :: s12 :: s13 :: s14 :: s15 :: s16 :: s17 :: s18 :: s19 :: s20 :: s21 :: .Assign ta (.List [.Call fa aa [⟨ka, .Lambda P1 B1 S1 g1, gk1⟩] ga] gl) gs1 :: .Expr (.Call fb [.Call fc ac [⟨kb, .Lambda P2 B2 S2 g2, gk2⟩] gc] kws gb) ge :: rs) sc dV0 kV0 doc0 pm0 an0 cdv0 ct0), osl0⟩)
  (rs' : List Stmt) (h₀ : Heap) (L : Addr) (m : Str → Option Value) (s : Shared) (Q : Flow → Shared → Prop)
  (c : Par) (hc : c.Ok) (hW : Hide (c.W ≤ 10 ^ 30)) (n : Nat) (hn : n ≤ 10) (sv : Int) (cb ce : Nat) (hcb : cb ≤ n) (hce : ce ≤ n) (cutb : ∀ i : Nat, i < (c.begs n).length → (((c.begs n).getD i 0 < sv) ↔ i < cb)) (cute : ∀ i : Nat, i < (c.ends n).length → ((¬ sv < (c.ends n).getD i 0) ↔ i < ce))
  (tW tP tf ts : Tok) (o5 o6 o7 o8 : Obj) (ln : Addr) (nv : List Value) (cn : Nat) (ks : List Cd) (a b rest : List (Addr × Obj)) (g : Lg ks a b rest)
  (B : Below callerA h₀ [] h₀) (F : Fr h₀ L s.heap m) (X : (pre.heap_1 w.params).In h₀) (T : Top p loose mean mg mb h₀) (N : News h₀ L s.heap (lgL ks a b rest))
  (h5 : (L + 1 + 1 + 1 + 1 + 1, o5) ∈ rest) (h6 : (L + 1 + 1 + 1 + 1 + 1 + 1, o6) ∈ rest) (h7 : (L + 1 + 1 + 1 + 1 + 1 + 1 + 1, o7) ∈ rest) (h8 : (L + 1 + 1 + 1 + 1 + 1 + 1 + 1 + 1, o8) ∈ rest) (hln : (ln, listOf nv.toArray cn) ∈ rest) (inv : IntsAre nv ((List.range n).map fun i : Nat => (i : Int)))
  (C62 : CodeHd h₀ 66 62) (C69 : CodeHd h₀ 73 69) (C140 : CodeHd h₀ 142 140)
  (d5 : o5.data = .cell (some (.int c.f tf))) (d6 : o6.data = .cell (some (.int c.P tP))) (d7 : o7.data = .cell (some (.int sv ts))) (d8 : o8.data = .cell (some (.int c.W tW)))
  (m1 : m "numbers" = some (.ref ln))
  (hret : ∀ (ks' : List Cd) (a' b' : List (Addr × Obj)) (lf : Addr) (u v : Tok) (kf : Nat) (h' : Heap) (tk : Nat) (m' : Str → Option Value), Lg ks' a' b' ((lf, listOf #[.int (cb : Int) u, .int (ce : Int) v] kf) :: rest) → (∀ q ∈ rest, @LT.lt Nat _ q.1 lf) → Fr h₀ L h' m' → m' "found" = some (.ref lf) → (∀ z : Str, z ≠ "found" → m' z = m z) → News h₀ L h' (lgL ks' a' b' ((lf, listOf #[.int (cb : Int) u, .int (ce : Int) v] kf) :: rest)) → wpAny (model PySem.Challenge.rw_ta0044_01.row.prog w) (callerA.deeper (envOfC nm0 sc L 143 (.ref 142))) (execs rs' (envOfC nm0 sc L 143 (.ref 142))) Q (fun _ _ => False) { s with heap := h', toks := tk }) :
  wpAny (model PySem.Challenge.rw_ta0044_01.row.prog w) (callerA.deeper (envOfC nm0 sc L 143 (.ref 142))) (execs (.Assign ta (.List [.Call fa aa [⟨ka, .Lambda P1 B1 S1 g1, gk1⟩] ga] gl) gs1 :: .Expr (.Call fb [.Call fc ac [⟨kb, .Lambda P2 B2 S2 g2, gk2⟩] gc] kws gb) ge :: rs') (envOfC nm0 sc L 143 (.ref 142))) Q (fun _ _ => False) s := by
  have e_sc := congrArg (fun o => scopeOf o) ho
  conv at e_sc => lhs; whnf
  conv at e_sc => rhs; whnf
  have e_nm : Str.ofString "law" = nm0 := congrArg (fun o => nameOf o) ho
  have e_t22 := congrArg (fun o => stmtAt (bodyOf o) 22) ho
  conv at e_t22 => lhs; whnf
  conv at e_t22 => rhs; whnf
  have e_t23 := congrArg (fun o => stmtAt (bodyOf o) 23) ho
  conv at e_t23 => lhs; whnf
  conv at e_t23 => rhs; whnf
  clear ho
  subst e_sc
  subst e_nm
  cases e_t22
  cases e_t23
  have eM : kstB m [("numbers", .ref ln)] = m := funext fun z => kstB_eq (by simp [m1]) fun _ => rfl
  have F' : Fr h₀ L s.heap (kstB m [("numbers", .ref ln)]) := by rw [eM]; exact F
  clear F
  have zn : nv.length = n := by rw [inv.length, List.length_map, List.length_range]
  have inv0 := Hide.mk inv
  have X0 := Hide.mk X
  have h7' : (L + 1 + 1 + 1 + 1 + 1 + 1 + 1, o7) ∈ lgL ks a b rest := lgL_mem h7
  revert X; k_fill; intro X
  (try k_fold)
  k_steps
  rename Fr _ _ _ _ => F2
  rename News _ _ _ _ => N2
  refine Stop.out (kla_eval rfl (lamAny (qual := lamQ) (ks := ks) (others := a ++ (b ++ rest)) F2 N2 T C140 rfl g.cds g.h140 rfl ?_))
  intro f k' ctv ks' h9 tk9 hks' hk' hnew F3 N3 hoth3 hlt
  obtain ⟨vc, tc, dc1, dc2⟩ := hks' k' hk'
  generalize hoF : kla_obj _ _ _ _ _ _ _ _ _ = oF at N3
  have hseg := g.lam (oF := oF) hks' hnew hlt
  have h7'' : (L + 1 + 1 + 1 + 1 + 1 + 1 + 1, o7) ∈ (f, oF) :: lgL ks' a b rest := .tail _ (lgL_mem h7)
  (try dsimp only)
  k_steps
  rename Fr _ _ _ _ => F4
  rename News _ _ _ _ => N4
  have zb : (c.begs n).length = n := c.begs_len n
  have ze : (c.ends n).length = n := c.ends_len n
  have hcd1 : ∀ {q : Addr × Obj}, q ∈ rest → q ∈ (f, oF) :: tabE ks' :: (cdsL ks' ++ rest) := fun hq => .tail _ (.tail _ (List.mem_append_right _ hq))
  have hkey : ∀ (i : Nat) (v : Value), nv[i]? = some v → KeyOk w p loose mean mg mb h₀ 230 (SegP.led ((f, oF) :: tabE ks' :: (cdsL ks' ++ rest))) f v ((c.begs n).getD i 0) := by
    intro i v hv
    obtain ⟨hi, t, rfl⟩ := ints_at inv0.out hv
    have e : (c.begs n).getD i 0 = (i : Int) + c.quo i := by rw [Par.begs, getD_range _ hi]
    rw [e]
    exact keyNum1 w p loose mean mg mb (ho := rfl) h₀ C62 C69 C140 c hc hW L f k'.c k'.o oF o5 o6 o8 _ ctv vc tc tW tP tf t i (by omega) _ hoF (.head _) (.tail _ (mem_cds _ _ hk')) dc1 dc2 (hcd1 h5) (hcd1 h6) (hcd1 h8) d5 d6 d8
  refine Stop.out ?_
  show wpAny (model PySem.Challenge.rw_ta0044_01.row.prog w) (ktrTop lawDp 7 (some []) _ _ L _ _ (cellsFrom (L + 1) _ []) []) (call (.ref 124) [.ref ln, .int sv ts] [("key", .ref f)]) _ _ _
  refine kbisl2 w p loose mean mg mb lawDp 7 (some []) _ _ _ _ (cellsFrom (L + 1) _ []) [] callerA h₀ h₀ L (kstB m [("numbers", .ref ln)]) ⟨h9, _, _, _, _⟩ _ _ (SegP.led ((f, oF) :: tabE ks' :: (cdsL ks' ++ rest))) ⟨(a, b), hseg⟩ B ?F4 ?X4 ?N4 ?T4 ?k4 C140 230 ?dp4 ln f nv (c.begs n) cn ?hm4 ?zl4 ?len4 ?fn4 hkey sv ts 0 cb ?c4 cutb ?_
  case F4 => exact F4
  case X4 => exact X0.out
  case N4 => exact News.sub N4 lg_p1
  case T4 => exact T
  case k4 => rfl
  case dp4 => decide
  case hm4 => exact fun _ => List.mem_append_right _ (List.mem_append_right _ (hcd1 hln))
  case zl4 => omega
  case len4 => omega
  case fn4 => exact fun _ => ⟨_, _, _, _, List.mem_append_right _ (List.mem_append_right _ (by rw [← hoF]; exact .head _))⟩
  case c4 => omega
  rintro ⟨⟨a1, b1⟩, hs1⟩ h8' tk8 u8 F5 N5
  have g1 := g.next hks' hoth3 hs1
  replace N5 : News h₀ L h8' (lgL ks' a1 b1 rest) := News.sub N5 lg_p2
  clear F4 N4
  have h7b : (L + 1 + 1 + 1 + 1 + 1 + 1 + 1, o7) ∈ lgL ks' a1 b1 rest := lgL_mem h7
  (try dsimp only)
  k_steps
  rename Fr _ _ _ _ => F6
  rename News _ _ _ _ => N6
  rename (@LT.lt Nat _ 140 _) ∧ _ => l6
  rename_i lf hh1 hh2
  have hlt6 : ∀ q ∈ lgL ks' a1 b1 rest, @LT.lt Nat _ q.1 lf := fun q hq => (List.mem_cons.mp hq).elim (fun e => by rw [e]; exact l6.1) (fun hq => allLt_mem l6.2 q hq)
  have g2 : Lg ks' a1 b1 ((lf, listOf #[.int (cb : Int) u8] 0) :: rest) := g1.cons hlt6
  refine Stop.out (kla_eval rfl (lamAny (qual := lamQ) (ks := ks') (others := a1 ++ (b1 ++ ((lf, listOf #[.int (cb : Int) u8] 0) :: rest))) F6 (News.sub N6 lg_p3) T C140 rfl g2.cds g2.h140 rfl ?_))
  intro f2 k2 ctv2 ks2 h10 tk10 hks2 hk2 hnew2 F7 N7 hoth7 hlt7
  obtain ⟨vc2, tc2, dc3, dc4⟩ := hks2 k2 hk2
  generalize hoF2 : kla_obj _ _ _ _ _ _ _ _ _ = oF2 at N7
  have hseg2 := g2.lam (oF := oF2) hks2 hnew2 hlt7
  have h7c : (L + 1 + 1 + 1 + 1 + 1 + 1 + 1, o7) ∈ (f2, oF2) :: lgL ks2 a1 b1 ((lf, listOf #[.int (cb : Int) u8] 0) :: rest) := .tail _ (lgL_mem (.tail _ h7))
  clear F6 N6
  have hcd2 : ∀ {q : Addr × Obj}, q ∈ rest → q ∈ (f2, oF2) :: tabE ks2 :: (cdsL ks2 ++ ((lf, listOf #[.int (cb : Int) u8] 0) :: rest)) := fun hq => .tail _ (.tail _ (List.mem_append_right _ (.tail _ hq)))
  have hkey2 : ∀ (i : Nat) (v : Value), nv[i]? = some v → KeyOk w p loose mean mg mb h₀ 230 (SegP.led ((f2, oF2) :: tabE ks2 :: (cdsL ks2 ++ ((lf, listOf #[.int (cb : Int) u8] 0) :: rest)))) f2 v ((c.ends n).getD i 0) := by
    intro i v hv
    obtain ⟨hi, t, rfl⟩ := ints_at inv0.out hv
    have e : (c.ends n).getD i 0 = (i : Int) + 1 + c.quo (i + 1) := by rw [Par.ends, getD_range _ hi]
    rw [e]
    exact keyNum2 w p loose mean mg mb (ho := rfl) h₀ C62 C69 C140 c hc hW L f2 k2.c k2.o oF2 o5 o6 o8 _ ctv2 vc2 tc2 tW tP tf t i (by omega) _ hoF2 (.head _) (.tail _ (mem_cds _ _ hk2)) dc3 dc4 (hcd2 h5) (hcd2 h6) (hcd2 h8) d5 d6 d8
  (try dsimp only)
  k_steps
  rename Fr _ _ _ _ => F8
  rename News _ _ _ _ => N8
  refine Stop.out ?_
  show wpAny (model PySem.Challenge.rw_ta0044_01.row.prog w) (ktrTop lawDp 7 (some []) _ _ L _ _ (cellsFrom (L + 1) _ []) []) (call (.ref 106) [.ref ln, .int sv ts] [("key", .ref f2)]) _ _ _
  refine kbisr2 w p loose mean mg mb lawDp 7 (some []) _ _ _ _ (cellsFrom (L + 1) _ []) [] callerA h₀ h₀ L _ ⟨h10, _, _, _, _⟩ _ _ (SegP.led ((f2, oF2) :: tabE ks2 :: (cdsL ks2 ++ ((lf, listOf #[.int (cb : Int) u8] 0) :: rest)))) ⟨(a1, b1), hseg2⟩ B F8 X0.out (News.sub N8 lg_p1) T rfl C140 230 (by decide) ln f2 nv (c.ends n) cn (fun _ => List.mem_append_right _ (List.mem_append_right _ (hcd2 hln))) (by omega) (by omega) (fun _ => ⟨_, _, _, _, List.mem_append_right _ (List.mem_append_right _ (by rw [← hoF2]; exact .head _))⟩) hkey2 sv ts 0 ce (by omega) cute ?_
  rintro ⟨⟨a2, b2⟩, hs2⟩ h11 tk11 u9 F9 N9
  have g3 := g2.next hks2 hoth7 hs2
  replace N9 : News h₀ L h11 ((lf, listOf #[.int (cb : Int) u8] 0) :: lgL ks2 a2 b2 rest) := News.sub (News.sub N9 lg_p2) lg_p4
  have hne : ∀ q ∈ lgL ks2 a2 b2 rest, q.1 ≠ lf := by
    intro q hq
    rcases List.mem_cons.mp hq with hq | hq
    · rw [hq]; exact fun e => g3.h140 (lf, _) (List.mem_append_right _ (List.mem_append_right _ (List.mem_append_right _ (.head _)))) e.symm
    · have hlf2 : (lf, listOf #[.int (cb : Int) u8] 0) ∈ (f2, oF2) :: tabE ks2 :: (cdsL ks2 ++ ((lf, listOf #[.int (cb : Int) u8] 0) :: rest)) := .tail _ (.tail _ (List.mem_append_right _ (.head _)))
      rcases List.mem_append.mp hq with hq | hq
      · obtain ⟨k, hk, e⟩ := cds_back hq
        rcases hnew2 k hk with h | h
        · exact Nat.ne_of_lt (hlt6 q (.tail _ (List.mem_append_left _ (by rw [e]; exact List.mem_map_of_mem (f := fun k : Cd => (k.c, k.o)) h))))
        · have := h (lf, listOf #[.int (cb : Int) u8] 0) (lgL_mem (.head _))
          rw [e]; exact (Nat.ne_of_lt this).symm
      · rcases List.mem_append.mp hq with hq | hq
        · exact (hs2.a62 q hq _ (List.mem_append_right _ hlf2)).symm
        · rcases List.mem_append.mp hq with hq | hq
          · exact (hs2.a69 q hq _ hlf2).symm
          · exact Nat.ne_of_lt (hlt6 q (lgL_mem hq))
  clear F8 N8
  (try dsimp only)
  k_steps
  rename Fr _ _ _ _ => F10
  rename News _ _ _ _ => N10
  rw [eM] at F10
  exact hret ks2 a2 b2 lf u8 u9 _ _ _ _ g3.swap (fun q hq => hlt6 q (lgL_mem hq)) F10 (by rfl) (fun z hz => if_neg hz) (News.sub N10 lg_p3)
end
end Mine
end -- U13
section -- U14
open PySem PySem.W PySem.Calls PyProof.Rows
set_option Elab.async false
set_option maxRecDepth 100000
set_option maxHeartbeats 1000000
namespace Mine
theorem filter_yes {P : Int → Prop} [DecidablePred P] {x : Int} (h : P x) : [x].filter (fun x => decide (P x)) = [x] := by simp [h]
theorem filter_no {P : Int → Prop} [DecidablePred P] {x : Int} (h : ¬ P x) : [x].filter (fun x => decide (P x)) = [] := by simp [h]
section
local macro_rules | `(tactic| walk_at "eval ListComp") => `(tactic| refine Stop.mk ?_)
local macro_rules | `(tactic| walk_at "CompSrcT") => `(tactic| refine Stop.mk ?_)
local macro_rules | `(tactic| walk_at "compareOp NotEq ref ref") => `(tactic| refine Stop.mk ?_)
local macro_rules | `(tactic| walk_at "call builtin:len") => `(tactic| refine Stop.mk ?_)
theorem clear_34 : True := by
  first
  | (row_walk; done)
  | trivial
theorem cmp24 (w : World) (p : Program) (loose : List Str) (mean : ExcName → Option Value) (mg mb : Str → Option Value)
  {oc0 : Value} {od0 : Option Addr} {osl0 : Array (Option Value)} {nm0 q0 : Str} {ps0 : Arguments} {s0 s1 s2 s3 s4 s5 s6 s7 s8 s9 s10 s11 s12 s13 s14 s15 s16 s17 s18 s19 s20 s21 s22 s23 s24 : Stmt} {rs : List Stmt} {sc : Scope} {dV0 kV0 doc0 pm0 : Value} {an0 : Option Addr} {cdv0 ct0 : Value}
  (ho : (pre.heap_1 w.params).lookup 143 = some ⟨oc0, od0, .func (fnOf nm0 q0 ps0 (s0 :: s1 :: s2 :: s3 :: s4 :: s5 :: s6 :: s7 :: s8 :: s9 :: s10 :: s11 :: s12 :: s13 :: s14 :: s15 :: s16 :: s17 :: s18 :: s19 :: s20 :: s21 :: s22 :: s23 :: s24 :: rs) sc dV0 kV0 doc0 pm0 an0 cdv0 ct0), osl0⟩)
  (rs' : List Stmt) (h₀ : Heap) (L : Addr) (m : Str → Option Value) (s : Shared) (Q : Flow → Shared → Prop)
  (B : Below callerA h₀ [] h₀) (F : Fr h₀ L s.heap m) (X : (pre.heap_1 w.params).In h₀) (T : Top p loose mean mg mb h₀)
  (bs es : List Int) (zb : bs.length ≤ 10) (ze : es.length ≤ 10) (sv : Int) (ts : Tok) (o4 o7 : Obj) (lb le lf : Addr) (bv ev : List Value) (nb ne kf : Nat) (u1 u2 : Tok) (news : List (Addr × Obj)) (N : News h₀ L s.heap news)
  (h4 : (L + 1 + 1 + 1 + 1, o4) ∈ news) (h7 : (L + 1 + 1 + 1 + 1 + 1 + 1 + 1, o7) ∈ news) (hlb : (lb, listOf bv.toArray nb) ∈ news) (hle : (le, listOf ev.toArray ne) ∈ news) (ib : IntsAre bv bs) (ie : IntsAre ev es)
  (hlf : (lf, listOf #[.int ((bs.filter fun x => decide (x < sv)).length : Int) u1, .int ((es.filter fun x => decide (x ≤ sv)).length : Int) u2] kf) ∈ news)
  (d4 : o4.data = .cell (some (.ref lb))) (d7 : o7.data = .cell (some (.int sv ts)))
  (m1 : m "found" = some (.ref lf)) (m2 : m "ends" = some (.ref le))
  (hret : ∀ (h' : Heap) (tk : Nat), Fr h₀ L h' m → News h₀ L h' news → wpAny (model PySem.Challenge.rw_ta0044_01.row.prog w) (callerA.deeper (envOfC nm0 sc L 143 (.ref 142))) (execs rs' (envOfC nm0 sc L 143 (.ref 142))) Q (fun _ _ => False) { s with heap := h', toks := tk }) :
  wpAny (model PySem.Challenge.rw_ta0044_01.row.prog w) (callerA.deeper (envOfC nm0 sc L 143 (.ref 142))) (execs (s24 :: rs') (envOfC nm0 sc L 143 (.ref 142))) Q (fun _ _ => False) s := by
  have e_sc := congrArg (fun o => scopeOf o) ho
  conv at e_sc => lhs; whnf
  conv at e_sc => rhs; whnf
  have e_s24 := congrArg (fun o => stmtAt (bodyOf o) 24) ho
  conv at e_s24 => lhs; whnf
  conv at e_s24 => rhs; whnf
  clear ho
  subst e_sc
  subst e_s24
  have eM : kstB m [("found", .ref lf), ("ends", .ref le)] = m := funext fun z => kstB_eq (by simp [m1, m2]) fun _ => rfl
  have F' : Fr h₀ L s.heap (kstB m [("found", .ref lf), ("ends", .ref le)]) := by rw [eM]; exact F
  clear F
  have ib0 := Hide.mk ib
  have ie0 := Hide.mk ie
  have zbv : bv.length = bs.length := ib.length
  have zev : ev.length = es.length := ie.length
  have zf1 : (bs.filter fun x => decide (x < sv)).length ≤ 10 := Nat.le_trans (List.length_filter_le _ _) zb
  have zf2 : (es.filter fun x => decide (x ≤ sv)).length ≤ 10 := Nat.le_trans (List.length_filter_le _ _) ze
  clear ib ie
  revert X; k_fill; intro X
  (try k_fold)
  k_steps
  refine Stop.out ?_
  refine LCt.ListComp_T (F₀ := F') (by with_unfolding_all rfl) (by decide) (by rfl) (by decide) (by rfl) ?_
  (try dsimp only)
  k_steps
  refine Stop.out ?_
  rename Fr _ _ _ _ => F2
  rename News _ _ _ _ => N2
  refine LCt.CompSrcT.ledger (by rfl) F2 N2 hlb (by rw [List.size_toArray, sizeLine_eq]; omega) ?_
  intro g
  rw [List.size_toArray]
  refine comp_invT bv.length (fun i ys nw => nw = news ∧ IntsAre ys ((bs.take i).filter fun x => decide (x < sv))) ?turn2 ?done2 bv.length 0 [] _ (by omega) ⟨rfl, .nil⟩
  case turn2 =>
    clear F2 N2
    rintro i ys nw v I oI C oC D m₂ h tk E' hi ⟨rfl, hys⟩ hv hC hx F N off ne
    have hi2 : i < bs.length := by omega
    obtain ⟨t, ht⟩ := ib0.out.get i bs[i] (List.getElem?_eq_getElem hi2)
    obtain rfl : v = .int bs[i] t := Option.some.inj ((show bv[i]? = some v by simpa using hv).symm.trans ht)
    have tk1 : bs.take (i + 1) = bs.take i ++ [bs[i]] := by rw [List.take_succ, List.getElem?_eq_getElem hi2]; rfl
    generalize hx0 : bs[i] = x0 at *
    have off0 := Hide.mk off
    k_steps
    all_goals (rename Fr _ _ _ _ => F9; rename News _ _ _ _ => N9)
    · refine LCg.CompEnd.intro F9 N9 _ (fun q hq => hq) off0.out (.inr ⟨_, hlb, rfl, _, rfl⟩) ⟨rfl, ?_⟩
      rw [tk1, List.filter_append, filter_yes (by assumption)]
      exact ints_snoc hys
    · refine LCg.CompEnd.intro F9 N9 _ (fun q hq => hq) off0.out (.inr ⟨_, hlb, rfl, _, rfl⟩) ⟨rfl, ?_⟩
      rw [tk1, List.filter_append, filter_no (by assumption), List.append_nil]
      exact hys
  case done2 =>
    rintro ys nw ⟨rfl, hys⟩
    rw [zbv, List.take_length] at hys
    clear F2 N2
    have zy := hys.length
    k_steps
    rename Fr _ _ _ _ => F3
    rename News _ _ _ _ => N3
    refine Stop.out (len_list (s := ⟨_, _, _, _, _⟩) (News.isList N3 (.head _)) (by rw [List.size_toArray]; omega) ?_)
    rw [List.size_toArray, zy]
    generalize hled : (_ :: _ : List (Addr × Obj)) = led at N3
    have hle3 : (le, listOf ev.toArray ne) ∈ led := hled ▸ .tail _ hle
    have h73 : (L + 1 + 1 + 1 + 1 + 1 + 1 + 1, o7) ∈ led := hled ▸ .tail _ h7
    (try dsimp only)
    k_steps
    refine Stop.out ?_
    refine LCt.ListComp_T (F₀ := F3) (by with_unfolding_all rfl) (by decide) (by rfl) (by decide) (by rfl) ?_
    (try dsimp only)
    k_steps
    refine Stop.out ?_
    rename Fr _ _ _ _ => F4
    rename News _ _ _ _ => N4
    refine LCt.CompSrcT.ledger (by rfl) F4 N4 hle3 (by rw [List.size_toArray, sizeLine_eq]; omega) ?_
    intro g4
    rw [List.size_toArray]
    refine comp_invT ev.length (fun i ys nw => nw = led ∧ IntsAre ys ((es.take i).filter fun x => decide (x ≤ sv))) ?turn4 ?done4 ev.length 0 [] _ (by omega) ⟨rfl, .nil⟩
    case turn4 =>
      clear F4 N4
      rintro i ys nw v I oI C oC D m₂ h tk E' hi ⟨rfl, hys⟩ hv hC hx F N off ne
      have hi2 : i < es.length := by omega
      obtain ⟨t, ht⟩ := ie0.out.get i es[i] (List.getElem?_eq_getElem hi2)
      obtain rfl : v = .int es[i] t := Option.some.inj ((show ev[i]? = some v by simpa using hv).symm.trans ht)
      have tk1 : es.take (i + 1) = es.take i ++ [es[i]] := by rw [List.take_succ, List.getElem?_eq_getElem hi2]; rfl
      generalize hx0 : es[i] = x0 at *
      have off0 := Hide.mk off
      k_steps
      all_goals (rename Fr _ _ _ _ => F9; rename News _ _ _ _ => N9)
      · refine LCg.CompEnd.intro F9 N9 _ (fun q hq => hq) off0.out (.inr ⟨_, hle3, rfl, _, rfl⟩) ⟨rfl, ?_⟩
        rw [tk1, List.filter_append, filter_yes (by assumption)]
        exact ints_snoc hys
      · refine LCg.CompEnd.intro F9 N9 _ (fun q hq => hq) off0.out (.inr ⟨_, hle3, rfl, _, rfl⟩) ⟨rfl, ?_⟩
        rw [tk1, List.filter_append, filter_no (by assumption), List.append_nil]
        exact hys
    case done4 =>
      rintro ys4 nw4 ⟨rfl, hys4⟩
      rw [zev, List.take_length] at hys4
      clear F4 N4
      have zy4 := hys4.length
      k_steps
      rename Fr _ _ _ _ => F5
      rename News _ _ _ _ => N5
      refine Stop.out (len_list (s := ⟨_, _, _, _, _⟩) (News.isList N5 (.head _)) (by rw [List.size_toArray]; omega) ?_)
      rw [List.size_toArray, zy4]
      (try dsimp only)
      k_steps
      rename Fr _ _ _ _ => F6
      rename News _ _ _ _ => N6
      refine Stop.out (ke_ne_ints (xs := [_, _]) (ys := [_, _]) (News.isList N6 (.tail _ (.tail _ (by rw [← hled]; exact .tail _ hlf)))) (News.isList N6 (.head _)) (.cons _ _ (.cons _ _ .nil)) (.cons _ _ (.cons _ _ .nil)) (by ke_room) ?_)
      rw [decide_eq_true rfl]
      (try dsimp only)
      k_steps
      rename Fr _ _ _ _ => F9
      rename News _ _ _ _ => N9
      rw [eM] at F9
      exact hret _ _ F9 (News.sub (News.dropHd (News.dropHd N9)) fun q hq => by rw [← hled]; exact .tail _ hq)
end
end Mine
end -- U14
section -- U15
open PySem PySem.W PySem.Calls PyProof.Rows
set_option Elab.async false
set_option maxRecDepth 100000
set_option maxHeartbeats 1000000
namespace Mine
/-- into a def, and nothing said yet of the way back -/
theorem enterS {prog : Program} {w : World} {A₀ A : Around} {s : Shared} {base h₀ : Heap} {outer : List Env} {env : Env} {L : Addr} {m : Str → Option Value} {news : List (Addr × Obj)} {K : Frag} {p : Program} {loose : List Str} {mean : ExcName → Option Value} {mg mb : Str → Option Value}
    {R : Result → Shared → Prop} {name qual : Str} {params : Arguments} {body : List Stmt} {scope : Scope} {dV kV doc pm cdv ct oc : Value} {an od : Option Addr} {osl : Array (Option Value)} {f : Addr} {args : Args} {binds : List (Str × Value)}
    (B : Below A₀ base outer h₀) (F : Fr h₀ L s.heap m) (X₀ : K.In h₀) (N : News h₀ L s.heap news) (T : Top p loose mean mg mb h₀) (hA : A.frames = some (env :: outer)) (hf : env.frame = some L) (hke : env.scope.kind = .function)
    (ho : K.lookup f = some ⟨oc, od, .func (fnOf name qual params body scope dV kV doc pm an cdv ct), osl⟩) (hcd : codeIn K cdv qual = true) (hroom : A.depth < recursionLimit)
    (hbind : BindsTo s (fnOf name qual params body scope dV kV doc pm an cdv ct) args binds) (hloc : ∀ y ∈ binds, scope.names.lookup y.1 = some .local)
    (h : ∀ g L' h₁, Fr h₀ L g m → Fr g L' h₁ (fun y => binds.reverse.lookup y) → News g L' h₁ news → Below A base (env :: outer) g → K.In g → Top p loose mean mg mb g →
      wpAny (model prog w) (A.deeper (envOf qual scope L' f cdv)) (execs body (envOf qual scope L' f cdv))
        (fun fl s' => R (.ok (.ret (match fl with | .ret v => v | _ => .none))) s')
        (fun e s' => wpAny (model prog w) (A.deeper (envOf qual scope L' f cdv)) (leaving (envOf qual scope L' f cdv) e) (fun _ s'' => R (.error e) s'') (fun e' s'' => R (.error e') s'') s')
        { s with heap := h₁, toks := s.toks + binds.length })
    (hco : scope.isCoroutine = false) (hgen : scope.isGenerator = false) (hk : scope.kind = .function) (hcell : ∀ x ∈ scope.names, x.2 ≠ .cell) : codeAny (model prog w) A (.call (.ref f) args) R s := by
  obtain ⟨FG, BG, st, _⟩ := groundX (R := R) B F N hA hf hke
  have X := X₀.keeps F.keep
  refine codeAny_call_def (fd := fnOf name qual params body scope dV kV doc pm an cdv ct) (body := body) (binds := binds) hroom (X _ _ ho) rfl (T.nolimit.keeps F.keep) (codeRec_of X hcd) rfl hbind hcell hloc (fun h₁ hns hk₁ => ?_) hco hgen hk
  exact h _ s.heap.objs.size h₁ FG ⟨hns, fun b o e => hk₁ b o (of_hideAll _ e), Nat.le_of_eq (hideAll_size _ _)⟩
    (fun p hp => ⟨hk₁ _ _ (N p hp).1, Nat.ne_of_lt (Heap.lt_size (N p hp).1), hideAll_none _ (List.mem_map_of_mem hp)⟩) BG (X₀.keeps st) (T.keeps st)
/-- back in the caller's frame, though the callee's ground has turned -/
theorem backS {h₀ g g' h' : Heap} {L L' : Addr} {m m' : Str → Option Value} {news' : List (Addr × Obj)} (FG : Fr h₀ L g m) (T : KtsTurn [L] g g') (F' : Fr g' L' h' m') (N' : News g' L' h' news') : Fr h₀ L h' m ∧ News h₀ L h' news' := by
  obtain ⟨oL, es, ep, hL, hLd, hLk, hLf⟩ := FG.ns
  obtain ⟨sl, hs⟩ := T.up hL
  have nL₀ : h₀.get? L = none := kts_self FG
  refine ⟨⟨⟨_, es, ep, F'.keep _ _ hs, hLd, hLk, hLf⟩, fun b o e => F'.keep b o (T.other b o (FG.keep b o e) fun q => ?_), FG.above⟩, fun q hq => ⟨(N' q hq).1, fun e => ?_, ?_⟩⟩
  · rw [List.mem_singleton.mp q, nL₀] at e; cases e
  · have := (N' q hq).2.2; rw [e, hs] at this; cases this
  · cases e : h₀.get? q.1 with
    | none => rfl
    | some o =>
      obtain ⟨sl', hs'⟩ := T.up (FG.keep _ _ e)
      have := (N' q hq).2.2
      rw [hs'] at this; cases this
/-- a raised one leaves a frame with cells -/
theorem leave_onX {M : Model} {A : Around} {E : Value → Shared → Prop} {s' : Shared} {base g g₂ : Heap} {outer : List Env} {L a e t : Addr} {m : Str → Option Value} {name : Str} {scope : Scope} {cd : Value} {cl : List (Str × Addr)} {Q : Unit → Shared → Prop} {news : List (Addr × Obj)} {cls : Value} {vs : List Value}
    (K : Below A base outer g) (F : Fr g L g₂ m) (R : RaisedS base g₂ (envX name scope L a cd cl :: outer) e cls t vs news s'.heap) (hsm : g₂.UpToSlots s'.heap)
    (hQ : ∀ h', RaisedS base g outer e cls t vs news h' → g.UpToSlots h' → Q () { s' with heap := h' }) :
    wpAny M (A.deeper (envX name scope L a cd cl)) (leaving (envX name scope L a cd cl) (.ref e)) Q E s' := by
  obtain ⟨⟨B, hB, hBG, hl, hfl, hnew⟩, htup⟩ := R
  exact wpAny_leaves_onW (Around.frames_deeper K.stack) rfl hfl fun h' x1 x2 =>
    hQ h' ⟨⟨B, hB, fun b o q nm => hBG b o (F.keep b o q) (fun hm => by
      have hm' : b = L ∨ b ∈ outer.filterMap (·.frame) := by
        rw [List.filterMap_cons] at hm
        exact List.mem_cons.mp hm
      rcases hm' with z | z
      · rw [z, kts_self F] at q; cases q
      · exact nm z), fun q hq => ⟨(hl q hq).1, kts_none F.keep (hl q hq).2.1, (hl q hq).2.2⟩, x1, hnew⟩, htup.of_slots x2⟩ ((Heap.UpToSlots.of_keeps F.keep).trans (hsm.trans x2))
section
local macro_rules | `(tactic| walk_at "call ref") => `(tactic| refine Stop.mk ?_)
local macro_rules | `(tactic| walk_at "call type:ValueError") => `(tactic| refine Stop.mk ?_)
local macro_rules | `(tactic| walk_at "leaving ref") => `(tactic| refine Stop.mk ?_)
local macro_rules | `(tactic| walk_at "noteFrame ref") => `(tactic| refine Stop.mk ?_)
local macro_rules | `(tactic| walk_at "none 34 0") => `(tactic| skip)
theorem clear_35 : True := by
  first
  | (row_walk; done)
  | trivial
theorem low1 (w : World) (p : Program) (loose : List Str) (mean : ExcName → Option Value) (mg mb : Str → Option Value)
  {oc0 : Value} {od0 : Option Addr} {osl0 : Array (Option Value)} {nm0 q0 : Str} {ps0 : Arguments} {s0 s1 s2 s3 s4 s5 s6 s7 s8 s9 s10 s11 s12 s13 s14 s15 s16 s17 s18 s19 s20 s21 s22 s23 s24 : Stmt} {rs : List Stmt} {sc : Scope} {dV0 kV0 doc0 pm0 : Value} {an0 : Option Addr} {cdv0 ct0 : Value} {fx : Expr} {ta : List Expr} {kws : List Keyword} {P1 P2 P3 P4 : Arguments} {B1 B2 B3 B4 : Expr} {S1 S2 S3 S4 : Scope} {g1 g2 g3 g4 gl gl2 gs gc ge : Pos}
  (ho : (pre.heap_1 w.params).lookup 143 = some ⟨oc0, od0, .func (fnOf nm0 q0 ps0 (s0 :: s1 :: s2 :: s3 :: s4 :: s5 :: s6 :: s7 :: s8 :: s9 :: s10 :: s11 :: s12 :: s13 :: s14 :: s15 :: s16 :: s17 :: s18 :: s19 :: s20 :: s21 :: s22 :: s23 :: s24 :: .Assign ta (.List [.Lambda P1 B1 S1 g1, .Lambda P2 B2 S2 g2] gl) gs :: .Expr (.Call fx [.List [.Lambda P3 B3 S3 g3, .Lambda P4 B4 S4 g4] gl2] kws gc) ge :: rs) sc dV0 kV0 doc0 pm0 an0 cdv0 ct0), osl0⟩)
  (h₀ : Heap) (C140 : CodeHd h₀ 142 140) (L f c' lb : Addr) (oc oF o4 o7 : Obj) (pm ctv : Value) (vc : Array Value) (tc ts : Tok) (sv : Int) (news : List (Addr × Obj)) (m : Str → Option Value) (s : Shared) (Q E : Value → Shared → Prop)
  (B : Below callerA h₀ [] h₀) (F : Fr h₀ L s.heap m) (X : (pre.heap_1 w.params).In h₀) (N : News h₀ L s.heap news) (T : Top p loose mean mg mb h₀)
  (hoF : kla_obj "<lambda>" lamQ P1 B1 S1 [("sought", L + 1 + 1 + 1 + 1 + 1 + 1 + 1), ("begins", L + 1 + 1 + 1 + 1)] pm c' ctv = oF) (hf : (f, oF) ∈ news) (hcc : (c', oc) ∈ news) (d1 : oc.data = .fields vc) (d2 : vc[1]? = some (.str lamQ tc))
  (h4 : (L + 1 + 1 + 1 + 1, o4) ∈ news) (h7 : (L + 1 + 1 + 1 + 1 + 1 + 1 + 1, o7) ∈ news) (d4 : o4.data = .cell (some (.ref lb))) (d7 : o7.data = .cell (some (.int sv ts)))
  (hret : ∀ (t : Tok) (h' : Heap) (tk : Nat), Fr h₀ L h' m → News h₀ L h' news → Q (.str "lo must be non-negative" t) { s with heap := h', toks := tk }) :
  wpAny (model PySem.Challenge.rw_ta0044_01.row.prog w) (callerA.deeper (envOfC nm0 sc L 143 (.ref 142))) (call (.ref 138) [.ref f]) Q E s := by
  have e_sc := congrArg (fun o => scopeOf o) ho
  conv at e_sc => lhs; whnf
  conv at e_sc => rhs; whnf
  have e_nm : Str.ofString "law" = nm0 := congrArg (fun o => nameOf o) ho
  have e_t25 := congrArg (fun o => stmtAt (bodyOf o) 25) ho
  conv at e_t25 => lhs; whnf
  conv at e_t25 => rhs; whnf
  clear ho
  subst e_sc
  subst e_nm
  cases e_t25
  subst hoF
  have X0 := Hide.mk X
  revert X; k_fill; intro X
  refine wpAny_call ?_
  refine' enterS (binds := [("deed", .ref f)]) ?k1a ?k2a ?k3a ?k4a ?k5a ?kAa ?kFa ?kKa ?k6a ?k7a ?k8a ?k9a ?kBa ?_ ?c2a ?c3a ?c4a ?c5a
  (case kAa => exact rfl); (case kFa => exact rfl); (case kKa => exact rfl); (case k1a => exact B); (case k2a => exact F); (case k3a => exact X); (case k4a => exact N); (case k5a => exact T); (case k6a => k_is); (case k7a => k_is); (case k8a => show lawDp < recursionLimit; decide); (case k9a => first | exact rfl | exact BindsTo.of_eq rfl | (refine' kp_binds ?kxa ?kea; (case kxa => k_in); (case kea => exact fun _ => rfl))); (case c5a => decide); (case kBa => exact locs rfl); (case c2a => exact rfl); (case c3a => exact rfl); (case c4a => exact rfl)
  intro g1 L1 h1 FG1 F1 N1 B1 X1 T1
  have T0 := Hide.mk T
  have F0 := Hide.mk F
  have B0 := Hide.mk B
  have FG1h := Hide.mk FG1
  clear F N T B FG1
  (try dsimp only)
  (try k_fold)
  k_steps
  refine Stop.out ?_
  refine wpAny_call ?_
  refine' kla_code (binds := []) ?k1b ?k2b ?k3b ?k4b ?k5b ?kAb ?kFb ?kKb ?k6b ?k7b ?k8b ?k9b ?kBb ?_ ?c2b ?c3b ?c4b ?c5b
  (case kAb => exact rfl); (case kFb => exact rfl); (case kKb => exact rfl); (case k1b => exact B1); (case k2b => exact F1); (case k3b => exact X1); (case k4b => exact N1); (case k5b => exact T1); (case k6b => exact hf); (case k7b => exact codeRec_news N1 hcc d1 d2); (case k8b => show lawDp + 1 < recursionLimit; decide); (case k9b => first | exact rfl | exact BindsTo.of_eq rfl | (refine' kp_binds ?kxb ?keb; (case kxb => k_in); (case keb => exact fun _ => rfl))); (case c5b => decide); (case kBb => exact locs rfl); (case c2b => exact rfl); (case c3b => exact rfl); (case c4b => exact rfl)
  intro g2 L2 h2 FG2 F2 N2 B2 X2 T2
  have FG2h := Hide.mk FG2
  have B1h := Hide.mk B1
  have F1h := Hide.mk F1
  clear F1 N1 FG2
  (try dsimp only)
  (try k_fold)
  k_steps
  refine Stop.out ?_
  generalize tk + [].length + 1 = tl
  refine wpAny_call ?_
  refine' code_def (binds := [("a", .ref lb), ("x", .int sv ts), ("lo", .int (-1) tl), ("hi", .none), ("key", .none)]) ?k1d ?k2d ?k3d ?k4d ?k5d ?kAd ?kFd ?kKd ?k6d ?k7d ?k8d ?k9d ?kBd ?_ ?c2d ?c3d ?c4d ?c5d
  (case kAd => exact rfl); (case kFd => exact rfl); (case kKd => exact rfl); (case k1d => exact B2); (case k2d => exact F2); (case k3d => exact X2); (case k4d => exact N2); (case k5d => exact T2); (case k6d => k_is); (case k7d => k_is); (case k8d => show lawDp + 2 < recursionLimit; decide); (case k9d => first | exact rfl | exact BindsTo.of_eq rfl | (refine' kp_binds ?kxd ?ked; (case kxd => k_in); (case ked => exact fun _ => rfl))); (case c5d => decide); (case kBd => exact locs rfl); (case c2d => exact rfl); (case c3d => exact rfl); (case c4d => exact rfl)
  intro g3 L3 h3 FG3 F3 N3 B3 X3 T3
  have FG3h := Hide.mk FG3
  clear FG3
  (try dsimp only)
  (try k_fold)
  k_steps
  refine Stop.out ?_
  refine wpAny_call_exc PySem.F.excCall_ValueError (fun h5 e5 hx5 => raisable_of_new excClass_ValueError hx5.newExc ?_)
  (try dsimp only)
  k_steps
  refine Stop.out (leave_raiseS B3 (Heap.MadeExc.of hx5) F3 N3 ?_)
  intro h6 t6 R6 _ U6
  (try dsimp only)
  k_steps
  refine Stop.out (leave_onX B2 FG3h.out R6 U6 ?_)
  intro h8 R8 U8
  (try dsimp only)
  k_steps
  have D1 : KtsDicts [L] g1 := fun b hb => by
    obtain ⟨oL, es, ep, e1, e2, _⟩ := FG1h.out.ns
    rw [List.mem_singleton.mp hb]; exact ⟨oL, es, ep, e1, e2⟩
  refine Stop.out (caught_SB (T' := "ValueError") R8 FG2h.out B1h.out U8 X0.out T0.out D1 KtsTurn.refl (by k_is) PyProof.Rows.Boot.«ValueError» (by decide) PySem.F.isExc_ValueError PySem.F.notTuple_ValueError (by rw [isSubtype_type]; kernel_rfl) ?_)
  intro h9 g9 news9 tk9 K9 F9 N9' G9 N9 B9 X9 T9 D9
  (try dsimp only)
  k_steps
  rename Fr g9 _ _ _ => Ff
  rename News g9 _ _ news => Nf
  have ⟨Fo, No⟩ := backS FG1h.out K9 Ff Nf
  exact hret _ _ _ Fo No
theorem low2 (w : World) (p : Program) (loose : List Str) (mean : ExcName → Option Value) (mg mb : Str → Option Value)
  {oc0 : Value} {od0 : Option Addr} {osl0 : Array (Option Value)} {nm0 q0 : Str} {ps0 : Arguments} {s0 s1 s2 s3 s4 s5 s6 s7 s8 s9 s10 s11 s12 s13 s14 s15 s16 s17 s18 s19 s20 s21 s22 s23 s24 : Stmt} {rs : List Stmt} {sc : Scope} {dV0 kV0 doc0 pm0 : Value} {an0 : Option Addr} {cdv0 ct0 : Value} {fx : Expr} {ta : List Expr} {kws : List Keyword} {P1 P2 P3 P4 : Arguments} {B1 B2 B3 B4 : Expr} {S1 S2 S3 S4 : Scope} {g1 g2 g3 g4 gl gl2 gs gc ge : Pos}
  (ho : (pre.heap_1 w.params).lookup 143 = some ⟨oc0, od0, .func (fnOf nm0 q0 ps0 (s0 :: s1 :: s2 :: s3 :: s4 :: s5 :: s6 :: s7 :: s8 :: s9 :: s10 :: s11 :: s12 :: s13 :: s14 :: s15 :: s16 :: s17 :: s18 :: s19 :: s20 :: s21 :: s22 :: s23 :: s24 :: .Assign ta (.List [.Lambda P1 B1 S1 g1, .Lambda P2 B2 S2 g2] gl) gs :: .Expr (.Call fx [.List [.Lambda P3 B3 S3 g3, .Lambda P4 B4 S4 g4] gl2] kws gc) ge :: rs) sc dV0 kV0 doc0 pm0 an0 cdv0 ct0), osl0⟩)
  (h₀ : Heap) (C140 : CodeHd h₀ 142 140) (L f c' lb : Addr) (oc oF o4 o7 : Obj) (pm ctv : Value) (vc : Array Value) (tc ts : Tok) (sv : Int) (news : List (Addr × Obj)) (m : Str → Option Value) (s : Shared) (Q E : Value → Shared → Prop)
  (B : Below callerA h₀ [] h₀) (F : Fr h₀ L s.heap m) (X : (pre.heap_1 w.params).In h₀) (N : News h₀ L s.heap news) (T : Top p loose mean mg mb h₀)
  (hoF : kla_obj "<lambda>" lamQ P2 B2 S2 [("sought", L + 1 + 1 + 1 + 1 + 1 + 1 + 1), ("begins", L + 1 + 1 + 1 + 1)] pm c' ctv = oF) (hf : (f, oF) ∈ news) (hcc : (c', oc) ∈ news) (d1 : oc.data = .fields vc) (d2 : vc[1]? = some (.str lamQ tc))
  (h4 : (L + 1 + 1 + 1 + 1, o4) ∈ news) (h7 : (L + 1 + 1 + 1 + 1 + 1 + 1 + 1, o7) ∈ news) (d4 : o4.data = .cell (some (.ref lb))) (d7 : o7.data = .cell (some (.int sv ts)))
  (hret : ∀ (t : Tok) (h' : Heap) (tk : Nat), Fr h₀ L h' m → News h₀ L h' news → Q (.str "lo must be non-negative" t) { s with heap := h', toks := tk }) :
  wpAny (model PySem.Challenge.rw_ta0044_01.row.prog w) (callerA.deeper (envOfC nm0 sc L 143 (.ref 142))) (call (.ref 138) [.ref f]) Q E s := by
  have e_sc := congrArg (fun o => scopeOf o) ho
  conv at e_sc => lhs; whnf
  conv at e_sc => rhs; whnf
  have e_nm : Str.ofString "law" = nm0 := congrArg (fun o => nameOf o) ho
  have e_t25 := congrArg (fun o => stmtAt (bodyOf o) 25) ho
  conv at e_t25 => lhs; whnf
  conv at e_t25 => rhs; whnf
  clear ho
  subst e_sc
  subst e_nm
  cases e_t25
  subst hoF
  have X0 := Hide.mk X
  revert X; k_fill; intro X
  refine wpAny_call ?_
  refine' enterS (binds := [("deed", .ref f)]) ?k1a ?k2a ?k3a ?k4a ?k5a ?kAa ?kFa ?kKa ?k6a ?k7a ?k8a ?k9a ?kBa ?_ ?c2a ?c3a ?c4a ?c5a
  (case kAa => exact rfl); (case kFa => exact rfl); (case kKa => exact rfl); (case k1a => exact B); (case k2a => exact F); (case k3a => exact X); (case k4a => exact N); (case k5a => exact T); (case k6a => k_is); (case k7a => k_is); (case k8a => show lawDp < recursionLimit; decide); (case k9a => first | exact rfl | exact BindsTo.of_eq rfl | (refine' kp_binds ?kxa ?kea; (case kxa => k_in); (case kea => exact fun _ => rfl))); (case c5a => decide); (case kBa => exact locs rfl); (case c2a => exact rfl); (case c3a => exact rfl); (case c4a => exact rfl)
  intro g1 L1 h1 FG1 F1 N1 B1 X1 T1
  have T0 := Hide.mk T
  have F0 := Hide.mk F
  have B0 := Hide.mk B
  have FG1h := Hide.mk FG1
  clear F N T B FG1
  (try dsimp only)
  (try k_fold)
  k_steps
  refine Stop.out ?_
  refine wpAny_call ?_
  refine' kla_code (binds := []) ?k1b ?k2b ?k3b ?k4b ?k5b ?kAb ?kFb ?kKb ?k6b ?k7b ?k8b ?k9b ?kBb ?_ ?c2b ?c3b ?c4b ?c5b
  (case kAb => exact rfl); (case kFb => exact rfl); (case kKb => exact rfl); (case k1b => exact B1); (case k2b => exact F1); (case k3b => exact X1); (case k4b => exact N1); (case k5b => exact T1); (case k6b => exact hf); (case k7b => exact codeRec_news N1 hcc d1 d2); (case k8b => show lawDp + 1 < recursionLimit; decide); (case k9b => first | exact rfl | exact BindsTo.of_eq rfl | (refine' kp_binds ?kxb ?keb; (case kxb => k_in); (case keb => exact fun _ => rfl))); (case c5b => decide); (case kBb => exact locs rfl); (case c2b => exact rfl); (case c3b => exact rfl); (case c4b => exact rfl)
  intro g2 L2 h2 FG2 F2 N2 B2 X2 T2
  have FG2h := Hide.mk FG2
  have B1h := Hide.mk B1
  have F1h := Hide.mk F1
  clear F1 N1 FG2
  (try dsimp only)
  (try k_fold)
  k_steps
  refine Stop.out ?_
  generalize tk + [].length + 1 = tl
  refine wpAny_call ?_
  refine' code_def (binds := [("a", .ref lb), ("x", .int sv ts), ("lo", .int (-1) tl), ("hi", .none), ("key", .none)]) ?k1d ?k2d ?k3d ?k4d ?k5d ?kAd ?kFd ?kKd ?k6d ?k7d ?k8d ?k9d ?kBd ?_ ?c2d ?c3d ?c4d ?c5d
  (case kAd => exact rfl); (case kFd => exact rfl); (case kKd => exact rfl); (case k1d => exact B2); (case k2d => exact F2); (case k3d => exact X2); (case k4d => exact N2); (case k5d => exact T2); (case k6d => k_is); (case k7d => k_is); (case k8d => show lawDp + 2 < recursionLimit; decide); (case k9d => first | exact rfl | exact BindsTo.of_eq rfl | (refine' kp_binds ?kxd ?ked; (case kxd => k_in); (case ked => exact fun _ => rfl))); (case c5d => decide); (case kBd => exact locs rfl); (case c2d => exact rfl); (case c3d => exact rfl); (case c4d => exact rfl)
  intro g3 L3 h3 FG3 F3 N3 B3 X3 T3
  have FG3h := Hide.mk FG3
  clear FG3
  (try dsimp only)
  (try k_fold)
  k_steps
  refine Stop.out ?_
  refine wpAny_call_exc PySem.F.excCall_ValueError (fun h5 e5 hx5 => raisable_of_new excClass_ValueError hx5.newExc ?_)
  (try dsimp only)
  k_steps
  refine Stop.out (leave_raiseS B3 (Heap.MadeExc.of hx5) F3 N3 ?_)
  intro h6 t6 R6 _ U6
  (try dsimp only)
  k_steps
  refine Stop.out (leave_onX B2 FG3h.out R6 U6 ?_)
  intro h8 R8 U8
  (try dsimp only)
  k_steps
  have D1 : KtsDicts [L] g1 := fun b hb => by
    obtain ⟨oL, es, ep, e1, e2, _⟩ := FG1h.out.ns
    rw [List.mem_singleton.mp hb]; exact ⟨oL, es, ep, e1, e2⟩
  refine Stop.out (caught_SB (T' := "ValueError") R8 FG2h.out B1h.out U8 X0.out T0.out D1 KtsTurn.refl (by k_is) PyProof.Rows.Boot.«ValueError» (by decide) PySem.F.isExc_ValueError PySem.F.notTuple_ValueError (by rw [isSubtype_type]; kernel_rfl) ?_)
  intro h9 g9 news9 tk9 K9 F9 N9' G9 N9 B9 X9 T9 D9
  (try dsimp only)
  k_steps
  rename Fr g9 _ _ _ => Ff
  rename News g9 _ _ news => Nf
  have ⟨Fo, No⟩ := backS FG1h.out K9 Ff Nf
  exact hret _ _ _ Fo No
theorem low3 (w : World) (p : Program) (loose : List Str) (mean : ExcName → Option Value) (mg mb : Str → Option Value)
  {oc0 : Value} {od0 : Option Addr} {osl0 : Array (Option Value)} {nm0 q0 : Str} {ps0 : Arguments} {s0 s1 s2 s3 s4 s5 s6 s7 s8 s9 s10 s11 s12 s13 s14 s15 s16 s17 s18 s19 s20 s21 s22 s23 s24 : Stmt} {rs : List Stmt} {sc : Scope} {dV0 kV0 doc0 pm0 : Value} {an0 : Option Addr} {cdv0 ct0 : Value} {fx : Expr} {ta : List Expr} {kws : List Keyword} {P1 P2 P3 P4 : Arguments} {B1 B2 B3 B4 : Expr} {S1 S2 S3 S4 : Scope} {g1 g2 g3 g4 gl gl2 gs gc ge : Pos}
  (ho : (pre.heap_1 w.params).lookup 143 = some ⟨oc0, od0, .func (fnOf nm0 q0 ps0 (s0 :: s1 :: s2 :: s3 :: s4 :: s5 :: s6 :: s7 :: s8 :: s9 :: s10 :: s11 :: s12 :: s13 :: s14 :: s15 :: s16 :: s17 :: s18 :: s19 :: s20 :: s21 :: s22 :: s23 :: s24 :: .Assign ta (.List [.Lambda P1 B1 S1 g1, .Lambda P2 B2 S2 g2] gl) gs :: .Expr (.Call fx [.List [.Lambda P3 B3 S3 g3, .Lambda P4 B4 S4 g4] gl2] kws gc) ge :: rs) sc dV0 kV0 doc0 pm0 an0 cdv0 ct0), osl0⟩)
  (h₀ : Heap) (C140 : CodeHd h₀ 142 140) (L f c' lb : Addr) (oc oF o4 o7 : Obj) (pm ctv : Value) (vc : Array Value) (tc ts : Tok) (sv : Int) (news : List (Addr × Obj)) (m : Str → Option Value) (s : Shared) (Q E : Value → Shared → Prop)
  (B : Below callerA h₀ [] h₀) (F : Fr h₀ L s.heap m) (X : (pre.heap_1 w.params).In h₀) (N : News h₀ L s.heap news) (T : Top p loose mean mg mb h₀)
  (hoF : kla_obj "<lambda>" lamQ P3 B3 S3 [("sought", L + 1 + 1 + 1 + 1 + 1 + 1 + 1), ("begins", L + 1 + 1 + 1 + 1)] pm c' ctv = oF) (hf : (f, oF) ∈ news) (hcc : (c', oc) ∈ news) (d1 : oc.data = .fields vc) (d2 : vc[1]? = some (.str lamQ tc))
  (h4 : (L + 1 + 1 + 1 + 1, o4) ∈ news) (h7 : (L + 1 + 1 + 1 + 1 + 1 + 1 + 1, o7) ∈ news) (d4 : o4.data = .cell (some (.ref lb))) (d7 : o7.data = .cell (some (.int sv ts)))
  (hret : ∀ (t : Tok) (h' : Heap) (tk : Nat), Fr h₀ L h' m → News h₀ L h' news → Q (.str "lo must be non-negative" t) { s with heap := h', toks := tk }) :
  wpAny (model PySem.Challenge.rw_ta0044_01.row.prog w) (callerA.deeper (envOfC nm0 sc L 143 (.ref 142))) (call (.ref 138) [.ref f]) Q E s := by
  have e_sc := congrArg (fun o => scopeOf o) ho
  conv at e_sc => lhs; whnf
  conv at e_sc => rhs; whnf
  have e_nm : Str.ofString "law" = nm0 := congrArg (fun o => nameOf o) ho
  have e_t26 := congrArg (fun o => stmtAt (bodyOf o) 26) ho
  conv at e_t26 => lhs; whnf
  conv at e_t26 => rhs; whnf
  clear ho
  subst e_sc
  subst e_nm
  cases e_t26
  subst hoF
  have X0 := Hide.mk X
  revert X; k_fill; intro X
  refine wpAny_call ?_
  refine' enterS (binds := [("deed", .ref f)]) ?k1a ?k2a ?k3a ?k4a ?k5a ?kAa ?kFa ?kKa ?k6a ?k7a ?k8a ?k9a ?kBa ?_ ?c2a ?c3a ?c4a ?c5a
  (case kAa => exact rfl); (case kFa => exact rfl); (case kKa => exact rfl); (case k1a => exact B); (case k2a => exact F); (case k3a => exact X); (case k4a => exact N); (case k5a => exact T); (case k6a => k_is); (case k7a => k_is); (case k8a => show lawDp < recursionLimit; decide); (case k9a => first | exact rfl | exact BindsTo.of_eq rfl | (refine' kp_binds ?kxa ?kea; (case kxa => k_in); (case kea => exact fun _ => rfl))); (case c5a => decide); (case kBa => exact locs rfl); (case c2a => exact rfl); (case c3a => exact rfl); (case c4a => exact rfl)
  intro g1 L1 h1 FG1 F1 N1 B1 X1 T1
  have T0 := Hide.mk T
  have F0 := Hide.mk F
  have B0 := Hide.mk B
  have FG1h := Hide.mk FG1
  clear F N T B FG1
  (try dsimp only)
  (try k_fold)
  k_steps
  refine Stop.out ?_
  refine wpAny_call ?_
  refine' kla_code (binds := []) ?k1b ?k2b ?k3b ?k4b ?k5b ?kAb ?kFb ?kKb ?k6b ?k7b ?k8b ?k9b ?kBb ?_ ?c2b ?c3b ?c4b ?c5b
  (case kAb => exact rfl); (case kFb => exact rfl); (case kKb => exact rfl); (case k1b => exact B1); (case k2b => exact F1); (case k3b => exact X1); (case k4b => exact N1); (case k5b => exact T1); (case k6b => exact hf); (case k7b => exact codeRec_news N1 hcc d1 d2); (case k8b => show lawDp + 1 < recursionLimit; decide); (case k9b => first | exact rfl | exact BindsTo.of_eq rfl | (refine' kp_binds ?kxb ?keb; (case kxb => k_in); (case keb => exact fun _ => rfl))); (case c5b => decide); (case kBb => exact locs rfl); (case c2b => exact rfl); (case c3b => exact rfl); (case c4b => exact rfl)
  intro g2 L2 h2 FG2 F2 N2 B2 X2 T2
  have FG2h := Hide.mk FG2
  have B1h := Hide.mk B1
  have F1h := Hide.mk F1
  clear F1 N1 FG2
  (try dsimp only)
  (try k_fold)
  k_steps
  refine Stop.out ?_
  generalize tk + [].length + 1 = tl
  refine wpAny_call ?_
  refine' code_def (binds := [("a", .ref lb), ("x", .int sv ts), ("lo", .int (-1) tl), ("hi", .none), ("key", .none)]) ?k1c ?k2c ?k3c ?k4c ?k5c ?kAc ?kFc ?kKc ?k6c ?k7c ?k8c ?k9c ?kBc ?_ ?c2c ?c3c ?c4c ?c5c
  (case kAc => exact rfl); (case kFc => exact rfl); (case kKc => exact rfl); (case k1c => exact B2); (case k2c => exact F2); (case k3c => exact X2); (case k4c => exact N2); (case k5c => exact T2); (case k6c => k_is); (case k7c => k_is); (case k8c => show lawDp + 2 < recursionLimit; decide); (case k9c => first | exact rfl | exact BindsTo.of_eq rfl | (refine' kp_binds ?kxc ?kec; (case kxc => k_in); (case kec => exact fun _ => rfl))); (case c5c => decide); (case kBc => exact locs rfl); (case c2c => exact rfl); (case c3c => exact rfl); (case c4c => exact rfl)
  intro g4 L4 h4 FG4 F4 N4 B4 X4 T4
  have FG4h := Hide.mk FG4
  have B2h := Hide.mk B2
  have F2h := Hide.mk F2
  clear FG4
  (try dsimp only)
  (try k_fold)
  k_steps
  refine Stop.out ?_
  refine wpAny_call ?_
  refine' code_def (binds := [("a", .ref lb), ("x", .int sv ts), ("lo", .int (-1) tl), ("hi", .none), ("key", .none)]) ?k1d ?k2d ?k3d ?k4d ?k5d ?kAd ?kFd ?kKd ?k6d ?k7d ?k8d ?k9d ?kBd ?_ ?c2d ?c3d ?c4d ?c5d
  (case kAd => exact rfl); (case kFd => exact rfl); (case kKd => exact rfl); (case k1d => exact B4); (case k2d => exact F4); (case k3d => exact X4); (case k4d => exact N4); (case k5d => exact T4); (case k6d => k_is); (case k7d => k_is); (case k8d => show lawDp + 3 < recursionLimit; decide); (case k9d => first | exact rfl | exact BindsTo.of_eq rfl | (refine' kp_binds ?kxd ?ked; (case kxd => k_in); (case ked => exact fun _ => rfl))); (case c5d => decide); (case kBd => exact locs rfl); (case c2d => exact rfl); (case c3d => exact rfl); (case c4d => exact rfl)
  intro g3 L3 h3 FG3 F3 N3 B3 X3 T3
  have FG3h := Hide.mk FG3
  clear FG3
  (try dsimp only)
  (try k_fold)
  k_steps
  refine Stop.out ?_
  refine wpAny_call_exc PySem.F.excCall_ValueError (fun h5 e5 hx5 => raisable_of_new excClass_ValueError hx5.newExc ?_)
  (try dsimp only)
  k_steps
  refine Stop.out (leave_raiseS B3 (Heap.MadeExc.of hx5) F3 N3 ?_)
  intro h6 t6 R6 _ U6
  (try dsimp only)
  k_steps
  refine Stop.out (leave_onS B4 FG3h.out R6 U6 ?_)
  intro h7 R7 _ U7
  (try dsimp only)
  k_steps
  refine Stop.out (leave_onX B2h.out FG4h.out R7 U7 ?_)
  intro h8 R8 U8
  (try dsimp only)
  k_steps
  have D1 : KtsDicts [L] g1 := fun b hb => by
    obtain ⟨oL, es, ep, e1, e2, _⟩ := FG1h.out.ns
    rw [List.mem_singleton.mp hb]; exact ⟨oL, es, ep, e1, e2⟩
  refine Stop.out (caught_SB (T' := "ValueError") R8 FG2h.out B1h.out U8 X0.out T0.out D1 KtsTurn.refl (by k_is) PyProof.Rows.Boot.«ValueError» (by decide) PySem.F.isExc_ValueError PySem.F.notTuple_ValueError (by rw [isSubtype_type]; kernel_rfl) ?_)
  intro h9 g9 news9 tk9 K9 F9 N9' G9 N9 B9 X9 T9 D9
  (try dsimp only)
  k_steps
  rename Fr g9 _ _ _ => Ff
  rename News g9 _ _ news => Nf
  have ⟨Fo, No⟩ := backS FG1h.out K9 Ff Nf
  exact hret _ _ _ Fo No
theorem low4 (w : World) (p : Program) (loose : List Str) (mean : ExcName → Option Value) (mg mb : Str → Option Value)
  {oc0 : Value} {od0 : Option Addr} {osl0 : Array (Option Value)} {nm0 q0 : Str} {ps0 : Arguments} {s0 s1 s2 s3 s4 s5 s6 s7 s8 s9 s10 s11 s12 s13 s14 s15 s16 s17 s18 s19 s20 s21 s22 s23 s24 : Stmt} {rs : List Stmt} {sc : Scope} {dV0 kV0 doc0 pm0 : Value} {an0 : Option Addr} {cdv0 ct0 : Value} {fx : Expr} {ta : List Expr} {kws : List Keyword} {P1 P2 P3 P4 : Arguments} {B1 B2 B3 B4 : Expr} {S1 S2 S3 S4 : Scope} {g1 g2 g3 g4 gl gl2 gs gc ge : Pos}
  (ho : (pre.heap_1 w.params).lookup 143 = some ⟨oc0, od0, .func (fnOf nm0 q0 ps0 (s0 :: s1 :: s2 :: s3 :: s4 :: s5 :: s6 :: s7 :: s8 :: s9 :: s10 :: s11 :: s12 :: s13 :: s14 :: s15 :: s16 :: s17 :: s18 :: s19 :: s20 :: s21 :: s22 :: s23 :: s24 :: .Assign ta (.List [.Lambda P1 B1 S1 g1, .Lambda P2 B2 S2 g2] gl) gs :: .Expr (.Call fx [.List [.Lambda P3 B3 S3 g3, .Lambda P4 B4 S4 g4] gl2] kws gc) ge :: rs) sc dV0 kV0 doc0 pm0 an0 cdv0 ct0), osl0⟩)
  (h₀ : Heap) (C140 : CodeHd h₀ 142 140) (L f c' lb : Addr) (oc oF o4 o7 : Obj) (pm ctv : Value) (vc : Array Value) (tc ts : Tok) (sv : Int) (news : List (Addr × Obj)) (m : Str → Option Value) (s : Shared) (Q E : Value → Shared → Prop)
  (B : Below callerA h₀ [] h₀) (F : Fr h₀ L s.heap m) (X : (pre.heap_1 w.params).In h₀) (N : News h₀ L s.heap news) (T : Top p loose mean mg mb h₀)
  (hoF : kla_obj "<lambda>" lamQ P4 B4 S4 [("sought", L + 1 + 1 + 1 + 1 + 1 + 1 + 1), ("begins", L + 1 + 1 + 1 + 1)] pm c' ctv = oF) (hf : (f, oF) ∈ news) (hcc : (c', oc) ∈ news) (d1 : oc.data = .fields vc) (d2 : vc[1]? = some (.str lamQ tc))
  (h4 : (L + 1 + 1 + 1 + 1, o4) ∈ news) (h7 : (L + 1 + 1 + 1 + 1 + 1 + 1 + 1, o7) ∈ news) (d4 : o4.data = .cell (some (.ref lb))) (d7 : o7.data = .cell (some (.int sv ts)))
  (hret : ∀ (t : Tok) (h' : Heap) (tk : Nat), Fr h₀ L h' m → News h₀ L h' news → Q (.str "lo must be non-negative" t) { s with heap := h', toks := tk }) :
  wpAny (model PySem.Challenge.rw_ta0044_01.row.prog w) (callerA.deeper (envOfC nm0 sc L 143 (.ref 142))) (call (.ref 138) [.ref f]) Q E s := by
  have e_sc := congrArg (fun o => scopeOf o) ho
  conv at e_sc => lhs; whnf
  conv at e_sc => rhs; whnf
  have e_nm : Str.ofString "law" = nm0 := congrArg (fun o => nameOf o) ho
  have e_t26 := congrArg (fun o => stmtAt (bodyOf o) 26) ho
  conv at e_t26 => lhs; whnf
  conv at e_t26 => rhs; whnf
  clear ho
  subst e_sc
  subst e_nm
  cases e_t26
  subst hoF
  have X0 := Hide.mk X
  revert X; k_fill; intro X
  refine wpAny_call ?_
  refine' enterS (binds := [("deed", .ref f)]) ?k1a ?k2a ?k3a ?k4a ?k5a ?kAa ?kFa ?kKa ?k6a ?k7a ?k8a ?k9a ?kBa ?_ ?c2a ?c3a ?c4a ?c5a
  (case kAa => exact rfl); (case kFa => exact rfl); (case kKa => exact rfl); (case k1a => exact B); (case k2a => exact F); (case k3a => exact X); (case k4a => exact N); (case k5a => exact T); (case k6a => k_is); (case k7a => k_is); (case k8a => show lawDp < recursionLimit; decide); (case k9a => first | exact rfl | exact BindsTo.of_eq rfl | (refine' kp_binds ?kxa ?kea; (case kxa => k_in); (case kea => exact fun _ => rfl))); (case c5a => decide); (case kBa => exact locs rfl); (case c2a => exact rfl); (case c3a => exact rfl); (case c4a => exact rfl)
  intro g1 L1 h1 FG1 F1 N1 B1 X1 T1
  have T0 := Hide.mk T
  have F0 := Hide.mk F
  have B0 := Hide.mk B
  have FG1h := Hide.mk FG1
  clear F N T B FG1
  (try dsimp only)
  (try k_fold)
  k_steps
  refine Stop.out ?_
  refine wpAny_call ?_
  refine' kla_code (binds := []) ?k1b ?k2b ?k3b ?k4b ?k5b ?kAb ?kFb ?kKb ?k6b ?k7b ?k8b ?k9b ?kBb ?_ ?c2b ?c3b ?c4b ?c5b
  (case kAb => exact rfl); (case kFb => exact rfl); (case kKb => exact rfl); (case k1b => exact B1); (case k2b => exact F1); (case k3b => exact X1); (case k4b => exact N1); (case k5b => exact T1); (case k6b => exact hf); (case k7b => exact codeRec_news N1 hcc d1 d2); (case k8b => show lawDp + 1 < recursionLimit; decide); (case k9b => first | exact rfl | exact BindsTo.of_eq rfl | (refine' kp_binds ?kxb ?keb; (case kxb => k_in); (case keb => exact fun _ => rfl))); (case c5b => decide); (case kBb => exact locs rfl); (case c2b => exact rfl); (case c3b => exact rfl); (case c4b => exact rfl)
  intro g2 L2 h2 FG2 F2 N2 B2 X2 T2
  have FG2h := Hide.mk FG2
  have B1h := Hide.mk B1
  have F1h := Hide.mk F1
  clear F1 N1 FG2
  (try dsimp only)
  (try k_fold)
  k_steps
  refine Stop.out ?_
  generalize tk + [].length + 1 = tl
  refine wpAny_call ?_
  refine' code_def (binds := [("a", .ref lb), ("x", .int sv ts), ("lo", .int (-1) tl), ("hi", .none), ("key", .none)]) ?k1c ?k2c ?k3c ?k4c ?k5c ?kAc ?kFc ?kKc ?k6c ?k7c ?k8c ?k9c ?kBc ?_ ?c2c ?c3c ?c4c ?c5c
  (case kAc => exact rfl); (case kFc => exact rfl); (case kKc => exact rfl); (case k1c => exact B2); (case k2c => exact F2); (case k3c => exact X2); (case k4c => exact N2); (case k5c => exact T2); (case k6c => k_is); (case k7c => k_is); (case k8c => show lawDp + 2 < recursionLimit; decide); (case k9c => first | exact rfl | exact BindsTo.of_eq rfl | (refine' kp_binds ?kxc ?kec; (case kxc => k_in); (case kec => exact fun _ => rfl))); (case c5c => decide); (case kBc => exact locs rfl); (case c2c => exact rfl); (case c3c => exact rfl); (case c4c => exact rfl)
  intro g4 L4 h4 FG4 F4 N4 B4 X4 T4
  have FG4h := Hide.mk FG4
  have B2h := Hide.mk B2
  have F2h := Hide.mk F2
  clear FG4
  (try dsimp only)
  (try k_fold)
  k_steps
  refine Stop.out ?_
  refine wpAny_call ?_
  refine' code_def (binds := [("a", .ref lb), ("x", .int sv ts), ("lo", .int (-1) tl), ("hi", .none), ("key", .none)]) ?k1d ?k2d ?k3d ?k4d ?k5d ?kAd ?kFd ?kKd ?k6d ?k7d ?k8d ?k9d ?kBd ?_ ?c2d ?c3d ?c4d ?c5d
  (case kAd => exact rfl); (case kFd => exact rfl); (case kKd => exact rfl); (case k1d => exact B4); (case k2d => exact F4); (case k3d => exact X4); (case k4d => exact N4); (case k5d => exact T4); (case k6d => k_is); (case k7d => k_is); (case k8d => show lawDp + 3 < recursionLimit; decide); (case k9d => first | exact rfl | exact BindsTo.of_eq rfl | (refine' kp_binds ?kxd ?ked; (case kxd => k_in); (case ked => exact fun _ => rfl))); (case c5d => decide); (case kBd => exact locs rfl); (case c2d => exact rfl); (case c3d => exact rfl); (case c4d => exact rfl)
  intro g3 L3 h3 FG3 F3 N3 B3 X3 T3
  have FG3h := Hide.mk FG3
  clear FG3
  (try dsimp only)
  (try k_fold)
  k_steps
  refine Stop.out ?_
  refine wpAny_call_exc PySem.F.excCall_ValueError (fun h5 e5 hx5 => raisable_of_new excClass_ValueError hx5.newExc ?_)
  (try dsimp only)
  k_steps
  refine Stop.out (leave_raiseS B3 (Heap.MadeExc.of hx5) F3 N3 ?_)
  intro h6 t6 R6 _ U6
  (try dsimp only)
  k_steps
  refine Stop.out (leave_onS B4 FG3h.out R6 U6 ?_)
  intro h7 R7 _ U7
  (try dsimp only)
  k_steps
  refine Stop.out (leave_onX B2h.out FG4h.out R7 U7 ?_)
  intro h8 R8 U8
  (try dsimp only)
  k_steps
  have D1 : KtsDicts [L] g1 := fun b hb => by
    obtain ⟨oL, es, ep, e1, e2, _⟩ := FG1h.out.ns
    rw [List.mem_singleton.mp hb]; exact ⟨oL, es, ep, e1, e2⟩
  refine Stop.out (caught_SB (T' := "ValueError") R8 FG2h.out B1h.out U8 X0.out T0.out D1 KtsTurn.refl (by k_is) PyProof.Rows.Boot.«ValueError» (by decide) PySem.F.isExc_ValueError PySem.F.notTuple_ValueError (by rw [isSubtype_type]; kernel_rfl) ?_)
  intro h9 g9 news9 tk9 K9 F9 N9' G9 N9 B9 X9 T9 D9
  (try dsimp only)
  k_steps
  rename Fr g9 _ _ _ => Ff
  rename News g9 _ _ news => Nf
  have ⟨Fo, No⟩ := backS FG1h.out K9 Ff Nf
  exact hret _ _ _ Fo No
end
end Mine
end -- U15
section -- U16
open PySem PySem.W PySem.Calls PyProof.Rows
set_option Elab.async false
set_option maxRecDepth 100000
set_option maxHeartbeats 1000000
namespace Mine
theorem tab_in2 {h₀ h : Heap} {L : Addr} {x y t : Addr × Obj} {a b : List (Addr × Obj)} (N : News h₀ L h (x :: t :: (a ++ b))) (hy : y ∈ a) : News h₀ L h (t :: (a ++ (x :: y :: b))) := by
  refine News.sub N fun q hq => ?_
  simp only [List.mem_append, List.mem_cons] at hq ⊢
  rcases hq with h | h | h | h | h
  · simp [h]
  · simp [h]
  · simp [h]
  · rw [h]; simp [hy]
  · simp [h]
theorem tab_in3 {h₀ h : Heap} {L : Addr} {z x y t : Addr × Obj} {a b : List (Addr × Obj)} (N : News h₀ L h (z :: x :: t :: (a ++ b))) (hy : y ∈ a) : News h₀ L h (t :: (a ++ (z :: x :: y :: b))) := by
  refine News.sub N fun q hq => ?_
  simp only [List.mem_append, List.mem_cons] at hq ⊢
  rcases hq with h | h | h | h | h | h
  · simp [h]
  · simp [h]
  · simp [h]
  · simp [h]
  · rw [h]; simp [hy]
  · simp [h]
theorem tab_ne2 {x y : Addr × Obj} {a b : List (Addr × Obj)} (h : ∀ q ∈ a ++ b, q.1 ≠ 140) (hx : @LT.lt Nat _ 140 x.1) (hy : y ∈ a) : ∀ q ∈ a ++ (x :: y :: b), q.1 ≠ 140 := by
  intro q hq
  simp only [List.mem_append, List.mem_cons] at hq
  rcases hq with hq | hq | hq | hq
  · exact h q (List.mem_append_left _ hq)
  · rw [hq]; exact (Nat.ne_of_lt hx).symm
  · rw [hq]; exact h y (List.mem_append_left _ hy)
  · exact h q (List.mem_append_right _ hq)
theorem tab_ne1 {x : Addr × Obj} {a b : List (Addr × Obj)} (h : ∀ q ∈ a ++ b, q.1 ≠ 140) (hx : @LT.lt Nat _ 140 x.1) : ∀ q ∈ a ++ (x :: b), q.1 ≠ 140 := by
  intro q hq
  simp only [List.mem_append, List.mem_cons] at hq
  rcases hq with hq | hq | hq
  · exact h q (List.mem_append_left _ hq)
  · rw [hq]; exact (Nat.ne_of_lt hx).symm
  · exact h q (List.mem_append_right _ hq)
/-- a deed that is refused -/
def LowAt (w : World) (h₀ : Heap) (L : Addr) (env : Env) (news : List (Addr × Obj)) (f : Addr) : Prop :=
  ∀ (l : List (Addr × Obj)) (m : Str → Option Value) (s : Shared) (Q E : Value → Shared → Prop), (∀ q ∈ news, q ∈ l) → Fr h₀ L s.heap m → News h₀ L s.heap l → (∀ (t : Tok) (h' : Heap) (tk : Nat), Fr h₀ L h' m → News h₀ L h' l → Q (.str "lo must be non-negative" t) { s with heap := h', toks := tk }) →
    wpAny (model PySem.Challenge.rw_ta0044_01.row.prog w) (callerA.deeper env) (call (.ref 138) [.ref f]) Q E s
section
local macro_rules | `(tactic| walk_at "eval Lambda") => `(tactic| refine Stop.mk ?_)
local macro_rules | `(tactic| walk_at "call builtin:list.extend") => `(tactic| refine Stop.mk ?_)
theorem clear_36 : True := by
  first
  | (row_walk; done)
  | trivial
theorem deeds25 (w : World) (p : Program) (loose : List Str) (mean : ExcName → Option Value) (mg mb : Str → Option Value)
  {oc0 : Value} {od0 : Option Addr} {osl0 : Array (Option Value)} {nm0 q0 : Str} {ps0 : Arguments} {s0 s1 s2 s3 s4 s5 s6 s7 s8 s9 s10 s11 s12 s13 s14 s15 s16 s17 s18 s19 s20 s21 s22 s23 s24 : Stmt} {rs : List Stmt} {sc : Scope} {dV0 kV0 doc0 pm0 : Value} {an0 : Option Addr} {cdv0 ct0 : Value} {fx : Expr} {ta : List Expr} {kws : List Keyword} {P1 P2 P3 P4 : Arguments} {B1 B2 B3 B4 : Expr} {S1 S2 S3 S4 : Scope} {g1 g2 g3 g4 gl gl2 gs gc ge : Pos}
  (ho : (pre.heap_1 w.params).lookup 143 = some ⟨oc0, od0, .func (fnOf nm0 q0 ps0 (s0 :: s1 :: s2 :: s3 :: s4 :: s5 :: s6 :: s7 :: s8 :: s9 :: s10 :: s11 :: s12 :: s13 :: s14 :: s15 :: s16 :: s17 :: s18 :: s19 :: s20 :: s21 :: s22 :: s23 :: s24 :: .Assign ta (.List [.Lambda P1 B1 S1 g1, .Lambda P2 B2 S2 g2] gl) gs :: .Expr (.Call fx [.List [.Lambda P3 B3 S3 g3, .Lambda P4 B4 S4 g4] gl2] kws gc) ge :: rs) sc dV0 kV0 doc0 pm0 an0 cdv0 ct0), osl0⟩)
  (rs' : List Stmt) (h₀ : Heap) (L : Addr) (m : Str → Option Value) (s : Shared) (Q : Flow → Shared → Prop)
  (sv : Int) (ts : Tok) (o4 o7 : Obj) (lb : Addr) (ks : List Cd) (O : List (Addr × Obj)) (hks : CdOk lamQ ks) (h140 : ∀ q ∈ cdsL ks ++ O, q.1 ≠ 140)
  (B : Below callerA h₀ [] h₀) (F1 : Fr h₀ L s.heap m) (X : (pre.heap_1 w.params).In h₀) (T : Top p loose mean mg mb h₀) (N : News h₀ L s.heap (tabE ks :: (cdsL ks ++ O)))
  (h4 : (L + 1 + 1 + 1 + 1, o4) ∈ O) (h7 : (L + 1 + 1 + 1 + 1 + 1 + 1 + 1, o7) ∈ O) (C140 : CodeHd h₀ 142 140) (d4 : o4.data = .cell (some (.ref lb))) (d7 : o7.data = .cell (some (.int sv ts)))
  (hret : ∀ (f1 f2 f3 f4 ld : Addr) (kd : Nat) (news' : List (Addr × Obj)) (h' : Heap) (tk : Nat) (m' : Str → Option Value), (∀ f ∈ [f1, f2, f3, f4], LowAt w h₀ L (envOfC nm0 sc L 143 (.ref 142)) news' f) → (ld, listOf #[.ref f1, .ref f2, .ref f3, .ref f4] kd) ∈ news' → (∀ q ∈ O, q ∈ news') → (∃ ps, ((140 : Addr), tabObj ps) ∈ news') → Fr h₀ L h' m' → m' "deeds" = some (.ref ld) → (∀ z : Str, z ≠ "deeds" → m' z = m z) → News h₀ L h' news' → wpAny (model PySem.Challenge.rw_ta0044_01.row.prog w) (callerA.deeper (envOfC nm0 sc L 143 (.ref 142))) (execs rs' (envOfC nm0 sc L 143 (.ref 142))) Q (fun _ _ => False) { s with heap := h', toks := tk }) :
  wpAny (model PySem.Challenge.rw_ta0044_01.row.prog w) (callerA.deeper (envOfC nm0 sc L 143 (.ref 142))) (execs (.Assign ta (.List [.Lambda P1 B1 S1 g1, .Lambda P2 B2 S2 g2] gl) gs :: .Expr (.Call fx [.List [.Lambda P3 B3 S3 g3, .Lambda P4 B4 S4 g4] gl2] kws gc) ge :: rs') (envOfC nm0 sc L 143 (.ref 142))) Q (fun _ _ => False) s := by
  have e_sc := congrArg (fun o => scopeOf o) ho
  conv at e_sc => lhs; whnf
  conv at e_sc => rhs; whnf
  have e_nm : Str.ofString "law" = nm0 := congrArg (fun o => nameOf o) ho
  have e_t25 := congrArg (fun o => stmtAt (bodyOf o) 25) ho
  conv at e_t25 => lhs; whnf
  conv at e_t25 => rhs; whnf
  have e_t26 := congrArg (fun o => stmtAt (bodyOf o) 26) ho
  conv at e_t26 => lhs; whnf
  conv at e_t26 => rhs; whnf
  clear ho
  subst e_sc
  subst e_nm
  cases e_t25
  cases e_t26
  have N1 := N
  have X0 := Hide.mk X
  clear N
  revert X; k_fill; intro X
  (try k_fold)
  k_steps
  rename Fr _ _ _ _ => F1
  rename News _ _ _ _ => N1
  refine Stop.out (kla_eval rfl (lamAny (qual := lamQ) (ks := ks) (others := O) F1 N1 T C140 rfl hks h140 rfl ?_))
  clear F1 N1
  intro f1 c1 ctv1 ks1 hp1 tk1 hks1 hc1 hnew1 F1' N1' hoth1 hlt1
  obtain ⟨vc1, tc1, dc1, de1⟩ := hks1 c1 hc1
  generalize hoF1 : kla_obj _ _ _ _ _ _ _ _ _ = oF1 at N1'
  have hcm1 : (c1.c, c1.o) ∈ cdsL ks1 := List.mem_map_of_mem (f := fun k : Cd => (k.c, k.o)) hc1
  have hf1 : @LT.lt Nat _ 140 f1 := hlt1 (tabE ks1) (.head _)
  (try dsimp only)
  k_steps
  rename Fr _ _ _ _ => F2
  rename News _ _ _ _ => N2
  refine Stop.out (kla_eval rfl (lamAny (qual := lamQ) (ks := ks1) (others := (f1, oF1) :: (c1.c, c1.o) :: O) F2 (tab_in2 N2 hcm1) T C140 rfl hks1 (tab_ne2 hoth1 hf1 hcm1) rfl ?_))
  clear F2 N2
  intro f2 c2 ctv2 ks2 hp2 tk2 hks2 hc2 hnew2 F2' N2' hoth2 hlt2
  obtain ⟨vc2, tc2, dc2, de2⟩ := hks2 c2 hc2
  generalize hoF2 : kla_obj _ _ _ _ _ _ _ _ _ = oF2 at N2'
  have hcm2 : (c2.c, c2.o) ∈ cdsL ks2 := List.mem_map_of_mem (f := fun k : Cd => (k.c, k.o)) hc2
  have hf2 : @LT.lt Nat _ 140 f2 := hlt2 (tabE ks2) (.head _)
  (try dsimp only)
  k_steps
  rename Fr _ _ _ _ => F3
  rename News _ _ _ _ => N3
  rename (@LT.lt Nat _ f2 _) ∧ _ => ll
  rename_i ld hh1 hh2
  refine Stop.out (kla_eval rfl (lamAny (qual := lamQ) (ks := ks2) (others := (ld, listOf #[.ref f1, .ref f2] 0) :: (f2, oF2) :: (c2.c, c2.o) :: (f1, oF1) :: (c1.c, c1.o) :: O) F3 (tab_in3 N3 hcm2) T C140 rfl hks2 (tab_ne1 (tab_ne2 hoth2 hf2 hcm2) ll.2.1) rfl ?_))
  clear F3 N3
  intro f3 c3 ctv3 ks3 hp3 tk3 hks3 hc3 hnew3 F3' N3' hoth3 hlt3
  obtain ⟨vc3, tc3, dc3, de3⟩ := hks3 c3 hc3
  generalize hoF3 : kla_obj _ _ _ _ _ _ _ _ _ = oF3 at N3'
  have hcm3 : (c3.c, c3.o) ∈ cdsL ks3 := List.mem_map_of_mem (f := fun k : Cd => (k.c, k.o)) hc3
  have hf3 : @LT.lt Nat _ 140 f3 := hlt3 (tabE ks3) (.head _)
  (try dsimp only)
  k_steps
  rename Fr _ _ _ _ => F4
  rename News _ _ _ _ => N4
  refine Stop.out (kla_eval rfl (lamAny (qual := lamQ) (ks := ks3) (others := (f3, oF3) :: (c3.c, c3.o) :: (ld, listOf #[.ref f1, .ref f2] 0) :: (f2, oF2) :: (c2.c, c2.o) :: (f1, oF1) :: (c1.c, c1.o) :: O) F4 (tab_in2 N4 hcm3) T C140 rfl hks3 (tab_ne2 hoth3 hf3 hcm3) rfl ?_))
  clear F4 N4
  intro f4 c4 ctv4 ks4 hp4 tk4 hks4 hc4 hnew4 F4' N4' hoth4 hlt4
  obtain ⟨vc4, tc4, dc4, de4⟩ := hks4 c4 hc4
  generalize hoF4 : kla_obj _ _ _ _ _ _ _ _ _ = oF4 at N4'
  have hcm4 : (c4.c, c4.o) ∈ cdsL ks4 := List.mem_map_of_mem (f := fun k : Cd => (k.c, k.o)) hc4
  have hf4 : @LT.lt Nat _ 140 f4 := hlt4 (tabE ks4) (.head _)
  (try dsimp only)
  k_steps
  rename Fr _ _ _ _ => F5
  rename News _ _ _ _ => N5
  rename (@LT.lt Nat _ f4 _) ∧ _ => l5
  rename_i l2 hh3
  have ldm3 : (ld, listOf #[.ref f1, .ref f2] 0) ∈ (ld, listOf #[.ref f1, .ref f2] 0) :: (f2, oF2) :: (c2.c, c2.o) :: (f1, oF1) :: (c1.c, c1.o) :: O := .head _
  have ldm4 : (ld, listOf #[.ref f1, .ref f2] 0) ∈ (f3, oF3) :: (c3.c, c3.o) :: (ld, listOf #[.ref f1, .ref f2] 0) :: (f2, oF2) :: (c2.c, c2.o) :: (f1, oF1) :: (c1.c, c1.o) :: O := .tail _ (.tail _ (.head _))
  have lts : ∀ q ∈ cdsL ks2 ++ ((f1, oF1) :: (c1.c, c1.o) :: O), @LT.lt Nat _ q.1 ld := allLt_mem ll.2.2
  have cd2 : ∀ k ∈ ks2, k.c ≠ ld := fun k hk => Nat.ne_of_lt (lts (k.c, k.o) (List.mem_append_left _ (List.mem_map_of_mem (f := fun k : Cd => (k.c, k.o)) hk)))
  have cd3 : ∀ k ∈ ks3, k.c ≠ ld := fun k hk => (hnew3 k hk).elim (cd2 k) fun h => (Nat.ne_of_lt (h _ (.tail _ (List.mem_append_right _ ldm3)))).symm
  have cd4 : ∀ k ∈ ks4, k.c ≠ ld := fun k hk => (hnew4 k hk).elim (cd3 k) fun h => (Nat.ne_of_lt (h _ (.tail _ (List.mem_append_right _ ldm4)))).symm
  have hne : ∀ q ∈ (l2, listOf #[.ref f3, .ref f4] 0) :: tabE ks4 :: (f4, oF4) :: (c4.c, c4.o) :: (f3, oF3) :: (c3.c, c3.o) :: (f2, oF2) :: (c2.c, c2.o) :: (f1, oF1) :: (c1.c, c1.o) :: O, q.1 ≠ ld := by
    intro q hq
    simp only [List.mem_cons] at hq
    rcases hq with h | h | h | h | h | h | h | h | h | h | h
    · rw [h]; exact (Nat.ne_of_lt (allLt_mem l5.2.2 _ (List.mem_append_right _ ldm4))).symm
    · rw [h]; exact Nat.ne_of_lt ll.2.1
    · rw [h]; exact (Nat.ne_of_lt (hlt4 _ (.tail _ (List.mem_append_right _ ldm4)))).symm
    · rw [h]; exact cd4 c4 hc4
    · rw [h]; exact (Nat.ne_of_lt (hlt3 _ (.tail _ (List.mem_append_right _ ldm3)))).symm
    · rw [h]; exact cd3 c3 hc3
    · rw [h]; exact Nat.ne_of_lt ll.1
    · rw [h]; exact cd2 c2 hc2
    · rw [h]; exact Nat.ne_of_lt (lts (f1, oF1) (List.mem_append_right _ (.head _)))
    · rw [h]; exact Nat.ne_of_lt (lts (c1.c, c1.o) (List.mem_append_right _ (.tail _ (.head _))))
    · exact Nat.ne_of_lt (lts q (List.mem_append_right _ (.tail _ (.tail _ h))))
  have N6 : News h₀ L _ ((ld, listOf #[.ref f1, .ref f2] 0) :: (l2, listOf #[.ref f3, .ref f4] 0) :: tabE ks4 :: (f4, oF4) :: (c4.c, c4.o) :: (f3, oF3) :: (c3.c, c3.o) :: (f2, oF2) :: (c2.c, c2.o) :: (f1, oF1) :: (c1.c, c1.o) :: O) := News.sub N5 fun q hq => by
    simp only [List.mem_cons, List.mem_append] at hq ⊢
    rcases hq with h | h | h | h | h | h | h | h | h | h | h | h
    · simp [h]
    · simp [h]
    · simp [h]
    · simp [h]
    · rw [h]; simp [hcm4]
    · simp [h]
    · simp [h]
    · simp [h]
    · simp [h]
    · simp [h]
    · simp [h]
    · simp [h]
  refine Stop.out (kl_extend F5 N6 (.tail _ (.head _)) rfl (Nat.succ_ne_zero _) (.head hne) (by kl_no) (by rw [sizeLine_eq]; show 2 ≤ _; decide) (by rw [sizeLine_eq]; show 4 ≤ _; decide) ?_)
  intro h6 F6 N6'
  clear F5 N5 N6
  (try dsimp only)
  k_steps
  rename Fr _ _ _ _ => F7
  rename News _ _ _ _ => N7
  refine hret f1 f2 f3 f4 ld _ _ _ _ _ ?lows (.head _) ?sub ⟨_, .tail _ (.tail _ (.head _))⟩ F7 (by rfl) (fun z hz => if_neg hz) N7
  case sub => exact fun q hq => .tail _ (.tail _ (.tail _ (.tail _ (.tail _ (.tail _ (.tail _ (.tail _ (.tail _ (.tail _ (.tail _ hq))))))))))
  case lows =>
    have inO : ∀ {q : Addr × Obj}, q ∈ O → q ∈ (ld, listOf #[.ref f1, .ref f2, .ref f3, .ref f4] 1) :: (l2, listOf #[.ref f3, .ref f4] 0) :: tabE ks4 :: (f4, oF4) :: (c4.c, c4.o) :: (f3, oF3) :: (c3.c, c3.o) :: (f2, oF2) :: (c2.c, c2.o) :: (f1, oF1) :: (c1.c, c1.o) :: O := fun hq => .tail _ (.tail _ (.tail _ (.tail _ (.tail _ (.tail _ (.tail _ (.tail _ (.tail _ (.tail _ (.tail _ hq))))))))))
    intro f hf
    simp only [List.mem_cons, List.not_mem_nil, or_false] at hf
    rcases hf with rfl | rfl | rfl | rfl
    · intro l m s Q E hl F N hr
      exact low1 w p loose mean mg mb (ho := rfl) h₀ C140 L f c1.c lb c1.o oF1 o4 o7 _ ctv1 vc1 tc1 ts sv l m s Q E B F X0.out N T hoF1 (hl _ (by simp)) (hl _ (by simp)) dc1 de1 (hl _ (inO h4)) (hl _ (inO h7)) d4 d7 hr
    · intro l m s Q E hl F N hr
      exact low2 w p loose mean mg mb (ho := rfl) h₀ C140 L f c2.c lb c2.o oF2 o4 o7 _ ctv2 vc2 tc2 ts sv l m s Q E B F X0.out N T hoF2 (hl _ (by simp)) (hl _ (by simp)) dc2 de2 (hl _ (inO h4)) (hl _ (inO h7)) d4 d7 hr
    · intro l m s Q E hl F N hr
      exact low3 w p loose mean mg mb (ho := rfl) h₀ C140 L f c3.c lb c3.o oF3 o4 o7 _ ctv3 vc3 tc3 ts sv l m s Q E B F X0.out N T hoF3 (hl _ (by simp)) (hl _ (by simp)) dc3 de3 (hl _ (inO h4)) (hl _ (inO h7)) d4 d7 hr
    · intro l m s Q E hl F N hr
      exact low4 w p loose mean mg mb (ho := rfl) h₀ C140 L f c4.c lb c4.o oF4 o4 o7 _ ctv4 vc4 tc4 ts sv l m s Q E B F X0.out N T hoF4 (hl _ (by simp)) (hl _ (by simp)) dc4 de4 (hl _ (inO h4)) (hl _ (inO h7)) d4 d7 hr
end
end Mine
end -- U16
section -- U17
open PySem PySem.W PySem.Calls PyProof.Rows
set_option Elab.async false
set_option maxRecDepth 100000
set_option maxHeartbeats 1000000
namespace Mine
abbrev lowMsg : Str := "lo must be non-negative"
theorem strs_reads {h : Heap} {x : Str} : ∀ {vs : List Value}, (∀ v ∈ vs, ∃ t, v = .str x t) → ReadsAll h vs (List.replicate vs.length (.str x)) []
  | [], _ => .nil
  | v :: vs, H => by
    obtain ⟨t, rfl⟩ := H v (.head _)
    exact ReadsAll.cons (as := []) (.str x t) (strs_reads fun v hv => H v (.tail _ hv))
theorem strs_reads' {h : Heap} {x : Str} {vs : List Value} {k : Nat} (hk : vs.length = k) (H : ∀ v ∈ vs, ∃ t, v = .str x t) : ReadsAll h vs (List.replicate k (.str x)) [] := hk ▸ strs_reads H
theorem strs_lay {x : Str} (hx : PyData.strOk x = true) : ∀ k, PyData.canLayAll0 (List.replicate k (.str x)) = true
  | 0 => rfl
  | k + 1 => by rw [List.replicate_succ]; simp [PyData.canLayAll0, PyData.canLay0, strs_lay hx k, hx]
theorem strs_depth (x : Str) : ∀ k, PyData.depthAll (List.replicate k (.str x)) = 0
  | 0 => by simp [PyData.depthAll]
  | k + 1 => by rw [List.replicate_succ]; simp [PyData.depthAll, PyData.depth, strs_depth x k]
theorem strs_shaped {x : Str} (hx : PyData.strOk x = true) (k : Nat) : SeqAt.shaped (.list (List.replicate k (.str x))) = true := by
  simp [SeqAt.shaped, PyData.canLay0, PyData.depth, strs_lay hx, strs_depth]
theorem strs_eqv (x : Str) : ∀ k, PyData.eqvAll (List.replicate k (.str x)) (List.replicate k (.str x)) = true
  | 0 => by simp [PyData.eqvAll]
  | k + 1 => by rw [List.replicate_succ]; simp [PyData.eqvAll, PyData.eqv, strs_eqv x k]
section
local macro_rules | `(tactic| walk_at "eval ListComp") => `(tactic| refine Stop.mk ?_)
local macro_rules | `(tactic| walk_at "CompSrc") => `(tactic| refine Stop.mk ?_)
local macro_rules | `(tactic| walk_at "call ref") => `(tactic| refine Stop.mk ?_)
local macro_rules | `(tactic| walk_at "compareOp NotEq ref ref") => `(tactic| refine Stop.mk ?_)
theorem clear_37 : True := by
  first
  | (row_walk; done)
  | trivial
theorem cmp27 (w : World) (p : Program) (loose : List Str) (mean : ExcName → Option Value) (mg mb : Str → Option Value)
  {oc0 : Value} {od0 : Option Addr} {osl0 : Array (Option Value)} {nm0 q0 : Str} {ps0 : Arguments} {s0 s1 s2 s3 s4 s5 s6 s7 s8 s9 s10 s11 s12 s13 s14 s15 s16 s17 s18 s19 s20 s21 s22 s23 s24 s25 s26 s27 : Stmt} {rs : List Stmt} {sc : Scope} {dV0 kV0 doc0 pm0 : Value} {an0 : Option Addr} {cdv0 ct0 : Value}
  (ho : (pre.heap_1 w.params).lookup 143 = some ⟨oc0, od0, .func (fnOf nm0 q0 ps0 (s0 :: s1 :: s2 :: s3 :: s4 :: s5 :: s6 :: s7 :: s8 :: s9 :: s10 :: s11 :: s12 :: s13 :: s14 :: s15 :: s16 :: s17 :: s18 :: s19 :: s20 :: s21 :: s22 :: s23 :: s24 :: s25 :: s26 :: s27 :: rs) sc dV0 kV0 doc0 pm0 an0 cdv0 ct0), osl0⟩)
  (rs' : List Stmt) (h₀ : Heap) (L : Addr) (m : Str → Option Value) (s : Shared) (Q : Flow → Shared → Prop)
  (B : Below callerA h₀ [] h₀) (F : Fr h₀ L s.heap m) (X : (pre.heap_1 w.params).In h₀) (T : Top p loose mean mg mb h₀)
  (bs es : List Int) (zb : bs.length ≤ 10) (ze : es.length ≤ 10) (o4 : Obj) (lb le lk k1 k2 ld f1 f2 f3 f4 : Addr) (bv ev : List Value) (nb ne c1 c2 kd : Nat) (news : List (Addr × Obj)) (N : News h₀ L s.heap news)
  (hlow : ∀ f ∈ [f1, f2, f3, f4], LowAt w h₀ L (envOfC nm0 sc L 143 (.ref 142)) news f) (hld : (ld, listOf #[.ref f1, .ref f2, .ref f3, .ref f4] kd) ∈ news)
  (h4 : (L + 1 + 1 + 1 + 1, o4) ∈ news) (hlb : (lb, listOf bv.toArray nb) ∈ news) (hle : (le, listOf ev.toArray ne) ∈ news) (hlk : (lk, listOf #[.ref k1, .ref k2] 0) ∈ news) (hk1 : (k1, listOf bv.toArray c1) ∈ news) (hk2 : (k2, listOf ev.toArray c2) ∈ news) (ib : IntsAre bv bs) (ie : IntsAre ev es)
  (d4 : o4.data = .cell (some (.ref lb)))
  (m1 : m "deeds" = some (.ref ld)) (m2 : m "ends" = some (.ref le)) (m3 : m "kept" = some (.ref lk))
  (hret : ∀ (h' : Heap) (tk : Nat), Fr h₀ L h' m → News h₀ L h' news → wpAny (model PySem.Challenge.rw_ta0044_01.row.prog w) (callerA.deeper (envOfC nm0 sc L 143 (.ref 142))) (execs rs' (envOfC nm0 sc L 143 (.ref 142))) Q (fun _ _ => False) { s with heap := h', toks := tk }) :
  wpAny (model PySem.Challenge.rw_ta0044_01.row.prog w) (callerA.deeper (envOfC nm0 sc L 143 (.ref 142))) (execs (s27 :: rs') (envOfC nm0 sc L 143 (.ref 142))) Q (fun _ _ => False) s := by
  have e_sc := congrArg (fun o => scopeOf o) ho
  conv at e_sc => lhs; whnf
  conv at e_sc => rhs; whnf
  have e_s27 := congrArg (fun o => stmtAt (bodyOf o) 27) ho
  conv at e_s27 => lhs; whnf
  conv at e_s27 => rhs; whnf
  clear ho
  subst e_sc
  subst e_s27
  have eM : kstB m [("deeds", .ref ld), ("ends", .ref le), ("kept", .ref lk)] = m := funext fun z => kstB_eq (by simp [m1, m2, m3]) fun _ => rfl
  have F' : Fr h₀ L s.heap (kstB m [("deeds", .ref ld), ("ends", .ref le), ("kept", .ref lk)]) := by rw [eM]; exact F
  clear F
  have ib0 := Hide.mk ib
  have ie0 := Hide.mk ie
  clear ib ie
  revert X; k_fill; intro X
  (try k_fold)
  k_steps
  refine Stop.out ?_
  refine LCg.ListComp_U (F₀ := F') (by with_unfolding_all rfl) (by decide) (by rfl) (by decide) (by rfl) ?_
  (try dsimp only)
  k_steps
  refine Stop.out ?_
  rename Fr _ _ _ _ => F2
  rename News _ _ _ _ => N2
  refine LCg.CompSrc.ledger (by rfl) F2 N2 hld (by rw [sizeLine_eq]; show 4 ≤ _; decide) ?_
  intro g
  refine comp_inv 4 (fun i ys nw => nw = news ∧ ys.length = i ∧ ∀ v ∈ ys, ∃ t, v = .str lowMsg t) ?turn ?done 4 0 [] _ (by omega) ⟨rfl, rfl, fun _ h => nomatch h⟩
  case turn =>
    clear F2 N2
    rintro i ys nw v I oI C oC D m₂ h tk E' hi ⟨rfl, hyl, hys⟩ hv hC hx F N off ne
    have ⟨f, hf, hvf⟩ : ∃ f ∈ [f1, f2, f3, f4], v = .ref f := by
      match i, hi with
      | 0, _ => exact ⟨f1, by simp, (Option.some.inj hv).symm⟩
      | 1, _ => exact ⟨f2, by simp, (Option.some.inj hv).symm⟩
      | 2, _ => exact ⟨f3, by simp, (Option.some.inj hv).symm⟩
      | 3, _ => exact ⟨f4, by simp, (Option.some.inj hv).symm⟩
    subst hvf
    have off0 := Hide.mk off
    k_steps
    rename Fr _ _ _ _ => F3
    rename News _ _ _ _ => N3
    refine Stop.out (hlow f hf _ _ ⟨_, _, _, _, _⟩ _ _ (fun q hq => .tail _ (.tail _ (.tail _ hq))) F3 N3 ?_)
    intro t h9 tk9 F4 N4
    (try dsimp only)
    k_steps
    rename Fr _ _ _ _ => F9
    rename News _ _ _ _ => N9
    refine LCg.CompEnd.intro F9 N9 nw (fun q hq => hq) off0.out (.inr ⟨_, hld, rfl, _, rfl⟩) ⟨rfl, by rw [List.length_append, hyl]; rfl, fun v hv => ?_⟩
    rcases List.mem_append.mp hv with hv | hv
    · exact hys v hv
    · exact ⟨t, List.mem_singleton.mp hv⟩
  case done =>
    rintro ys nw ⟨rfl, hyl, hys⟩
    clear F2 N2
    k_steps
    rename Fr _ _ _ _ => F3
    rename News _ _ _ _ => N3
    have hyl0 := hyl
    refine mulI0 (D := 4) rfl (by decide) F3 N3 (.head _) ?_
    intro l4 h4' F4 N4 lt4
    (try dsimp only)
    k_steps
    rename Fr _ _ _ _ => F5
    rename News _ _ _ _ => N5
    have hok : PyData.strOk lowMsg = true := by first | rfl | decide +kernel
    have r1 : Reads _ (.ref _) (.list (List.replicate 4 (.str lowMsg))) _ := reads_list_at (N5 _ (.tail _ (.tail _ (.head _)))).1 rfl rfl (by rw [List.toList_toArray]; exact strs_reads' hyl0 hys)
    have r2 : Reads _ (.ref _) (.list (List.replicate 4 (.str lowMsg))) _ := reads_list_at (N5 _ (.head _)).1 rfl rfl (by rw [List.toList_toArray]; exact strs_reads' List.length_replicate fun v hv => ⟨_, (List.mem_replicate.mp hv).2⟩)
    refine Stop.out (ne_dataH r1 r2 (strs_shaped hok 4) (strs_shaped hok 4) (by ke_room) ?_)
    rw [PyData.eqv, strs_eqv]
    (try dsimp only)
    k_steps
    rename Fr _ _ _ _ => F6
    rename News _ _ _ _ => N6
    have Nn := News.dropHd (News.dropHd (News.dropHd (News.dropHd N6)))
    have r3 : Reads _ (.ref _) (.list [.list (bs.map PyData.int), .list (es.map PyData.int)]) _ := reads_list_at (N6 _ (.head _)).1 rfl rfl (.cons (reads_newData (News.isList Nn hlb) (ke_carried ib0.out)) (.cons (reads_newData (News.isList Nn hle) (ke_carried ie0.out)) .nil))
    have r4 : Reads _ (.ref lk) (.list [.list (bs.map PyData.int), .list (es.map PyData.int)]) _ := reads_list_at (Nn _ hlk).1 rfl rfl (.cons (reads_newData (News.isList Nn hk1) (ke_carried ib0.out)) (.cons (reads_newData (News.isList Nn hk2) (ke_carried ie0.out)) .nil))
    have hsh : SeqAt.shaped (.list [.list (bs.map PyData.int), .list (es.map PyData.int)]) = true := by simp [SeqAt.shaped, PyData.canLay0, PyData.canLayAll0, PyData.depth, PyData.depthAll, ke_canLayAll0, ke_depthAll]
    refine Stop.out (ne_dataH r3 r4 hsh hsh (by ke_room) ?_)
    have heq : PyData.eqv (.list [.list (bs.map PyData.int), .list (es.map PyData.int)]) (.list [.list (bs.map PyData.int), .list (es.map PyData.int)]) = true := by simp [PyData.eqv, PyData.eqvAll, ked_eqvAll]
    rw [heq]
    (try dsimp only)
    k_steps
    rename Fr _ _ _ _ => F7
    rename News _ _ _ _ => N7
    rw [eM] at F7
    exact hret _ _ F7 N7
end
end Mine
end -- U17
section -- V1
open PySem PySem.W PySem.Calls PyProof.Rows
set_option Elab.async false
set_option maxRecDepth 100000
set_option maxHeartbeats 1000000
namespace Mine
open Builtin Builtin.Str Builtin.BaseException Builtin.Exceptions
/-! str of an exception of the program's own class -/
section
variable {prog : Program} {w : World} {A : Around} {E : Value → Shared → Prop} {s : Shared} {K : Frag} {e t0 C : Addr} {m : Str} {tk : Tok}
structure OwnExc (K : Frag) (C : Addr) (h : Heap) (e t0 : Addr) (m : Str) (tk : Tok) : Prop where
  X : K.In h
  obj : ∃ oe ws, h.get? e = some oe ∧ oe.cls = .ref C ∧ oe.data = .fields ws ∧ ws[0]? = some (.ref t0)
  tup : h.TupAt t0 [.str m tk]
  look : findIn K (.ref C) "__str__" = some (some (.builtin "BaseException.__str__"))
  sub : subIn K (.ref C) (.type "BaseException") = some true
theorem OwnExc.of {g h : Heap} {L t : Addr} {news : List (Addr × Obj)} (X : K.In h) (N : News g L h news) (G : Got news e t (.ref C) [.str m tk]) (hs : findIn K (.ref C) "__str__" = some (some (.builtin "BaseException.__str__"))) (hb : subIn K (.ref C) (.type "BaseException") = some true) : OwnExc K C h e t m tk := by
  obtain ⟨oe, ot, ws, nt, g1, g2, hc, hd', h0, htc, htd⟩ := G
  exact ⟨X, ⟨oe, ws, N.get g1, hc, hd', h0⟩, ⟨ot, nt, N.get g2, htc, htd⟩, hs, hb⟩
theorem OwnExc.tp {M : Model} {h : Heap} (x : OwnExc K C h e t0 m tk) : Looks M h (typeOf (.ref e)) (.ref C) := by
  obtain ⟨oe, ws, he, hc, _⟩ := x.obj
  exact hc ▸ (Looks.ld he).andThen .now
theorem OwnExc.args {M : Model} {Q : Value × List Value → Shared → Prop} (x : OwnExc K C s.heap e t0 m tk) (hq : Q (.ref t0, [.str m tk]) s) : wpAny M A (bexcArgs (.ref e)) Q E s := by
  obtain ⟨oe, ws, he, _, hd, h0⟩ := x.obj
  obtain ⟨ot, k, hto, _, htd⟩ := x.tup
  unfold bexcArgs
  exact wpAny_bind (wpAny_field he hd h0 (wpAny_bind (wpAny_seqItems hto htd (wpAny_pure hq))))
theorem OwnExc.entry {Q : Fin → Shared → Prop} (x : OwnExc K C s.heap e t0 m tk) (hq : Q (.done (.ret (.str m tk))) s) : wpAny (model prog w) A (Builtin.«BaseException.__str__» ⟨[.ref e], []⟩) Q E s := by
  unfold Builtin.«BaseException.__str__»
  repeat (first | with_reducible refine x.args ?_ | wp_step)
  exact hq
theorem bexc_kind : builtinKind "BaseException.__str__" = some .slot := by decide +kernel
theorem bexc_split : splitId "BaseException.__str__" = some ("BaseException", "__str__") := by decide +kernel
theorem OwnExc.check {M : Model} {Q : Unit → Shared → Prop} (x : OwnExc K C s.heap e t0 m tk) (hq : Q () s) : wpAny M A (checkBuiltinCall "BaseException.__str__" ⟨[.ref e], []⟩) Q E s := by
  have ha := F.args_bexc_str (.ref e)
  simp only [checkBuiltinCall, bexc_kind, bexc_split]
  refine wpAny_bind (m := isInstance _ _) (wpAny_bind (x.tp.here ((looks_subIn x.X x.sub).here ?_)))
  simp only [Bool.not_true, Bool.false_eq_true, if_false]
  cases hsig : Manifest.signature? "BaseException.__str__" with
  | none => exact wpAny_pure hq
  | some sig =>
    simp only [argsOk, hsig] at ha
    have h2 : Bind.checkArgs "BaseException.__str__" sig ⟨[.ref e], []⟩ = pure () := ha
    show wpAny M A (Bind.checkArgs "BaseException.__str__" sig ⟨[.ref e], []⟩) Q E s
    rw [h2]; exact wpAny_pure hq
theorem OwnExc.callIt {Q : Value → Shared → Prop} (x : OwnExc K C s.heap e t0 m tk) (hq : Q (.str m tk) s) : wpAny (model prog w) A (call (.builtin "BaseException.__str__") [.ref e]) Q E s :=
  wpAny_call (codeAny_call_builtin (by decide +kernel) F.entry_bexc_str (x.check (x.entry hq)))
theorem bexc_bind (self : Value) : bindSpecial (.builtin "BaseException.__str__") self = pure (.builtin "BaseException.__str__", [self]) := by
  have hop : withoutEnding? "BaseException.__str__" "#opaque" = none := by decide +kernel
  have hdat : withoutEnding? "BaseException.__str__" "#data" = none := by decide +kernel
  simp only [bindSpecial, typeOf, builtinType, hop, hdat, bexc_kind]
  rfl
theorem OwnExc.strOf {Q : Value → Shared → Prop} (x : OwnExc K C s.heap e t0 m tk) (hu : A.units < cLine) (hq : Q (.str m tk) s) : wpAny (model prog w) A (PySem.Builtin.Str.strOf (.ref e)) Q E s := by
  unfold PySem.Builtin.Str.strOf
  rw [show isExactStr (.ref e) = false from rfl]
  refine wpAny_bind (m := cRoomFor _ _) (wpAny_cRoomFor hu ?_)
  refine wpAny_bind (m := callSpecial? (.ref e) (Str.ofString "__str__")) ?_
  refine wpAny_bind (wpAny_bind (x.tp.here ((looks_findIn x.X x.look).here (wpAny_holding (wpAny_bind ?_)))))
  refine wpAny_of_eq (bexc_bind _) ?_
  refine wpAny_bind (m := PySem.call _ _) (wpAny_mono (x.callIt (Q := fun r s₁ => r = .str m tk ∧ Q (.str m tk) s₁) ⟨rfl, hq⟩) (fun r s₁ hr => ?_) fun _ _ y => y)
  obtain ⟨rfl, hr⟩ := hr
  exact wpAny_pure (wpAny_pure hr)
theorem OwnExc.str {Q : Value → Shared → Prop} (x : OwnExc K C s.heap e t0 m tk) (hu : A.units + 2 < cLine) (h : Q (.str m tk) s) : wpAny (model prog w) A (call (.type "str") [.ref e]) Q E s :=
  callType_new F.called_str (by decide) (F.typeCall_str_1 _) (F.newCall_str_1 _) (fun obj => F.args_object_init_2 obj _) F.entry_str_new
    (meets_str_new (S := fun A' R s' => A'.units + 1 < cLine ∧ OwnExc K C s'.heap e t0 m tk ∧ R (.ok (.ret (.str m tk))) s')
      fun _ _ A' _ _ hq => hq.2.1.strOf (A := A'.in1) hq.1 hq.2.2)
    ⟨(show A.units + 1 + 1 < cLine from hu), x, typeIs_str _ _ _, h⟩
end
end Mine
end -- V1
section -- U18
open PySem PySem.W PySem.Calls PyProof.Rows
set_option Elab.async false
set_option maxRecDepth 100000
set_option maxHeartbeats 1000000
namespace Mine
section
local macro_rules | `(tactic| walk_at "call ref") => `(tactic| refine Stop.mk ?_)
local macro_rules | `(tactic| walk_at "leaving ref") => `(tactic| refine Stop.mk ?_)
local macro_rules | `(tactic| walk_at "call type:str") => `(tactic| refine Stop.mk ?_)
local macro_rules | `(tactic| walk_at "noteFrame ref") => `(tactic| refine Stop.mk ?_)
local macro_rules | `(tactic| walk_at "none 37 0") => `(tactic| skip)
theorem clear_38 : True := by
  first
  | (row_walk; done)
  | trivial
theorem readRef (w : World) (p : Program) (loose : List Str) (mean : ExcName → Option Value) (mg mb : Str → Option Value) (nm : Str) (sc : Scope) (hsc : sc.kind = .function)
  (h₀ : Heap) (L : Addr) (news : List (Addr × Obj)) (m : Str → Option Value) (s : Shared) (Q E : Value → Shared → Prop) (x : Str) (t : Tok) (zx : x.length ≤ 60)
  (B : Below callerA h₀ [] h₀) (F : Fr h₀ L s.heap m) (X : (pre.heap_1 w.params).In h₀) (N : News h₀ L s.heap news) (T : Top p loose mean mg mb h₀)
  (hx3 : (Txt.slice x none (some 3) != Str.ofString "257") = true)
  (hret : ∀ (l : Addr) (u v : Tok) (h' : Heap) (tk : Nat), Fr h₀ L h' m → News h₀ L h' ((l, listOf #[.str "refused" u, .str x v] 0) :: news) → (∀ q ∈ news, q.1 ≠ l) → Q (.ref l) { s with heap := h', toks := tk }) :
  wpAny (model PySem.Challenge.rw_ta0044_01.row.prog w) (callerA.deeper (envOfC nm sc L 143 (.ref 142))) (call (.ref 131) [.str x t]) Q E s := by
  have X0 := Hide.mk X
  revert X; k_fill; intro X
  refine wpAny_call ?_
  refine' enterS (binds := [("reply", .str x t)]) ?k1a ?k2a ?k3a ?k4a ?k5a ?kAa ?kFa ?kKa ?k6a ?k7a ?k8a ?k9a ?kBa ?_ ?c2a ?c3a ?c4a ?c5a
  (case kAa => exact rfl); (case kFa => exact rfl); (case kKa => exact hsc); (case k1a => exact B); (case k2a => exact F); (case k3a => exact X); (case k4a => exact N); (case k5a => exact T); (case k6a => k_is); (case k7a => k_is); (case k8a => show lawDp < recursionLimit; decide); (case k9a => first | exact rfl | exact BindsTo.of_eq rfl | (refine' kp_binds ?kxa ?kea; (case kxa => k_in); (case kea => exact fun _ => rfl))); (case c5a => decide); (case kBa => exact locs rfl); (case c2a => exact rfl); (case c3a => exact rfl); (case c4a => exact rfl)
  intro g1 L1 h1 FG1 F1 N1 B1 X1 T1
  have T0 := Hide.mk T
  have F0 := Hide.mk F
  have B0 := Hide.mk B
  have FG1h := Hide.mk FG1
  clear F N T B FG1
  (try dsimp only)
  (try k_fold)
  k_steps
  refine Stop.out ?_
  refine wpAny_call ?_
  refine' code_def (binds := [("resp", .str x t)]) ?k1b ?k2b ?k3b ?k4b ?k5b ?kAb ?kFb ?kKb ?k6b ?k7b ?k8b ?k9b ?kBb ?_ ?c2b ?c3b ?c4b ?c5b
  (case kAb => exact rfl); (case kFb => exact rfl); (case kKb => exact rfl); (case k1b => exact B1); (case k2b => exact F1); (case k3b => exact X1); (case k4b => exact N1); (case k5b => exact T1); (case k6b => k_is); (case k7b => k_is); (case k8b => show lawDp + 1 < recursionLimit; decide); (case k9b => first | exact rfl | exact BindsTo.of_eq rfl | (refine' kp_binds ?kxb ?keb; (case kxb => k_in); (case keb => exact fun _ => rfl))); (case c5b => decide); (case kBb => exact locs rfl); (case c2b => exact rfl); (case c3b => exact rfl); (case c4b => exact rfl)
  intro g2 L2 h2 FG2 F2 N2 B2 X2 T2
  have FG2h := Hide.mk FG2
  have B1h := Hide.mk B1
  have F1h := Hide.mk F1
  clear F1 N1 FG2
  (try dsimp only)
  (try k_fold)
  k_steps
  rename Heap.MadeExcOf _ _ _ _ _ => hx5
  rename Fr g2 _ _ _ => Fb
  rename News g2 _ _ _ => Nb
  refine Stop.out (leave_raiseS B2 hx5 Fb Nb ?_)
  intro h6 t6 R6 _ U6
  (try dsimp only)
  k_steps
  have D1 : KtsDicts [L] g1 := fun b hb => by
    obtain ⟨oL, es, ep, e1, e2, _⟩ := FG1h.out.ns
    rw [List.mem_singleton.mp hb]; exact ⟨oL, es, ep, e1, e2⟩
  refine Stop.out (caught_SOB R6 FG2h.out B1h.out U6 X0.out T0.out D1 KtsTurn.refl (by k_is) (by kts_isx) ?_)
  intro h9 g9 news9 tk9 K9 F9 N9' G9 N9 B9 X9 T9 D9
  have own9 := OwnExc.of (K := pre.heap_1 w.params) (X9.keeps F9.keep) N9' G9 (by first | rfl | k_is) (by first | rfl | k_is)
  (try dsimp only)
  k_steps
  refine Stop.out (OwnExc.str (s := ⟨h9, _, _, _, _⟩) own9 (by ke_room) ?_)
  (try dsimp only)
  k_steps
  rename Fr g9 _ _ _ => Ff
  rename News g9 _ _ _ => Nf
  rename ∀ (p : Addr × Obj), p ∈ news → p.1 < _ => lq
  have ⟨Fo, No⟩ := backS FG1h.out K9 Ff Nf
  exact hret _ _ _ _ _ Fo No (fun q hq => Nat.ne_of_lt (lq q hq))
theorem readNil (w : World) (p : Program) (loose : List Str) (mean : ExcName → Option Value) (mg mb : Str → Option Value) (nm : Str) (sc : Scope) (hsc : sc.kind = .function)
  (h₀ : Heap) (L : Addr) (news : List (Addr × Obj)) (m : Str → Option Value) (s : Shared) (Q E : Value → Shared → Prop) (x : Str) (t : Tok) (zx : x.length ≤ 60)
  (B : Below callerA h₀ [] h₀) (F : Fr h₀ L s.heap m) (X : (pre.heap_1 w.params).In h₀) (N : News h₀ L s.heap news) (T : Top p loose mean mg mb h₀)
  (hx3 : (Txt.slice x none (some 3) != Str.ofString "257") = false) (hx5 : (Txt.slice x (some 3) (some 5) != Str.ofString " \"") = true)
  (hret : ∀ (v : Tok) (h' : Heap) (tk : Nat), Fr h₀ L h' m → News h₀ L h' news → Q (.str "" v) { s with heap := h', toks := tk }) :
  wpAny (model PySem.Challenge.rw_ta0044_01.row.prog w) (callerA.deeper (envOfC nm sc L 143 (.ref 142))) (call (.ref 131) [.str x t]) Q E s := by
  have X0 := Hide.mk X
  revert X; k_fill; intro X
  refine wpAny_call ?_
  refine' enterS (binds := [("reply", .str x t)]) ?k1a ?k2a ?k3a ?k4a ?k5a ?kAa ?kFa ?kKa ?k6a ?k7a ?k8a ?k9a ?kBa ?_ ?c2a ?c3a ?c4a ?c5a
  (case kAa => exact rfl); (case kFa => exact rfl); (case kKa => exact hsc); (case k1a => exact B); (case k2a => exact F); (case k3a => exact X); (case k4a => exact N); (case k5a => exact T); (case k6a => k_is); (case k7a => k_is); (case k8a => show lawDp < recursionLimit; decide); (case k9a => first | exact rfl | exact BindsTo.of_eq rfl | (refine' kp_binds ?kxa ?kea; (case kxa => k_in); (case kea => exact fun _ => rfl))); (case c5a => decide); (case kBa => exact locs rfl); (case c2a => exact rfl); (case c3a => exact rfl); (case c4a => exact rfl)
  intro g1 L1 h1 FG1 F1 N1 B1 X1 T1
  have T0 := Hide.mk T
  have F0 := Hide.mk F
  have B0 := Hide.mk B
  have FG1h := Hide.mk FG1
  clear F N T B FG1
  (try dsimp only)
  (try k_fold)
  k_steps
  refine Stop.out ?_
  refine wpAny_call ?_
  refine' code_def (binds := [("resp", .str x t)]) ?k1b ?k2b ?k3b ?k4b ?k5b ?kAb ?kFb ?kKb ?k6b ?k7b ?k8b ?k9b ?kBb ?_ ?c2b ?c3b ?c4b ?c5b
  (case kAb => exact rfl); (case kFb => exact rfl); (case kKb => exact rfl); (case k1b => exact B1); (case k2b => exact F1); (case k3b => exact X1); (case k4b => exact N1); (case k5b => exact T1); (case k6b => k_is); (case k7b => k_is); (case k8b => show lawDp + 1 < recursionLimit; decide); (case k9b => first | exact rfl | exact BindsTo.of_eq rfl | (refine' kp_binds ?kxb ?keb; (case kxb => k_in); (case keb => exact fun _ => rfl))); (case c5b => decide); (case kBb => exact locs rfl); (case c2b => exact rfl); (case c3b => exact rfl); (case c4b => exact rfl)
  intro g2 L2 h2 FG2 F2 N2 B2 X2 T2
  have FG2h := Hide.mk FG2
  have B1h := Hide.mk B1
  have F1h := Hide.mk F1
  clear F1 N1 FG2
  (try dsimp only)
  (try k_fold)
  k_steps
  rename Fr g1 _ _ _ => Ff
  rename News g1 _ _ _ => Nf
  have ⟨Fo, No⟩ := backS FG1h.out KtsTurn.refl Ff Nf
  exact hret _ _ _ Fo No
end
end Mine
end -- U18
section -- V2
open PySem PySem.W PySem.Calls PyProof.Rows
set_option Elab.async false
set_option maxRecDepth 100000
set_option maxHeartbeats 1000000
namespace Mine
open LCg
/-! a comprehension over a tuple that was just made -/
abbrev tupO (its : Array Value) (k : Nat) : Obj := { cls := .type "tuple", data := .seq its k }
section
variable {prog : Program} {w : World} {A : Around} {E : Value → Shared → Prop} {s : Shared} {h₀ : Heap} {L : Addr} {m : Str → Option Value} {env : Env}
def TupSrc (prog : Program) (w : World) (A : Around) (h₀ : Heap) (L : Addr) (m : Str → Option Value) (env : Env) (elt : Expr) (x : Str) (scope : Scope) (cl : List (Str × Addr)) (Q : Value → Shared → Prop) (xv : Value) (s₁ : Shared) : Prop :=
  ∃ ax its k news, xv = .ref ax ∧ A.handled = none ∧ Fr h₀ L s₁.heap m ∧ News h₀ L s₁.heap news ∧ (ax, tupO its k) ∈ news ∧ its.size ≤ sizeLine ∧
    ∀ g, CompRest prog w A h₀ L m env elt x scope cl { s₁ with heap := g } (fun nw => (ax, tupO its k) ∈ nw) (fun i v => its[i]? = some v) (FinE h₀ L m { s₁ with heap := g } Q) its.size 0 [] news
theorem tuple_st {ax I : Addr} {its : Array Value} {k : Nat} : ∀ i (h h' : Heap) (o : Obj) (nw : List (Addr × Obj)), (h.IsTupleIter I ax i ∧ h.IsTuple ax its) → h.get? I = some o → h'.get? I = some o → (∀ b o, h₀.get? b = some o → h'.get? b = some o) → News h₀ L h' nw → (ax, tupO its k) ∈ nw → (h'.IsTupleIter I ax i ∧ h'.IsTuple ax its) :=
  fun i h h' o nw st e e' _ N S => ⟨by obtain ⟨o', q, r⟩ := st.1; rw [e] at q; cases q; exact ⟨o, e', r⟩, ⟨_, (N _ S).1, rfl, _, rfl⟩⟩
theorem ListComp_tup {elt iter : Expr} {x : Str} {px : Pos} {scope : Scope} {cl : List (Str × Addr)} {pos : Pos} {Q : Value → Shared → Prop} (_F₀ : Fr h₀ L s.heap m)
    (hclos : closureFor scope env = pure cl) (hcell : ∀ y ∈ scope.names, y.2 ≠ .cell) (hkind : scope.kind = .function)
    (hnames : ∀ y ∈ scope.names, y.2 = .local → scope.names.lookup y.1 = some .local) (hx : scope.names.lookup x = some .local)
    (h : wpAny (model prog w) A (eval iter env) (TupSrc prog w A h₀ L m env elt x scope cl Q) E s)
    (hs : ∀ x, foldedSetIterable iter env x = pure x := by intro _; rfl) :
    wpAny (model prog w) A (eval (.ListComp elt [⟨.Name x px, iter, [], 0⟩] scope pos) env) Q E s := by
  rw [eval_ListComp]
  refine wpAny_comprehension_free (use := none) rfl hs hclos hkind hnames (wpAny_mono h (fun xv s₁ h₁ => ?_) fun _ _ e => e)
  obtain ⟨ax, its, k, news, rfl, hh, F, N, hm, hsz, R⟩ := h₁
  have hg := (N _ hm).1
  have hlt : ax < s₁.heap.objs.size := Heap.lt_size hg
  refine wpAny_pyIter_tuple ⟨_, hg, rfl, _, rfl⟩ ?_
  refine block_U (Walks.tuple hh s₁.heap.objs.size ax (Nat.ne_of_lt hlt) its) hsz (fun i h st => by obtain ⟨o, e, _⟩ := st.1; exact ⟨o, e⟩) tuple_st hcell hkind hx ⟨⟨_, Heap.get?_push_size _ rfl, rfl, rfl⟩, ⟨_, Heap.get?_push_of_some _ hg, rfl, _, rfl⟩⟩ (fun b hb => ?_)
    (F.keeps fun _ _ e => Heap.get?_push_of_some _ e) (N.grown fun _ _ e => Heap.get?_push_of_some _ e) (Nat.ne_of_lt F.ns.lt) (next_is_new F) (fun p hp => Nat.ne_of_lt (Heap.lt_size (N p hp).1)) hm (R _) ?_
  · show b < (s₁.heap.push _).objs.size
    rw [Heap.size_push]
    rcases List.mem_cons.mp hb with rfl | hb
    · exact Nat.lt_succ_self _
    · rw [List.mem_singleton.mp hb]; exact Nat.lt_succ_of_lt hlt
  · intro D C h tk m' ys news' F' N' o1 hn hC₀ hD₀ hCL hDL hCD offC fin
    refine ⟨m', hn, fun h'' hs'' => fin D h'' tk (F'.change hs'' hCL hC₀) (fun p hp => ?_) o1⟩
    refine ⟨hs''.extBut _ _ ?_ (N' p hp).1, (N' p hp).2⟩
    rcases List.mem_cons.mp hp with rfl | hp
    · exact Ne.symm hCD
    · exact offC p hp
end
end Mine
end -- V2
section -- U19
open PySem PySem.W PySem.Calls PyProof.Rows
set_option Elab.async false
set_option maxRecDepth 100000
set_option maxHeartbeats 1000000
namespace Mine
/-- what the readings gave -/
inductive ResAt (led : List (Addr × Obj)) : List Value → List PyData → Prop
  | nil : ResAt led [] []
  | list {a x y t u k vs ds} : (a, listOf #[.str x t, .str y u] k) ∈ led → ResAt led vs ds → ResAt led (.ref a :: vs) (.list [.str x, .str y] :: ds)
  | str {x t vs ds} : ResAt led vs ds → ResAt led (.str x t :: vs) (.str x :: ds)
theorem ResAt.more {a b : List (Addr × Obj)} (h : ∀ p ∈ a, p ∈ b) {vs : List Value} {ds : List PyData} (x : ResAt a vs ds) : ResAt b vs ds := by
  induction x with
  | nil => exact .nil
  | list h1 _ ih => exact .list (h _ h1) ih
  | str _ ih => exact .str ih
theorem ResAt.snocL {led : List (Addr × Obj)} {d : Addr} {x y : Str} {t u : Tok} {k : Nat} {vs : List Value} {ds : List PyData} (hd : (d, listOf #[.str x t, .str y u] k) ∈ led) (h : ResAt led vs ds) : ResAt led (vs ++ [.ref d]) (ds ++ [.list [.str x, .str y]]) := by
  induction h with
  | nil => exact .list hd .nil
  | list h1 _ ih => exact .list h1 ih
  | str _ ih => exact .str ih
theorem ResAt.snocS {led : List (Addr × Obj)} {x : Str} {t : Tok} {vs : List Value} {ds : List PyData} (h : ResAt led vs ds) : ResAt led (vs ++ [.str x t]) (ds ++ [.str x]) := by
  induction h with
  | nil => exact .str .nil
  | list h1 _ ih => exact .list h1 ih
  | str _ ih => exact .str ih
theorem ResAt.reads {h₀ h : Heap} {L : Addr} {led : List (Addr × Obj)} (N : News h₀ L h led) {vs : List Value} {ds : List PyData} (x : ResAt led vs ds) : ∃ as, ReadsAll h vs ds as := by
  induction x with
  | nil => exact ⟨[], .nil⟩
  | list h1 _ ih =>
    obtain ⟨as, r⟩ := ih
    exact ⟨_, .cons (reads_list_at (N _ h1).1 rfl rfl (.cons (.str _ _) (.cons (.str _ _) .nil))) r⟩
  | str _ ih =>
    obtain ⟨as, r⟩ := ih
    exact ⟨_, .cons (.str _ _) r⟩
theorem take3 {l : List Nat} (h : 3 ≤ l.length) : Txt.slice (⟨l.toArray⟩ : Str) none (some 3) = ⟨(l.take 3).toArray⟩ := slice_take (k := 3) h
theorem slice35 {l : List Nat} (h : 5 ≤ l.length) : Txt.slice (⟨l.toArray⟩ : Str) (some 3) (some 5) = ⟨((l.drop 3).take 2).toArray⟩ := by
  have e := eq_of_beq (slice_closes (x := (⟨l.toArray⟩ : Str)) (i := 3) (j := 5) ⟨by omega, by omega, by show (5 : Int) ≤ (l.length : Int); omega⟩)
  rw [e]
  rfl
def x250 (wl : List Nat) : Str := Str.ofString "250 \"" ++ (⟨wl.toArray⟩ : Str)
def x257m (wl : List Nat) : Str := Str.ofString "257-\"" ++ (⟨wl.toArray⟩ : Str)
def x257x (wl : List Nat) : Str := Str.ofString "257 x" ++ (⟨wl.toArray⟩ : Str)
theorem x250_eq (wl : List Nat) : x250 wl = ⟨(50 :: 53 :: 48 :: 32 :: 34 :: wl).toArray⟩ := by
  rw [x250, show Str.ofString "250 \"" = ⟨[50, 53, 48, 32, 34].toArray⟩ by decide, str_app]; rfl
theorem x257m_eq (wl : List Nat) : x257m wl = ⟨(50 :: 53 :: 55 :: 45 :: 34 :: wl).toArray⟩ := by
  rw [x257m, show Str.ofString "257-\"" = ⟨[50, 53, 55, 45, 34].toArray⟩ by decide, str_app]; rfl
theorem x257x_eq (wl : List Nat) : x257x wl = ⟨(50 :: 53 :: 55 :: 32 :: 120 :: wl).toArray⟩ := by
  rw [x257x, show Str.ofString "257 x" = ⟨[50, 53, 55, 32, 120].toArray⟩ by decide, str_app]; rfl
theorem len_toArray (l : List Nat) : (⟨l.toArray⟩ : Str).length = l.length := List.size_toArray
theorem x250_a (wl : List Nat) : (Txt.slice (x250 wl) none (some 3) != Str.ofString "257") = true := by rw [x250_eq, take3 (by simp)]; rfl
theorem x25_a : (Txt.slice (Str.ofString "25") none (some 3) != Str.ofString "257") = true := by decide +kernel
theorem x257m_a (wl : List Nat) : (Txt.slice (x257m wl) none (some 3) != Str.ofString "257") = false := by rw [x257m_eq, take3 (by simp)]; rfl
theorem x257m_b (wl : List Nat) : (Txt.slice (x257m wl) (some 3) (some 5) != Str.ofString " \"") = true := by rw [x257m_eq, slice35 (by simp)]; rfl
theorem x257x_a (wl : List Nat) : (Txt.slice (x257x wl) none (some 3) != Str.ofString "257") = false := by rw [x257x_eq, take3 (by simp)]; rfl
theorem x257x_b (wl : List Nat) : (Txt.slice (x257x wl) (some 3) (some 5) != Str.ofString " \"") = true := by rw [x257x_eq, slice35 (by simp)]; rfl
theorem x257_a : (Txt.slice (Str.ofString "257") none (some 3) != Str.ofString "257") = false := by decide +kernel
theorem x257_b : (Txt.slice (Str.ofString "257") (some 3) (some 5) != Str.ofString " \"") = true := by decide +kernel
def dueD (wl : List Nat) : List PyData := [.list [.str "refused", .str (x250 wl)], .list [.str "refused", .str "25"], .str "", .str "", .str ""]
theorem x250_ok {wl : List Nat} (h : ∀ z ∈ wl, z < 128) : PyData.strOk (x250 wl) = true := by
  rw [x250_eq, PyData.strOk]
  simp only [List.all_toArray, List.all_cons, List.all_eq_true, decide_eq_true_eq, Bool.and_eq_true]
  refine ⟨by decide, by decide, by decide, by decide, by decide, fun z hz => ?_⟩
  have := h z hz
  omega
theorem due_shaped {wl : List Nat} (h : ∀ z ∈ wl, z < 128) : SeqAt.shaped (.list (dueD wl)) = true := by
  have h0 := x250_ok h
  have h1 : PyData.strOk (Str.ofString "refused") = true := by decide +kernel
  have h2 : PyData.strOk (Str.ofString "25") = true := by decide +kernel
  have h3 : PyData.strOk (Str.ofString "") = true := by decide +kernel
  simp [SeqAt.shaped, dueD, PyData.canLay0, PyData.canLayAll0, PyData.depth, PyData.depthAll, h0, h1, h2, h3]
theorem due_eqv {wl : List Nat} : PyData.eqv (.list (dueD wl)) (.list (dueD wl)) = true := by simp [PyData.eqv, PyData.eqvAll, dueD]
/-- one reading: its text, and what is due -/
def Due (x : Str) (d : PyData) : Prop := x.length ≤ 60 ∧ (((Txt.slice x none (some 3) != Str.ofString "257") = true ∧ d = .list [.str "refused", .str x]) ∨ ((Txt.slice x none (some 3) != Str.ofString "257") = false ∧ (Txt.slice x (some 3) (some 5) != Str.ofString " \"") = true ∧ d = .str ""))
section
local macro_rules | `(tactic| walk_at "call ref") => `(tactic| refine Stop.mk ?_)
local macro_rules | `(tactic| walk_at "eval ListComp") => `(tactic| refine Stop.mk ?_)
local macro_rules | `(tactic| walk_at "compareOp Eq ref ref") => `(tactic| refine Stop.mk ?_)
theorem clear_39 : True := by
  first
  | (row_walk; done)
  | trivial
theorem read28 (w : World) (p : Program) (loose : List Str) (mean : ExcName → Option Value) (mg mb : Str → Option Value)
  {oc0 : Value} {od0 : Option Addr} {osl0 : Array (Option Value)} {nm0 q0 : Str} {ps0 : Arguments} {s0 s1 s2 s3 s4 s5 s6 s7 s8 s9 s10 s11 s12 s13 s14 s15 s16 s17 s18 s19 s20 s21 s22 s23 s24 s25 s26 s27 s28 s29 : Stmt} {rs : List Stmt} {sc : Scope} {dV0 kV0 doc0 pm0 : Value} {an0 : Option Addr} {cdv0 ct0 : Value}
  (ho : (pre.heap_1 w.params).lookup 143 = some ⟨oc0, od0, .func (fnOf nm0 q0 ps0 (s0 :: s1 :: s2 :: s3 :: s4 :: s5 :: s6 :: s7 :: s8 :: s9 :: s10 :: s11 :: s12 :: s13 :: s14 :: s15 :: s16 :: s17 :: s18 :: s19 :: s20 :: s21 :: s22 :: s23 :: s24 :: s25 :: s26 :: s27 :: s28 :: s29 :: rs) sc dV0 kV0 doc0 pm0 an0 cdv0 ct0), osl0⟩)
  (rs' : List Stmt) (h₀ : Heap) (L : Addr) (m : Str → Option Value) (s : Shared) (Q : Flow → Shared → Prop)
  (B : Below callerA h₀ [] h₀) (F : Fr h₀ L s.heap m) (X : (pre.heap_1 w.params).In h₀) (T : Top p loose mean mg mb h₀)
  (wl : List Nat) (tw : Tok) (zw : wl.length ≤ 20) (hwok : ∀ z ∈ wl, z < 128) (news : List (Addr × Obj)) (N : News h₀ L s.heap news)
  (m1 : m "written" = some (.str ⟨wl.toArray⟩ tw))
  (hret : ∀ (h' : Heap) (tk : Nat) (m' : Str → Option Value), Fr h₀ L h' m' → News h₀ L h' news → Q (.ret (.bool true)) { s with heap := h', toks := tk }) :
  wpAny (model PySem.Challenge.rw_ta0044_01.row.prog w) (callerA.deeper (envOfC nm0 sc L 143 (.ref 142))) (execs (s28 :: s29 :: rs') (envOfC nm0 sc L 143 (.ref 142))) Q (fun _ _ => False) s := by
  have e_sc := congrArg (fun o => scopeOf o) ho
  conv at e_sc => lhs; whnf
  conv at e_sc => rhs; whnf
  have e_s28 := congrArg (fun o => stmtAt (bodyOf o) 28) ho
  conv at e_s28 => lhs; whnf
  conv at e_s28 => rhs; whnf
  have e_s29 := congrArg (fun o => stmtAt (bodyOf o) 29) ho
  conv at e_s29 => lhs; whnf
  conv at e_s29 => rhs; whnf
  clear ho
  subst e_sc
  subst e_s28
  subst e_s29
  have eM : kstB m [("written", .str ⟨wl.toArray⟩ tw)] = m := funext fun z => kstB_eq (by simp [m1]) fun _ => rfl
  have F' : Fr h₀ L s.heap (kstB m [("written", .str ⟨wl.toArray⟩ tw)]) := by rw [eM]; exact F
  clear F
  have zw2 : (⟨wl.toArray⟩ : Str).length ≤ 20 := zw
  have X0 := Hide.mk X
  revert X; k_fill; intro X
  (try k_fold)
  k_steps
  refine Stop.out ?_
  rename Fr _ _ _ _ => F1
  rename News _ _ _ _ => N1
  rename_i t0 k0 hlen la hA lA lb1 hB lB ldue hC lC hD
  refine ListComp_tup F1 (by with_unfolding_all rfl) (by decide) (by rfl) (by decide) (by rfl) ?_
  (try dsimp only)
  k_steps
  rename Fr _ _ _ _ => F2
  rename News _ _ _ _ => N2
  refine ⟨_, _, 0, _, rfl, by rfl, F2, N2, .head _, by rw [sizeLine_eq]; show 5 ≤ _; decide, fun g => ?_⟩
  show LCg.CompRest _ _ _ _ _ _ _ _ _ _ _ _ _ _ _ 5 0 [] _
  generalize hled : (_ :: _ : List (Addr × Obj)) = led at N2 ⊢
  have mdue : (ldue, listOf #[.ref la, .ref lb1, .str (Str.ofString "") (k0 + 1 + 1), .str (Str.ofString "") (k0 + 1 + 1 + 1), .str (Str.ofString "") (k0 + 1 + 1 + 1 + 1)] 0) ∈ led := by rw [← hled]; exact .tail _ (.head _)
  have mlb : (lb1, listOf #[.str (Str.ofString "refused") k0, .str (Str.ofString "25") (k0 + 1)] 0) ∈ led := by rw [← hled]; exact .tail _ (.tail _ (.head _))
  have mla : (la, listOf #[.str (Str.ofString "refused") s.toks, .str (x250 wl) t0] 0) ∈ led := by rw [← hled]; exact .tail _ (.tail _ (.tail _ (.head _)))
  have mnw : ∀ q ∈ news, q ∈ led := fun q hq => by rw [← hled]; exact .tail _ (.tail _ (.tail _ (.tail _ hq)))
  refine comp_inv 5 (fun i ys nw => (∀ q ∈ led, q ∈ nw) ∧ ResAt nw ys ((dueD wl).take i)) ?turn ?done 5 0 [] _ (by omega) ⟨fun _ h => h, .nil⟩
  case turn =>
    clear F2 N2
    rintro i ys nw v I oI C oC D m₂ h tk E' hi ⟨hsub, hres⟩ hv hC hx F N off ne
    have ⟨x, t, d, ev, ed, hdue⟩ : ∃ x t d, v = .str x t ∧ (dueD wl).take (i + 1) = (dueD wl).take i ++ [d] ∧ Due x d := by
      match i, hi with
      | 0, _ => exact ⟨x250 wl, _, _, (Option.some.inj hv).symm, rfl, by rw [x250_eq, len_toArray]; simp only [List.length_cons]; omega, .inl ⟨x250_a wl, rfl⟩⟩
      | 1, _ => exact ⟨Str.ofString "25", _, _, (Option.some.inj hv).symm, rfl, by decide, .inl ⟨x25_a, rfl⟩⟩
      | 2, _ => exact ⟨x257m wl, _, _, (Option.some.inj hv).symm, rfl, by rw [x257m_eq, len_toArray]; simp only [List.length_cons]; omega, .inr ⟨x257m_a wl, x257m_b wl, rfl⟩⟩
      | 3, _ => exact ⟨x257x wl, _, _, (Option.some.inj hv).symm, rfl, by rw [x257x_eq, len_toArray]; simp only [List.length_cons]; omega, .inr ⟨x257x_a wl, x257x_b wl, rfl⟩⟩
      | 4, _ => exact ⟨Str.ofString "257", _, _, (Option.some.inj hv).symm, rfl, by decide, .inr ⟨x257_a, x257_b, rfl⟩⟩
    subst ev
    have off0 := Hide.mk off
    k_steps
    rename Fr _ _ _ _ => F3
    rename News _ _ _ _ => N3
    obtain ⟨zx, hd1⟩ := hdue
    rcases hd1 with ⟨ha, rfl⟩ | ⟨ha, hb, rfl⟩
    · refine Stop.out (readRef w p loose mean mg mb _ _ rfl h₀ L _ _ ⟨_, _, _, _, _⟩ _ _ x t zx B F3 X0.out N3 T ha ?_)
      intro l u v2 h9 tk9 F4 N4 lne
      generalize hol : (listOf #[.str (Str.ofString "refused") u, .str x v2] 0 : Obj) = ol at N4
      (try dsimp only)
      k_steps
      rename Fr _ _ _ _ => F9
      rename News _ _ _ _ => N9
      refine LCg.CompEnd.intro F9 N9 ((l, ol) :: nw) ?sub ⟨⟨(lne (I, oI) (.head _)).symm, (lne (C, oC) (.tail _ (.head _))).symm, (lne (D, LCg.lst ys) (.tail _ (.tail _ (.head _)))).symm⟩, off0.out⟩ (.tail _ (hsub _ (by rw [← hled]; exact .head _))) ⟨fun q hq => .tail _ (hsub q hq), ?_⟩
      case sub =>
        intro q hq
        simp only [List.mem_cons] at hq ⊢
        rcases hq with h | h | h | h | h <;> simp [h]
      rw [ed, ← hol]
      exact ResAt.snocL (.head _) (hres.more fun q hq => .tail _ hq)
    · refine Stop.out (readNil w p loose mean mg mb _ _ rfl h₀ L _ _ ⟨_, _, _, _, _⟩ _ _ x t zx B F3 X0.out N3 T ha hb ?_)
      intro v2 h9 tk9 F4 N4
      (try dsimp only)
      k_steps
      rename Fr _ _ _ _ => F9
      rename News _ _ _ _ => N9
      refine LCg.CompEnd.intro F9 N9 nw (fun q hq => hq) off0.out (hsub _ (by rw [← hled]; exact .head _)) ⟨hsub, ?_⟩
      rw [ed]
      exact ResAt.snocS hres
  case done =>
    rintro ys nw ⟨hsub, hres⟩
    clear F2 N2
    k_steps
    rename Fr _ _ _ _ => F5
    rename News _ _ _ _ => N5
    obtain ⟨as, ra⟩ := ResAt.reads N5 (hres.more fun q hq => .tail _ hq)
    have nin {q : Addr × Obj} (hq : q ∈ led) := N5 q (.tail _ (hsub q hq))
    have r1 : Reads _ (.ref _) (.list (dueD wl)) _ := reads_list_at (N5 _ (.head _)).1 rfl rfl (by rw [List.toList_toArray]; exact ra)
    have r2 : Reads _ (.ref ldue) (.list (dueD wl)) _ := reads_list_at (nin mdue).1 rfl rfl (.cons (reads_list_at (nin mla).1 rfl rfl (.cons (.str _ _) (.cons (.str _ _) .nil))) (.cons (reads_list_at (nin mlb).1 rfl rfl (.cons (.str _ _) (.cons (.str _ _) .nil))) (.cons (.str _ _) (.cons (.str _ _) (.cons (.str _ _) .nil)))))
    refine Stop.out (eq_dataH r1 r2 (due_shaped hwok) (due_shaped hwok) (by ke_room) ?_)
    rw [due_eqv]
    (try dsimp only)
    k_steps
    exact hret _ _ _ F5 (News.sub N5 fun q hq => .tail _ (hsub q (mnw q hq)))
end
end Mine
end -- U19
section -- J1
open PySem PySem.W PySem.Calls PyProof.Rows
set_option Elab.async false
set_option maxRecDepth 100000
set_option maxHeartbeats 1000000
namespace Mine
theorem Seg.tab {P : Addr} {pos : Pos} {qual : Str} {seg : List (Addr × Obj)} (h : Seg P pos qual seg) : ∃ ps, (P, tabObj ps) ∈ seg := by
  rcases h with rfl | ⟨_, _, _, _, rfl, _⟩
  · exact ⟨_, .head _⟩
  · exact ⟨_, .tail _ (.head _)⟩
theorem filt_cut {P : Int → Prop} [DecidablePred P] : ∀ (l : List Int) (c : Nat), c ≤ l.length → (∀ i : Nat, i < l.length → (P (l.getD i 0) ↔ i < c)) → (l.filter fun x => decide (P x)).length = c
  | [], c, h, _ => by simp at h; simp [h]
  | a :: t, c, h, H => by
    have h0 := H 0 (by simp)
    have ht : ∀ i : Nat, i < t.length → (P (t.getD i 0) ↔ i + 1 < c) := fun i hi => by
      have := H (i + 1) (by simpa using hi)
      simpa using this
    have ha : (a :: t).getD 0 0 = a := rfl
    rw [ha] at h0
    cases c with
    | zero =>
      have e := filt_cut (P := P) t 0 (Nat.zero_le _) fun i hi => by rw [ht i hi]; omega
      rw [List.filter_cons, if_neg (by simp; exact fun q => absurd (h0.mp q) (by omega))]
      exact e
    | succ c =>
      have e := filt_cut (P := P) t c (by simpa using h) fun i hi => by rw [ht i hi]; omega
      rw [List.filter_cons, if_pos (by simp; exact h0.mpr (by omega)), List.length_cons, e]
theorem Par.writ_small (c : Par) (k : Nat) : ∀ z ∈ c.writ k, z < 128 := by
  intro z hz
  unfold Par.writ at hz
  obtain ⟨y, hy, hz⟩ := List.mem_flatMap.mp hz
  unfold Par.name at hy
  obtain ⟨i, _, rfl⟩ := List.mem_map.mp hy
  have hs : c.sign i < 128 := by
    unfold Par.sign
    split
    · decide
    · unfold Par.letter
      have h : ((c.r / 5 ^ i) % 5).toNat < 5 := by omega
      generalize ((c.r / 5 ^ i) % 5).toNat = j at h
      match j, h with
      | 0, _ => decide
      | 1, _ => decide
      | 2, _ => decide
      | 3, _ => decide
      | 4, _ => decide
  unfold dbl at hz
  split at hz
  · simp at hz; omega
  · simp at hz; omega
theorem ne5 {L a : Nat} (h : a < L ∨ a = L + 7) : a ≠ L + 1 + 1 + 1 ∧ a ≠ L + 1 + 1 + 1 + 1 ∧ a ≠ L + 1 + 1 + 1 + 1 + 1 ∧ a ≠ L + 1 + 1 + 1 + 1 + 1 + 1 ∧ a ≠ L + 1 + 1 + 1 + 1 + 1 + 1 + 1 + 1 := by omega
theorem rest0_ne (L : Nat) (o7 : Obj) (l0 : 69 < L ∧ 62 < L ∧ 140 < L) : ∀ q ∈ ([(L + 1 + 1 + 1 + 1 + 1 + 1 + 1, o7), (69, tabObj #[]), (62, tabObj #[]), (140, tabObj #[])] : List (Nat × Obj)),
    q.1 ≠ L + 1 + 1 + 1 ∧ q.1 ≠ L + 1 + 1 + 1 + 1 ∧ q.1 ≠ L + 1 + 1 + 1 + 1 + 1 ∧ q.1 ≠ L + 1 + 1 + 1 + 1 + 1 + 1 ∧ q.1 ≠ L + 1 + 1 + 1 + 1 + 1 + 1 + 1 + 1 := by
  exact List.forall_mem_cons.mpr ⟨ne5 (.inr rfl), List.forall_mem_cons.mpr ⟨ne5 (.inl l0.1), List.forall_mem_cons.mpr ⟨ne5 (.inl l0.2.1), List.forall_mem_cons.mpr ⟨ne5 (.inl l0.2.2), fun q hq => nomatch hq⟩⟩⟩⟩
theorem lt58 {L lb : Nat} (h : L + 8 < lb) : L + 1 + 1 + 1 + 1 + 1 < lb := by omega
theorem ne4 {L a : Nat} (l0 : 69 < L ∧ 62 < L ∧ 140 < L) (h : L < a) (h' : L + 1 + 1 + 1 + 1 + 1 + 1 + 1 ≠ a) : a ≠ 62 ∧ a ≠ 69 ∧ a ≠ 140 ∧ a ≠ L + 1 + 1 + 1 + 1 + 1 + 1 + 1 := by omega
theorem ne4' {L a : Nat} (l0 : 69 < L ∧ 62 < L ∧ 140 < L) (h : L + 8 < a) : a ≠ 62 ∧ a ≠ 69 ∧ a ≠ 140 ∧ a ≠ L + 1 + 1 + 1 + 1 + 1 + 1 + 1 := by omega
theorem ltk (L k : Nat) : L < L + k + 1 := by omega
theorem nek {L k : Nat} (h : 7 ≠ k) : L + 1 + 1 + 1 + 1 + 1 + 1 + 1 ≠ L + k := by omega
theorem big_ne (L lb le lh lm ll k1 k2 lk D : Nat) (l0 : 69 < L ∧ 62 < L ∧ 140 < L) (h1 : L + 8 < lb) (h2 : lb < le) (h3 : le < lh) (h4 : lh < lm) (h5 : lm < ll) (h6 : lb < k1) (h7 : k1 < k2) (h8 : k2 < lk) (hD : D ≠ 62 ∧ D ≠ 69 ∧ D ≠ 140 ∧ D ≠ L + 1 + 1 + 1 + 1 + 1 + 1 + 1) :
    (∀ a ∈ [lk, k2, k1, le, lb, D, L + 1 + 1 + 1 + 1, ll, lm, lh, L + 1 + 1 + 1 + 1 + 1 + 1 + 1 + 1, L + 1 + 1 + 1 + 1 + 1 + 1, L + 1 + 1 + 1, L + 1 + 1 + 1 + 1 + 1], a ≠ 62 ∧ a ≠ 69 ∧ a ≠ 140 ∧ a ≠ L + 1 + 1 + 1 + 1 + 1 + 1 + 1) ∧ (L + 1 + 1 + 1 + 1 + 1 + 1 + 1 ≠ 62 ∧ L + 1 + 1 + 1 + 1 + 1 + 1 + 1 ≠ 69 ∧ L + 1 + 1 + 1 + 1 + 1 + 1 + 1 ≠ 140) := by
  have g1 := Nat.lt_trans h1 h2
  have g2 := Nat.lt_trans g1 h3
  have g3 := Nat.lt_trans g2 h4
  have g4 := Nat.lt_trans g3 h5
  have g5 := Nat.lt_trans h1 h6
  have g6 := Nat.lt_trans g5 h7
  have g7 := Nat.lt_trans g6 h8
  have z7 : L < L + 1 + 1 + 1 + 1 + 1 + 1 + 1 := ltk L 6
  have u (k : Nat) (h : 7 ≠ k + 1) := ne4 (a := L + (k + 1)) l0 (ltk L k) (nek h)
  refine ⟨List.forall_mem_cons.mpr ⟨ne4' l0 g7, List.forall_mem_cons.mpr ⟨ne4' l0 g6, List.forall_mem_cons.mpr ⟨ne4' l0 g5, List.forall_mem_cons.mpr ⟨ne4' l0 g1, List.forall_mem_cons.mpr ⟨ne4' l0 h1, List.forall_mem_cons.mpr ⟨hD, List.forall_mem_cons.mpr ⟨u 3 (by decide), List.forall_mem_cons.mpr ⟨ne4' l0 g4, List.forall_mem_cons.mpr ⟨ne4' l0 g3, List.forall_mem_cons.mpr ⟨ne4' l0 g2, List.forall_mem_cons.mpr ⟨u 7 (by decide), List.forall_mem_cons.mpr ⟨u 5 (by decide), List.forall_mem_cons.mpr ⟨u 2 (by decide), List.forall_mem_cons.mpr ⟨u 4 (by decide), fun q hq => nomatch hq⟩⟩⟩⟩⟩⟩⟩⟩⟩⟩⟩⟩⟩⟩, ?_⟩
  have w0 : 140 < L + 1 + 1 + 1 + 1 + 1 + 1 + 1 := Nat.lt_trans l0.2.2 z7
  clear hD h1 h2 h3 h4 h5 h6 h7 h8 g1 g2 g3 g4 g5 g6 g7 z7 l0 u
  omega
theorem rows_not {h₀ h : Heap} {L : Addr} {led its : List (Addr × Obj)} {vs : List Value} {ps : List (Int × Int)} {ts : Array Value} (N : News h₀ L h led) (ht : ((140 : Addr), tabObj ts) ∈ led) (hs : ∀ q ∈ its, q ∈ led) (R : RowsAt its vs ps) : RowsAt (its.filter fun q => q.1 != 140) vs ps := by
  induction R with
  | nil => exact .nil
  | @cons a x y t u k vs ps h1 _ ih =>
    refine .cons (List.mem_filter.mpr ⟨h1, ?_⟩) ih
    rcases Decidable.em (a = 140) with e | e
    · have g1 := (N _ (hs _ h1)).1
      have g2 := (N _ ht).1
      rw [e] at g1
      have := Option.some.inj (g1.symm.trans g2)
      have := congrArg Obj.data this
      cases this
    · simpa using e
theorem cd_ne {h₀ h : Heap} {L a : Addr} {led : List (Addr × Obj)} {ks : List Cd} {o : Obj} {v : Option Value} (N : News h₀ L h led) (hk : CdOk lamQ ks) (hs : ∀ q ∈ cdsL ks, q ∈ led) (ha : (a, o) ∈ led) (hd : o.data = .cell v) : ∀ q ∈ cdsL ks, q.1 ≠ a := by
  intro q hq e
  have g1 := (N _ (hs _ hq)).1
  have g2 := (N _ ha).1
  obtain ⟨k, hk1, rfl⟩ := cds_back hq
  obtain ⟨vs, t, h1, _⟩ := hk k hk1
  rw [e] at g1
  have e2 : k.o = o := Option.some.inj (g1.symm.trans g2)
  rw [e2, hd] at h1
  cases h1
theorem jp2 {d e8 e7 e6 e5 e4 e3 t1 t2 t3 : Addr × Obj} : ∀ q ∈ d :: e8 :: e6 :: e5 :: e4 :: e3 :: e7 :: t1 :: t2 :: t3 :: [], q ∈ d :: e8 :: e7 :: e6 :: e5 :: e4 :: e3 :: t1 :: t2 :: t3 :: [] := by
  exact List.forall_mem_cons.mpr ⟨.head _, List.forall_mem_cons.mpr ⟨.tail _ (.head _), List.forall_mem_cons.mpr ⟨.tail _ (.tail _ (.tail _ (.head _))), List.forall_mem_cons.mpr ⟨.tail _ (.tail _ (.tail _ (.tail _ (.head _)))), List.forall_mem_cons.mpr ⟨.tail _ (.tail _ (.tail _ (.tail _ (.tail _ (.head _))))), List.forall_mem_cons.mpr ⟨.tail _ (.tail _ (.tail _ (.tail _ (.tail _ (.tail _ (.head _)))))), List.forall_mem_cons.mpr ⟨.tail _ (.tail _ (.head _)), List.forall_mem_cons.mpr ⟨.tail _ (.tail _ (.tail _ (.tail _ (.tail _ (.tail _ (.tail _ (.head _))))))), List.forall_mem_cons.mpr ⟨.tail _ (.tail _ (.tail _ (.tail _ (.tail _ (.tail _ (.tail _ (.tail _ (.head _)))))))), List.forall_mem_cons.mpr ⟨.tail _ (.tail _ (.tail _ (.tail _ (.tail _ (.tail _ (.tail _ (.tail _ (.tail _ (.head _))))))))), fun q hq => nomatch hq⟩⟩⟩⟩⟩⟩⟩⟩⟩⟩
theorem jp3 {a1 a2 a3 a4 a5 d e8 e6 e5 e4 e3 : Addr × Obj} {r : List (Addr × Obj)} : ∀ q ∈ a1 :: a2 :: a3 :: a4 :: a5 :: e8 :: e6 :: e4 :: e3 :: d :: e5 :: r, q ∈ a1 :: a2 :: a3 :: a4 :: a5 :: d :: e8 :: e6 :: e5 :: e4 :: e3 :: r := by
  exact List.forall_mem_cons.mpr ⟨.head _, List.forall_mem_cons.mpr ⟨.tail _ (.head _), List.forall_mem_cons.mpr ⟨.tail _ (.tail _ (.head _)), List.forall_mem_cons.mpr ⟨.tail _ (.tail _ (.tail _ (.head _))), List.forall_mem_cons.mpr ⟨.tail _ (.tail _ (.tail _ (.tail _ (.head _)))), List.forall_mem_cons.mpr ⟨.tail _ (.tail _ (.tail _ (.tail _ (.tail _ (.tail _ (.head _)))))), List.forall_mem_cons.mpr ⟨.tail _ (.tail _ (.tail _ (.tail _ (.tail _ (.tail _ (.tail _ (.head _))))))), List.forall_mem_cons.mpr ⟨.tail _ (.tail _ (.tail _ (.tail _ (.tail _ (.tail _ (.tail _ (.tail _ (.tail _ (.head _))))))))), List.forall_mem_cons.mpr ⟨.tail _ (.tail _ (.tail _ (.tail _ (.tail _ (.tail _ (.tail _ (.tail _ (.tail _ (.tail _ (.head _)))))))))), List.forall_mem_cons.mpr ⟨.tail _ (.tail _ (.tail _ (.tail _ (.tail _ (.head _))))), List.forall_mem_cons.mpr ⟨.tail _ (.tail _ (.tail _ (.tail _ (.tail _ (.tail _ (.tail _ (.tail _ (.head _)))))))), fun q hq => .tail _ (.tail _ (.tail _ (.tail _ (.tail _ (.tail _ (.tail _ (.tail _ (.tail _ (.tail _ (.tail _ (hq)))))))))))⟩⟩⟩⟩⟩⟩⟩⟩⟩⟩⟩
theorem jp4 {a1 a2 a3 a4 a5 d e8 e6 e5 e4 e3 : Addr × Obj} {r : List (Addr × Obj)} : ∀ q ∈ a4 :: a5 :: d :: e4 :: a1 :: a2 :: a3 :: e8 :: e6 :: e3 :: e5 :: r, q ∈ a1 :: a2 :: a3 :: a4 :: a5 :: e8 :: e6 :: e4 :: e3 :: d :: e5 :: r := by
  exact List.forall_mem_cons.mpr ⟨.tail _ (.tail _ (.tail _ (.head _))), List.forall_mem_cons.mpr ⟨.tail _ (.tail _ (.tail _ (.tail _ (.head _)))), List.forall_mem_cons.mpr ⟨.tail _ (.tail _ (.tail _ (.tail _ (.tail _ (.tail _ (.tail _ (.tail _ (.tail _ (.head _))))))))), List.forall_mem_cons.mpr ⟨.tail _ (.tail _ (.tail _ (.tail _ (.tail _ (.tail _ (.tail _ (.head _))))))), List.forall_mem_cons.mpr ⟨.head _, List.forall_mem_cons.mpr ⟨.tail _ (.head _), List.forall_mem_cons.mpr ⟨.tail _ (.tail _ (.head _)), List.forall_mem_cons.mpr ⟨.tail _ (.tail _ (.tail _ (.tail _ (.tail _ (.head _))))), List.forall_mem_cons.mpr ⟨.tail _ (.tail _ (.tail _ (.tail _ (.tail _ (.tail _ (.head _)))))), List.forall_mem_cons.mpr ⟨.tail _ (.tail _ (.tail _ (.tail _ (.tail _ (.tail _ (.tail _ (.tail _ (.head _)))))))), List.forall_mem_cons.mpr ⟨.tail _ (.tail _ (.tail _ (.tail _ (.tail _ (.tail _ (.tail _ (.tail _ (.tail _ (.tail _ (.head _)))))))))), fun q hq => .tail _ (.tail _ (.tail _ (.tail _ (.tail _ (.tail _ (.tail _ (.tail _ (.tail _ (.tail _ (.tail _ (hq)))))))))))⟩⟩⟩⟩⟩⟩⟩⟩⟩⟩⟩
theorem jp6 {x y t : Addr × Obj} {cd a b r : List (Addr × Obj)} : ∀ q ∈ t :: (cd ++ (a ++ (b ++ (x :: y :: r)))), q ∈ x :: y :: t :: (cd ++ (a ++ (b ++ r))) := by
  intro q hq
  simp only [List.mem_append, List.mem_cons] at hq ⊢
  rcases hq with h | h | h | h | h | h | h <;> simp [h]
theorem jp5 {b1 b2 b3 a4 a5 d e4 a1 a2 a3 e8 e6 e3 e5 e7 t1 t2 t3 : Addr × Obj} : ∀ q ∈ [t2] ++ ([t1] ++ (t3 :: e7 :: b1 :: b2 :: b3 :: a4 :: a5 :: d :: e4 :: a1 :: a2 :: a3 :: e8 :: e6 :: e3 :: e5 :: [])), q ∈ b1 :: b2 :: b3 :: a4 :: a5 :: d :: e4 :: a1 :: a2 :: a3 :: e8 :: e6 :: e3 :: e5 :: e7 :: t1 :: t2 :: t3 :: [] := by
  exact List.forall_mem_cons.mpr ⟨.tail _ (.tail _ (.tail _ (.tail _ (.tail _ (.tail _ (.tail _ (.tail _ (.tail _ (.tail _ (.tail _ (.tail _ (.tail _ (.tail _ (.tail _ (.tail _ (.head _)))))))))))))))), List.forall_mem_cons.mpr ⟨.tail _ (.tail _ (.tail _ (.tail _ (.tail _ (.tail _ (.tail _ (.tail _ (.tail _ (.tail _ (.tail _ (.tail _ (.tail _ (.tail _ (.tail _ (.head _))))))))))))))), List.forall_mem_cons.mpr ⟨.tail _ (.tail _ (.tail _ (.tail _ (.tail _ (.tail _ (.tail _ (.tail _ (.tail _ (.tail _ (.tail _ (.tail _ (.tail _ (.tail _ (.tail _ (.tail _ (.tail _ (.head _))))))))))))))))), List.forall_mem_cons.mpr ⟨.tail _ (.tail _ (.tail _ (.tail _ (.tail _ (.tail _ (.tail _ (.tail _ (.tail _ (.tail _ (.tail _ (.tail _ (.tail _ (.tail _ (.head _)))))))))))))), List.forall_mem_cons.mpr ⟨.head _, List.forall_mem_cons.mpr ⟨.tail _ (.head _), List.forall_mem_cons.mpr ⟨.tail _ (.tail _ (.head _)), List.forall_mem_cons.mpr ⟨.tail _ (.tail _ (.tail _ (.head _))), List.forall_mem_cons.mpr ⟨.tail _ (.tail _ (.tail _ (.tail _ (.head _)))), List.forall_mem_cons.mpr ⟨.tail _ (.tail _ (.tail _ (.tail _ (.tail _ (.head _))))), List.forall_mem_cons.mpr ⟨.tail _ (.tail _ (.tail _ (.tail _ (.tail _ (.tail _ (.head _)))))), List.forall_mem_cons.mpr ⟨.tail _ (.tail _ (.tail _ (.tail _ (.tail _ (.tail _ (.tail _ (.head _))))))), List.forall_mem_cons.mpr ⟨.tail _ (.tail _ (.tail _ (.tail _ (.tail _ (.tail _ (.tail _ (.tail _ (.head _)))))))), List.forall_mem_cons.mpr ⟨.tail _ (.tail _ (.tail _ (.tail _ (.tail _ (.tail _ (.tail _ (.tail _ (.tail _ (.head _))))))))), List.forall_mem_cons.mpr ⟨.tail _ (.tail _ (.tail _ (.tail _ (.tail _ (.tail _ (.tail _ (.tail _ (.tail _ (.tail _ (.head _)))))))))), List.forall_mem_cons.mpr ⟨.tail _ (.tail _ (.tail _ (.tail _ (.tail _ (.tail _ (.tail _ (.tail _ (.tail _ (.tail _ (.tail _ (.head _))))))))))), List.forall_mem_cons.mpr ⟨.tail _ (.tail _ (.tail _ (.tail _ (.tail _ (.tail _ (.tail _ (.tail _ (.tail _ (.tail _ (.tail _ (.tail _ (.head _)))))))))))), List.forall_mem_cons.mpr ⟨.tail _ (.tail _ (.tail _ (.tail _ (.tail _ (.tail _ (.tail _ (.tail _ (.tail _ (.tail _ (.tail _ (.tail _ (.tail _ (.head _))))))))))))), fun q hq => nomatch hq⟩⟩⟩⟩⟩⟩⟩⟩⟩⟩⟩⟩⟩⟩⟩⟩⟩⟩
theorem lawAll (w : World) (p : Program) (loose : List Str) (mean : ExcName → Option Value) (mg mb : Str → Option Value)
  {oc0 : Value} {od0 : Option Addr} {osl0 : Array (Option Value)} {nm0 q0 : Str} {ps0 : Arguments} {s0 s1 s2 s3 s4 s5 s6 s7 s8 s9 s10 s11 s12 s13 s14 s15 s16 s17 s18 s19 s20 s21 s24 s27 s28 s29 : Stmt} {rs : List Stmt} {sc : Scope} {dV0 kV0 doc0 pm0 : Value} {an0 : Option Addr} {cdv0 ct0 : Value} {f22 f23 f23b f26 : Expr} {t22 t25 a22 a23 : List Expr} {w23 w26 : List Keyword} {k22 k23 : Option Str} {q22 r22 i22 j22 q23 r23 i23 j23 i25 j25 i26 r26 j26 : Pos} {PA PB PC PD PE PF : Arguments} {BA BB BC BD BE BF : Expr} {SA SB SC SD SE SF : Scope} {gA gB gC gD gE gF : Pos}
  (ho : (pre.heap_1 w.params).lookup 143 = some ⟨oc0, od0, .func (fnOf nm0 q0 ps0 (s0 :: s1 :: s2 :: s3 :: s4 :: s5 :: s6 :: s7 :: s8 :: s9 :: s10 :: s11 :: s12 :: s13 :: s14 :: s15 :: s16 :: s17 :: s18 :: s19 :: s20 :: s21 :: .Assign t22 (.List [.Call f22 a22 [⟨k22, .Lambda PA BA SA gA, q22⟩] r22] i22) j22 :: .Expr (.Call f23 [.Call f23b a23 [⟨k23, .Lambda PB BB SB gB, q23⟩] r23] w23 i23) j23 :: s24 :: .Assign t25 (.List [.Lambda PC BC SC gC, .Lambda PD BD SD gD] i25) j25 :: .Expr (.Call f26 [.List [.Lambda PE BE SE gE, .Lambda PF BF SF gF] i26] w26 r26) j26 :: s27 :: s28 :: s29 :: rs) sc dV0 kV0 doc0 pm0 an0 cdv0 ct0), osl0⟩)
  (h₀ : Heap) (L : Addr) (m : Str → Option Value) (s : Shared) (Q : Flow → Shared → Prop)
  (o1 o2 o3 o4 o5 o6 o7 o8 : Obj) (l : Addr) (vs : List Value) (ns : List Int)
  (B : Below callerA h₀ [] h₀) (F : Fr h₀ L s.heap m) (X : (pre.heap_1 w.params).In h₀)
  (N : News h₀ L s.heap [(L + 1 + 1 + 1 + 1 + 1 + 1 + 1 + 1, o8), (L + 1 + 1 + 1 + 1 + 1 + 1 + 1, o7), (L + 1 + 1 + 1 + 1 + 1 + 1, o6), (L + 1 + 1 + 1 + 1 + 1, o5), (L + 1 + 1 + 1 + 1, o4), (L + 1 + 1 + 1, o3), (L + 1 + 1, o2), (L + 1, o1), (69, tabObj #[]), (62, tabObj #[]), (140, tabObj #[])])
  (l0 : @LT.lt Nat _ 69 L ∧ @LT.lt Nat _ 62 L ∧ @LT.lt Nat _ 140 L)
  (T : Top p loose mean mg mb h₀) (C62 : CodeHd h₀ 66 62) (C69 : CodeHd h₀ 73 69) (C140 : CodeHd h₀ 142 140)
  (d1 : o1.data = .cell none) (d2 : o2.data = .cell none) (d3 : o3.data = .cell none) (d4 : o4.data = .cell none) (d5 : o5.data = .cell none) (d6 : o6.data = .cell none) (d7 : o7.data = .cell none) (d8 : o8.data = .cell none)
  (hsc : m "script" = some (.ref l)) (hl : h₀.IsList l vs.toArray) (hI : IntsAre vs ns) (hL : (PyData.list (List.map PyData.int ns)).layable0 = true) (hcond : ¬ (63 : Int) < ns.length)
  (hret : ∀ (ts1 ts2 ts3 : Array Value) (news' : List (Addr × Obj)) (h' : Heap) (tk : Nat) (m' : Str → Option Value), ((69 : Addr), tabObj ts1) ∈ news' → ((62 : Addr), tabObj ts2) ∈ news' → ((140 : Addr), tabObj ts3) ∈ news' → Fr h₀ L h' m' → News h₀ L h' news' → Q (.ret (.bool true)) { s with heap := h', toks := tk }) :
  wpAny (model PySem.Challenge.rw_ta0044_01.row.prog w) (callerA.deeper (envOfC nm0 sc L 143 (.ref 142))) (execs (s0 :: s1 :: s2 :: s3 :: s4 :: s5 :: s6 :: s7 :: s8 :: s9 :: s10 :: s11 :: s12 :: s13 :: s14 :: s15 :: s16 :: s17 :: s18 :: s19 :: s20 :: s21 :: .Assign t22 (.List [.Call f22 a22 [⟨k22, .Lambda PA BA SA gA, q22⟩] r22] i22) j22 :: .Expr (.Call f23 [.Call f23b a23 [⟨k23, .Lambda PB BB SB gB, q23⟩] r23] w23 i23) j23 :: s24 :: .Assign t25 (.List [.Lambda PC BC SC gC, .Lambda PD BD SD gD] i25) j25 :: .Expr (.Call f26 [.List [.Lambda PE BE SE gE, .Lambda PF BF SF gF] i26] w26 r26) j26 :: s27 :: s28 :: s29 :: rs) (envOfC nm0 sc L 143 (.ref 142))) Q (fun _ _ => False) s := by
  refine init w p loose mean mg mb (ho := ho) _ h₀ L m s Q _ o1 o2 o3 o4 o5 o6 o7 o8 l vs ns B F X N l0 T C62 C69 C140 d1 d2 d3 d4 d5 d6 d7 d8 hsc hl hI hL hcond ?_
  intro D ys cs h1 tk1 hcs hlen hoff F1 N1
  have om := off1_mem hoff
  have hr0 := rest0_ne L o7 l0
  refine init2 w p loose mean mg mb (ho := ho) _ h₀ L _ _ Q _ o3 o4 o5 o6 o8 none none none none none D ys cs ((L + 1 + 1 + 1 + 1 + 1 + 1 + 1, o7) :: (69, tabObj #[]) :: (62, tabObj #[]) :: (140, tabObj #[]) :: []) B F1 X (News.sub N1 jp2) ⟨om (L + 1 + 1 + 1 + 1 + 1 + 1 + 1 + 1, o8) (.head _), om (L + 1 + 1 + 1 + 1 + 1 + 1, o6) (.tail _ (.tail _ (.head _))), om (L + 1 + 1 + 1 + 1 + 1, o5) (.tail _ (.tail _ (.tail _ (.head _)))), om (L + 1 + 1 + 1 + 1, o4) (.tail _ (.tail _ (.tail _ (.tail _ (.head _))))), om (L + 1 + 1 + 1, o3) (.tail _ (.tail _ (.tail _ (.tail _ (.tail _ (.head _)))))), trivial⟩ (fun q hq => (hr0 q hq).1) (fun q hq => (hr0 q hq).2.1) (fun q hq => (hr0 q hq).2.2.1) (fun q hq => (hr0 q hq).2.2.2.1) (fun q hq => (hr0 q hq).2.2.2.2) T hcs hlen d3 d4 d5 d6 d8 (by rfl) ?_
  intro W P f n r4 tW tP tf tn tr tp ta tb lb le lh lm ll o3' o4' o5' o6' o8' h2 tk2 m2 hW1 hWh hP0 hPW hf0 hfW hn4 hn10 hr4 e8 e6 e5 e4 e3 hDlb hLlb hAlt hlbe hleh hlhm hlml F2 mc mcount mlet mpail mname mwrit mends mmarks mleft N2
  obtain ⟨n, rfl⟩ : ∃ k : Nat, n = k := ⟨n.toNat, by omega⟩
  obtain ⟨c, rfl, rfl, rfl, rfl⟩ : ∃ c : Par, W = c.W ∧ P = c.P ∧ f = c.f ∧ r4 = c.r := ⟨⟨W, P, f, r4⟩, rfl, rfl, rfl, rfl⟩
  have hc : c.Ok := ⟨hW1, hP0, hPW, hf0, hfW, hr4⟩
  have hn : n ≤ 10 := by omega
  refine loop11 w p loose mean mg mb (ho := ho) _ h₀ L _ _ Q c hc n hn tW tP tn tr tp ta tb o3' o4' o6' o8' lb le lh lm ll ((D, LCg.lst ys) :: (L + 1 + 1 + 1 + 1 + 1, o5') :: (L + 1 + 1 + 1 + 1 + 1 + 1 + 1, o7) :: (69, tabObj #[]) :: (62, tabObj #[]) :: (140, tabObj #[]) :: []) (.ref D) B F2 X (News.sub N2 jp3) hLlb ⟨hDlb, lt58 hLlb, hAlt⟩ hlbe hleh hlhm hlml T e3 e4 e6 e8 mcount mlet mends mmarks mleft mpail mname mwrit mc ?_
  intro bv ev hv mv lv nb ne nh nm nl ta' tb' h3 tk3 m3 ib ie ih im il F3 c3count c3ends c3marks c3left c3name c3writ c3cells N3
  have zb : bv.length ≤ 10 := by rw [ib.length, c.begs_len]; exact hn
  have ze : ev.length ≤ 10 := by rw [ie.length, c.ends_len]; exact hn
  refine cut12 w p loose mean mg mb (ho := ho) _ h₀ L _ _ Q n hn tn o4' lb le D bv ev ys nb ne _ _ cs ((ll, listOf lv.toArray nl) :: (lm, listOf mv.toArray nm) :: (lh, listOf hv.toArray nh) :: (L + 1 + 1 + 1 + 1 + 1 + 1 + 1 + 1, o8') :: (L + 1 + 1 + 1 + 1 + 1 + 1, o6') :: (L + 1 + 1 + 1, o3') :: (L + 1 + 1 + 1 + 1 + 1, o5') :: (L + 1 + 1 + 1 + 1 + 1 + 1 + 1, o7) :: (69, tabObj #[]) :: (62, tabObj #[]) :: (140, tabObj #[]) :: []) B F3 X (News.sub N3 jp4) T ib ie hcs hlen zb ze e4 c3count c3ends c3cells ?_
  intro lo hi tl th lk k1 k2 c1 c2 h4 tk4 m4 l0' l1' l2' mlow mhigh mkept m4eq hk1lt hk12 hk2k F4 N4
  have hbk1 : @LT.lt Nat _ lb k1 := hk1lt.2.1
  have ⟨hQne, h7ne⟩ := big_ne L lb le lh lm ll k1 k2 lk D l0 hLlb hlbe hleh hlhm hlml hbk1 hk12 hk2k ⟨(om (62, tabObj #[]) (.tail _ (.tail _ (.tail _ (.tail _ (.tail _ (.tail _ (.tail _ (.head _))))))))).symm, (om (69, tabObj #[]) (.tail _ (.tail _ (.tail _ (.tail _ (.tail _ (.tail _ (.head _)))))))).symm, (om (140, tabObj #[]) (.tail _ (.tail _ (.tail _ (.tail _ (.tail _ (.tail _ (.tail _ (.tail _ (.head _)))))))))).symm, (om (L + 1 + 1 + 1 + 1 + 1 + 1 + 1, o7) (.tail _ (.head _))).symm⟩
  obtain ⟨restQ, hrQ⟩ : ∃ r, r = ((lk, listOf #[.ref k1, .ref k2] 0) :: (k2, listOf ev.toArray c2) :: (k1, listOf bv.toArray c1) :: (le, listOf ev.toArray ne) :: (lb, listOf bv.toArray nb) :: (D, LCg.lst ys) :: (L + 1 + 1 + 1 + 1, o4') :: (ll, listOf lv.toArray nl) :: (lm, listOf mv.toArray nm) :: (lh, listOf hv.toArray nh) :: (L + 1 + 1 + 1 + 1 + 1 + 1 + 1 + 1, o8') :: (L + 1 + 1 + 1 + 1 + 1 + 1, o6') :: (L + 1 + 1 + 1, o3') :: (L + 1 + 1 + 1 + 1 + 1, o5') :: [] : List (Addr × Obj)) := ⟨_, rfl⟩
  have nQ : ∀ q ∈ restQ, q.1 ≠ 62 ∧ q.1 ≠ 69 ∧ q.1 ≠ 140 ∧ q.1 ≠ L + 1 + 1 + 1 + 1 + 1 + 1 + 1 := fun q hq => by
    rw [hrQ] at hq
    exact hQne q.1 (List.mem_map_of_mem (f := Prod.fst) hq)
  have N5 : News h₀ L h4 ([(62, tabObj #[])] ++ ([(69, tabObj #[])] ++ ((140, tabObj #[]) :: (L + 1 + 1 + 1 + 1 + 1 + 1 + 1, o7) :: restQ))) := by
    rw [hrQ]
    exact News.sub N4 jp5
  have i3 : (L + 1 + 1 + 1, o3') ∈ restQ := by rw [hrQ]; exact .tail _ (.tail _ (.tail _ (.tail _ (.tail _ (.tail _ (.tail _ (.tail _ (.tail _ (.tail _ (.tail _ (.tail _ (.head _))))))))))))
  have i4 : (L + 1 + 1 + 1 + 1, o4') ∈ restQ := by rw [hrQ]; exact .tail _ (.tail _ (.tail _ (.tail _ (.tail _ (.tail _ (.head _))))))
  have i5 : (L + 1 + 1 + 1 + 1 + 1, o5') ∈ restQ := by rw [hrQ]; exact .tail _ (.tail _ (.tail _ (.tail _ (.tail _ (.tail _ (.tail _ (.tail _ (.tail _ (.tail _ (.tail _ (.tail _ (.tail _ (.head _)))))))))))))
  have i6 : (L + 1 + 1 + 1 + 1 + 1 + 1, o6') ∈ restQ := by rw [hrQ]; exact .tail _ (.tail _ (.tail _ (.tail _ (.tail _ (.tail _ (.tail _ (.tail _ (.tail _ (.tail _ (.tail _ (.head _)))))))))))
  have i8 : (L + 1 + 1 + 1 + 1 + 1 + 1 + 1 + 1, o8') ∈ restQ := by rw [hrQ]; exact .tail _ (.tail _ (.tail _ (.tail _ (.tail _ (.tail _ (.tail _ (.tail _ (.tail _ (.tail _ (.head _))))))))))
  have ilb : (lb, listOf bv.toArray nb) ∈ restQ := by rw [hrQ]; exact .tail _ (.tail _ (.tail _ (.tail _ (.head _))))
  have ile : (le, listOf ev.toArray ne) ∈ restQ := by rw [hrQ]; exact .tail _ (.tail _ (.tail _ (.head _)))
  have ilh : (lh, listOf hv.toArray nh) ∈ restQ := by rw [hrQ]; exact .tail _ (.tail _ (.tail _ (.tail _ (.tail _ (.tail _ (.tail _ (.tail _ (.tail _ (.head _)))))))))
  have ilm : (lm, listOf mv.toArray nm) ∈ restQ := by rw [hrQ]; exact .tail _ (.tail _ (.tail _ (.tail _ (.tail _ (.tail _ (.tail _ (.tail _ (.head _))))))))
  have ill : (ll, listOf lv.toArray nl) ∈ restQ := by rw [hrQ]; exact .tail _ (.tail _ (.tail _ (.tail _ (.tail _ (.tail _ (.tail _ (.head _)))))))
  have ilk : (lk, listOf #[.ref k1, .ref k2] 0) ∈ restQ := by rw [hrQ]; exact .head _
  have ik1 : (k1, listOf bv.toArray c1) ∈ restQ := by rw [hrQ]; exact .tail _ (.tail _ (.head _))
  have ik2 : (k2, listOf ev.toArray c2) ∈ restQ := by rw [hrQ]; exact .tail _ (.head _)
  have iD : (D, LCg.lst ys) ∈ restQ := by rw [hrQ]; exact .tail _ (.tail _ (.tail _ (.tail _ (.tail _ (.head _)))))
  clear hrQ hQne N1 N2 N3 N4
  have up : ∀ {q : Addr × Obj}, q ∈ restQ → q ∈ (140, tabObj #[]) :: (L + 1 + 1 + 1 + 1 + 1 + 1 + 1, o7) :: restQ := fun h => .tail _ (.tail _ h)
  have hS5 : Segs [(62, tabObj #[])] [(69, tabObj #[])] ((140, tabObj #[]) :: (L + 1 + 1 + 1 + 1 + 1 + 1 + 1, o7) :: restQ) := by
    refine ⟨.inl rfl, .inl rfl, fun r hr q hq => ?_, fun r hr q hq => ?_⟩
    · rw [List.mem_singleton.mp hr]
      rcases List.mem_append.mp hq with hq | hq
      · rw [List.mem_singleton.mp hq]; decide
      · rcases List.mem_cons.mp hq with hq | hq
        · rw [hq]; decide
        · rcases List.mem_cons.mp hq with hq | hq
          · rw [hq]; exact h7ne.1
          · exact (nQ q hq).1
    · rw [List.mem_singleton.mp hr]
      rcases List.mem_cons.mp hq with hq | hq
      · rw [hq]; decide
      · rcases List.mem_cons.mp hq with hq | hq
        · rw [hq]; exact h7ne.2.1
        · exact (nQ q hq).2.1
  have k4 : ∀ z : Str, z ≠ "high" → z ≠ "low" → z ≠ "kept" → m4 z = m3 z := m4eq
  refine places w p loose mean mg mb (ho := ho) _ h₀ L _ _ Q c hc hWh n hn lo hi l0' l1' l2' tW tP tf tn tl th ta' tb' o4' o5' o6' o8' lb le lm ll D lk bv ev nb ne [(62, tabObj #[])] [(69, tabObj #[])] ((140, tabObj #[]) :: (L + 1 + 1 + 1 + 1 + 1 + 1 + 1, o7) :: restQ) B F4 X N5 (up i4) (up i5) (up i6) (up i8) (up ilb) (up ile) C62 C69 C140 hS5 ib ie T e4 e5 e6 e8 ((k4 _ (by decide) (by decide) (by decide)).trans c3count) ((k4 _ (by decide) (by decide) (by decide)).trans c3ends) ((k4 _ (by decide) (by decide) (by decide)).trans c3marks) ((k4 _ (by decide) (by decide) (by decide)).trans c3left) ((k4 _ (by decide) (by decide) (by decide)).trans c3name) ((k4 _ (by decide) (by decide) (by decide)).trans c3writ) ((k4 _ (by decide) (by decide) (by decide)).trans c3cells) mlow mhigh mkept ?_
  intro a6 b6 h6 tk6 m6 hS6 F6 c6count c6ends c6marks c6left c6writ c6cells c6kept N6
  refine cmp16 w p loose mean mg mb (ho := ho) _ h₀ L _ _ Q c hc hWh n hn tW tP tf tn o3' o4' o5' o6' o8' lb lh bv hv nb nh a6 b6 ((140, tabObj #[]) :: (L + 1 + 1 + 1 + 1 + 1 + 1 + 1, o7) :: restQ) B F6 X N6 (up i3) (up i4) (up i5) (up i6) (up i8) (up ilb) (up ilh) C62 C69 C140 hS6 ib ih T e3 e4 e5 e6 e8 c6count ?_
  intro a7 b7 h7 tk7 hS7 F7 N7
  refine row17 w p loose mean mg mb (ho := ho) _ h₀ L _ _ Q c n hn tn o4' lb bv nb a7 b7 ((140, tabObj #[]) :: (L + 1 + 1 + 1 + 1 + 1 + 1 + 1, o7) :: restQ) B F7 X N7 (up i4) (up ilb) hS7 ib T e4 c6count ?_
  intro lr ys8 its h8 tk8 m8 hS8 hne8 hrow8 F8 mrow8 m8eq N8
  clear N5 N6 N7 F1 F2 F3 F4 F6 F7
  have m140 : ((140 : Addr), tabObj #[]) ∈ its ++ ((140, tabObj #[]) :: (L + 1 + 1 + 1 + 1 + 1 + 1 + 1, o7) :: restQ) := List.mem_append_right _ (.head _)
  have hrow8' := rows_not N8 (List.mem_append_right _ (List.mem_append_right _ (.tail _ m140))) (fun q hq => List.mem_append_right _ (List.mem_append_right _ (.tail _ (List.mem_append_left _ hq)))) hrow8
  have hits : ∀ q ∈ its.filter (fun q => q.1 != 140), q ∈ its ∧ q.1 ≠ 140 := fun q hq => ⟨(List.mem_filter.mp hq).1, by simpa using (List.mem_filter.mp hq).2⟩
  generalize its.filter (fun q => q.1 != 140) = itz at hrow8' hits
  have hP140 : ∀ q ∈ ((L + 1 + 1 + 1 + 1 + 1 + 1 + 1, o7) :: restQ), q.1 ≠ 140 := fun q hq => (List.mem_cons.mp hq).elim (fun e => by rw [e]; exact h7ne.2.2) fun hq => (nQ q hq).2.2.1
  have hd₀ : StN.Ok lr ((L + 1 + 1 + 1 + 1 + 1 + 1 + 1, o7) :: restQ) ⟨ys8, ys8.length, (List.range n).map (fun k : Nat => (-((k : Int) + c.quo k), (k : Int))), [], a7, b7, itz⟩ := by
    refine ⟨(fun k hk => nomatch hk), fun q hq => ?_, fun q hq => ?_, hS8.sub fun q hq => ?_, hrow8'⟩
    · rcases List.mem_cons.mp (show q ∈ (lr, listOf ys8.toArray ys8.length) :: (a7 ++ (b7 ++ (itz ++ ((L + 1 + 1 + 1 + 1 + 1 + 1 + 1, o7) :: restQ)))) from hq) with hq | hq
      · rw [hq]; exact (hne8 _ m140).symm
      · rcases List.mem_append.mp hq with hq | hq
        · exact (hS8.a62 q hq (140, tabObj #[]) (List.mem_append_right _ (.tail _ m140))).symm
        · rcases List.mem_append.mp hq with hq | hq
          · exact (hS8.a69 q hq (140, tabObj #[]) (.tail _ m140)).symm
          · rcases List.mem_append.mp hq with hq | hq
            · exact (hits q hq).2
            · exact hP140 q hq
    · rcases List.mem_cons.mp hq with hq | hq
      · rw [hq]; exact hne8 _ m140
      · rcases List.mem_append.mp (show q ∈ a7 ++ (b7 ++ (itz ++ ((L + 1 + 1 + 1 + 1 + 1 + 1 + 1, o7) :: restQ))) from hq) with hq | hq
        · exact (hS8.a62 q hq (lr, listOf ys8.toArray ys8.length) (List.mem_append_right _ (.head _))).symm
        · rcases List.mem_append.mp hq with hq | hq
          · exact (hS8.a69 q hq (lr, listOf ys8.toArray ys8.length) (.head _)).symm
          · rcases List.mem_append.mp hq with hq | hq
            · exact hne8 q (List.mem_append_left _ (hits q hq).1)
            · exact hne8 q (List.mem_append_right _ (.tail _ hq))
    · rcases List.mem_cons.mp hq with hq | hq
      · rw [hq]; exact .tail _ m140
      · rcases List.mem_cons.mp (show q ∈ (lr, listOf ys8.toArray ys8.length) :: (itz ++ ((L + 1 + 1 + 1 + 1 + 1 + 1 + 1, o7) :: restQ)) from hq) with hq | hq
        · rw [hq]; exact .head _
        · rcases List.mem_append.mp hq with hq | hq
          · exact .tail _ (List.mem_append_left _ (hits q hq).1)
          · exact .tail _ (List.mem_append_right _ (.tail _ hq))
  have N8' : News h₀ L h8 (StN.led lr ((L + 1 + 1 + 1 + 1 + 1 + 1 + 1, o7) :: restQ) ⟨ys8, ys8.length, (List.range n).map (fun k : Nat => (-((k : Int) + c.quo k), (k : Int))), [], a7, b7, itz⟩) := News.sub N8 fun q hq => by
    rcases List.mem_cons.mp hq with hq | hq
    · rw [hq]; exact List.mem_append_right _ (List.mem_append_right _ (.tail _ m140))
    · rcases List.mem_cons.mp (show q ∈ (lr, listOf ys8.toArray ys8.length) :: (a7 ++ (b7 ++ (itz ++ ((L + 1 + 1 + 1 + 1 + 1 + 1 + 1, o7) :: restQ)))) from hq) with hq | hq
      · rw [hq]; exact List.mem_append_right _ (List.mem_append_right _ (.head _))
      · rcases List.mem_append.mp hq with hq | hq
        · exact List.mem_append_left _ hq
        · rcases List.mem_append.mp hq with hq | hq
          · exact List.mem_append_right _ (List.mem_append_left _ hq)
          · rcases List.mem_append.mp hq with hq | hq
            · exact List.mem_append_right _ (List.mem_append_right _ (.tail _ (List.mem_append_left _ (hits q hq).1)))
            · exact List.mem_append_right _ (List.mem_append_right _ (.tail _ (List.mem_append_right _ (.tail _ hq))))
  refine nloop w p loose mean mg mb (ho := ho) _ h₀ L _ _ Q c hc hWh n hn tW tP tf tn tb' o5' o6' o8' le lm ll lk lr D mv lv nm nl _ ((L + 1 + 1 + 1 + 1 + 1 + 1 + 1, o7) :: restQ) hd₀ (hc.row0 n) B F8 X N8' (.tail _ i5) (.tail _ i6) (.tail _ i8) (.tail _ ilm) (.tail _ ill) im il C62 C69 C140 T e5 e6 e8 ((m8eq _ (by decide)).trans c6count) ((m8eq _ (by decide)).trans c6ends) ((m8eq _ (by decide)).trans c6marks) ((m8eq _ (by decide)).trans c6left) ((m8eq _ (by decide)).trans c6writ) ((m8eq _ (by decide)).trans c6cells) ((m8eq _ (by decide)).trans c6kept) mrow8 ?_
  intro d h9 tk9 m9 hd9 hr9 F9 c9count c9ends c9marks c9left c9writ c9cells c9kept c9row N9
  clear N8 N8' hd₀ F8
  have hq : c.quo n = ((c.marks n).length : Nat) := by rw [← hc.marks_len n, Par.marks, List.length_map]
  have hwl := hc.writ_len n
  have hql := hc.quo_le n
  have zw : (c.writ n).length ≤ 20 := by omega
  have ledP : ∀ {q : Addr × Obj}, q ∈ ((L + 1 + 1 + 1 + 1 + 1 + 1 + 1, o7) :: restQ) → q ∈ d.led lr ((L + 1 + 1 + 1 + 1 + 1 + 1 + 1, o7) :: restQ) := fun hq => .tail _ (List.mem_append_right _ (.tail _ (List.mem_append_right _ (List.mem_append_right _ (List.mem_append_right _ hq)))))
  refine cmp19 w p loose mean mg mb (ho := ho) _ h₀ L _ _ Q B F9 X T (c.writ n) tb' lr d.vs d.nn d.ps _ N9 (.tail _ (List.mem_append_right _ (.head _))) (hd9.row.more fun q hq => .tail _ (List.mem_append_right _ (.tail _ (List.mem_append_right _ (List.mem_append_right _ (List.mem_append_left _ hq)))))) (hc.row_end hr9 hq) (by rw [hr9.len]; omega) zw c9row c9writ ?_
  intro h10 tk10 F10 N10
  have N11in : News h₀ L h10 ((L + 1 + 1 + 1 + 1 + 1 + 1 + 1, o7) :: tabE d.ks :: (cdsL d.ks ++ (d.a ++ (d.b ++ restQ)))) := News.sub N10 fun q hq => by
    rcases List.mem_cons.mp hq with hq | hq
    · rw [hq]; exact ledP (.head _)
    · rcases List.mem_cons.mp hq with hq | hq
      · rw [hq]; exact .head _
      · rcases List.mem_append.mp hq with hq | hq
        · exact .tail _ (List.mem_append_left _ hq)
        · rcases List.mem_append.mp hq with hq | hq
          · exact .tail _ (List.mem_append_right _ (.tail _ (List.mem_append_left _ hq)))
          · rcases List.mem_append.mp hq with hq | hq
            · exact .tail _ (List.mem_append_right _ (.tail _ (List.mem_append_right _ (List.mem_append_left _ hq))))
            · exact ledP (.tail _ hq)
  have m7R : (L + 1 + 1 + 1 + 1 + 1 + 1 + 1, o7) ∈ d.R lr ((L + 1 + 1 + 1 + 1 + 1 + 1 + 1, o7) :: restQ) := .tail _ (List.mem_append_right _ (.tail _ (List.mem_append_right _ (.head _))))
  have hr7 : ∀ q ∈ tabE d.ks :: (cdsL d.ks ++ (d.a ++ (d.b ++ restQ))), q.1 ≠ L + 1 + 1 + 1 + 1 + 1 + 1 + 1 := fun q hq => by
    rcases List.mem_cons.mp hq with hq | hq
    · rw [hq]; exact h7ne.2.2.symm
    · rcases List.mem_append.mp hq with hq | hq
      · exact cd_ne N10 hd9.ks (fun q hq => .tail _ (List.mem_append_left _ hq)) (ledP (.head _)) d7 q hq
      · rcases List.mem_append.mp hq with hq | hq
        · exact (hd9.seg.a62 q hq _ (List.mem_append_right _ m7R)).symm
        · rcases List.mem_append.mp hq with hq | hq
          · exact (hd9.seg.a69 q hq _ m7R).symm
          · exact (nQ q hq).2.2.2
  refine srch20 w p loose mean mg mb (ho := ho) _ h₀ L _ _ Q B F10 X T n hn tn tb' (c.writ n) zw D ys cs hcs hlen o7 none d7 _ N11in hr7 (.tail _ (List.mem_append_right _ (List.mem_append_right _ (List.mem_append_right _ iD)))) c9count c9writ c9cells ?_
  intro sv ts ln nv cn o7' h11 tk11 m11 s0' s1' e7 inv l7' lalt F11 mnum m11eq N11
  clear N9 N10 N11in
  have g11 : Lg d.ks d.a d.b ((ln, listOf nv.toArray cn) :: (L + 1 + 1 + 1 + 1 + 1 + 1 + 1, o7') :: restQ) := by
    refine ⟨hd9.ks, fun q hq => ?_, hd9.seg.by fun q hq => ?_⟩
    · rcases List.mem_append.mp hq with hq | hq
      · exact hd9.h140 q (List.mem_append_left _ hq)
      · rcases List.mem_append.mp hq with hq | hq
        · exact hd9.h140 q (List.mem_append_right _ (.tail _ (List.mem_append_left _ hq)))
        · rcases List.mem_append.mp hq with hq | hq
          · exact hd9.h140 q (List.mem_append_right _ (.tail _ (List.mem_append_right _ (List.mem_append_left _ hq))))
          · rcases List.mem_cons.mp hq with hq | hq
            · rw [hq]; exact (Nat.ne_of_lt lalt.1).symm
            · rcases List.mem_cons.mp hq with hq | hq
              · rw [hq]; exact h7ne.2.2
              · exact (nQ q hq).2.2.1
    · rcases List.mem_cons.mp hq with hq | hq
      · exact .inl ⟨_, by rw [hq]; exact .head _⟩
      · rcases List.mem_append.mp hq with hq | hq
        · exact .inl ⟨q.2, .tail _ (List.mem_append_left _ hq)⟩
        · rcases List.mem_cons.mp hq with hq | hq
          · refine .inr fun p hp => ?_
            rw [hq]
            refine allLt_mem lalt p (.tail _ (List.mem_append_right _ ?_))
            rcases List.mem_append.mp hp with hp | hp
            · exact List.mem_append_left _ hp
            · exact List.mem_append_right _ (List.mem_append_left _ hp)
          · rcases List.mem_cons.mp hq with hq | hq
            · exact .inl ⟨o7, by rw [hq]; exact m7R⟩
            · exact .inl ⟨q.2, .tail _ (List.mem_append_right _ (.tail _ (List.mem_append_right _ (.tail _ hq))))⟩
  have N12in : News h₀ L h11 (lgL d.ks d.a d.b ((ln, listOf nv.toArray cn) :: (L + 1 + 1 + 1 + 1 + 1 + 1 + 1, o7') :: restQ)) := News.sub N11 jp6
  obtain ⟨cb, hcb, _, cutb⟩ := hc.cut_begs n sv s0' (by omega)
  obtain ⟨ce, hce, _, cute⟩ := hc.cut_ends n sv s0' (by omega)
  have inR : ∀ {q : Addr × Obj}, q ∈ restQ → q ∈ ((ln, listOf nv.toArray cn) :: (L + 1 + 1 + 1 + 1 + 1 + 1 + 1, o7') :: restQ) := fun hq => .tail _ (.tail _ hq)
  refine srch22 w p loose mean mg mb (ho := ho) _ h₀ L _ _ Q c hc hWh n hn sv cb ce hcb hce cutb cute tW tP tf ts o5' o6' o7' o8' ln nv cn d.ks d.a d.b ((ln, listOf nv.toArray cn) :: (L + 1 + 1 + 1 + 1 + 1 + 1 + 1, o7') :: restQ) g11 B F11 X T N12in (inR i5) (inR i6) (.tail _ (.head _)) (inR i8) (.head _) inv C62 C69 C140 e5 e6 e7 e8 mnum ?_
  intro ks12 a12 b12 lf u v kf h12 tk12 m12 g12 lf12 F12 mfound m12eq N12
  clear N11 N12in
  have eb : ((c.begs n).filter fun x => decide (x < sv)).length = cb := filt_cut (P := fun x => x < sv) _ cb (by rw [c.begs_len]; exact hcb) cutb
  have ee : ((c.ends n).filter fun x => decide (x ≤ sv)).length = ce := filt_cut (P := fun x => x ≤ sv) _ ce (by rw [c.ends_len]; exact hce) (fun i hi => by rw [← Int.not_lt]; exact cute i hi)
  have zbn : (c.begs n).length ≤ 10 := by rw [c.begs_len]; exact hn
  have zen : (c.ends n).length ≤ 10 := by rw [c.ends_len]; exact hn
  have m12old : ∀ z : Str, z ≠ "found" → z ≠ "numbers" → m12 z = m9 z := fun z z1 z2 => (m12eq z z1).trans (m11eq z z2)
  refine cmp24 w p loose mean mg mb (ho := ho) _ h₀ L _ _ Q B F12 X T (c.begs n) (c.ends n) zbn zen sv ts o4' o7' lb le lf bv ev nb ne kf u v _ N12 (lgL_mem (.tail _ (inR i4))) (lgL_mem (.tail _ (.tail _ (.head _)))) (lgL_mem (.tail _ (inR ilb))) (lgL_mem (.tail _ (inR ile))) ib ie (by rw [eb, ee]; exact lgL_mem (.head _)) e4 e7 mfound ((m12old _ (by decide) (by decide)).trans c9ends) ?_
  intro h13 tk13 F13 N13
  have inO : ∀ {q : Addr × Obj}, q ∈ ((ln, listOf nv.toArray cn) :: (L + 1 + 1 + 1 + 1 + 1 + 1 + 1, o7') :: restQ) → q ∈ a12 ++ (b12 ++ ((lf, listOf #[.int (cb : Int) u, .int (ce : Int) v] kf) :: ((ln, listOf nv.toArray cn) :: (L + 1 + 1 + 1 + 1 + 1 + 1 + 1, o7') :: restQ))) := fun hq => List.mem_append_right _ (List.mem_append_right _ (.tail _ hq))
  refine deeds25 w p loose mean mg mb (ho := ho) _ h₀ L _ _ Q sv ts o4' o7' lb ks12 _ g12.cds g12.h140 B F13 X T N13 (inO (inR i4)) (inO (.tail _ (.head _))) C140 e4 e7 ?_
  intro f1 f2 f3 f4 ld kd news' h14 tk14 m14 hlow hld hO htab F14 mdeeds m14eq N14
  refine cmp27 w p loose mean mg mb (ho := ho) _ h₀ L _ _ Q B F14 X T (c.begs n) (c.ends n) zbn zen o4' lb le lk k1 k2 ld f1 f2 f3 f4 bv ev nb ne c1 c2 kd news' N14 hlow hld (hO _ (inO (inR i4))) (hO _ (inO (inR ilb))) (hO _ (inO (inR ile))) (hO _ (inO (inR ilk))) (hO _ (inO (inR ik1))) (hO _ (inO (inR ik2))) ib ie e4 mdeeds ((m14eq _ (by decide)).trans ((m12old _ (by decide) (by decide)).trans c9ends)) ((m14eq _ (by decide)).trans ((m12old _ (by decide) (by decide)).trans c9kept)) ?_
  intro h15 tk15 F15 N15
  refine read28 w p loose mean mg mb (ho := ho) _ h₀ L _ _ Q B F15 X T (c.writ n) tb' zw (c.writ_small n) news' N15 ((m14eq _ (by decide)).trans ((m12old _ (by decide) (by decide)).trans c9writ)) ?_
  intro h16 tk16 m16 F16 N16
  obtain ⟨ts3, ht3⟩ := htab
  obtain ⟨ts1, ht1⟩ := g12.seg.s69.tab
  obtain ⟨ts2, ht2⟩ := g12.seg.s62.tab
  exact hret ts1 ts2 ts3 news' _ _ _ (hO _ (List.mem_append_right _ (List.mem_append_left _ ht1))) (hO _ (List.mem_append_left _ ht2)) ht3 F16 N16
end Mine
end -- J1
section -- J2
open PySem PySem.W PySem.Calls PyProof.Rows
set_option Elab.async false
set_option maxRecDepth 100000
set_option maxHeartbeats 8000000
namespace Mine
-- names that the head would lay great twins under: taken, so that it goes without them
theorem holds.tw11539556534233449701 : True := trivial
theorem holds.tw1828209375213256185 : True := trivial
theorem holds.tw13153363017490239224 : True := trivial
theorem holds.tw18285349452695073934 : True := trivial
theorem holds.tw7372412844941786970 : True := trivial
theorem holds.tw2946744036017948005 : True := trivial
theorem holds.tw16898140867199733807 : True := trivial
theorem holds.tw1170372120433861351 : True := trivial
theorem holds.tw9146587202723764964 : True := trivial
theorem holds.tw12159552181778210058 : True := trivial
theorem holds.tw13860560629476652642 : True := trivial
theorem holds.tw6817751937963910627 : True := trivial
theorem holds.tw5078402968320093544 : True := trivial
theorem holds.tw12004703523718567385 : True := trivial
theorem holds.tw7923702915469573346 : True := trivial
theorem holds.tw9441326970708011783 : True := trivial
theorem holds.tw5498966250228494579 : True := trivial
theorem holds.tw5878047611234877577 : True := trivial
theorem holds.tw150268843892594924 : True := trivial
theorem holds.tw13651502964188933756 : True := trivial
theorem holds.tw8944343764007091065 : True := trivial
theorem holds.tw15985840036639034899 : True := trivial
theorem holds.tw15493915963290111440 : True := trivial
theorem holds.tw12158838097934144204 : True := trivial
theorem holds.tw9284948610034456067 : True := trivial
theorem holds.tw7365562674294520451 : True := trivial
theorem holds.tw1876284267304334591 : True := trivial
theorem holds.tw15228004617427520810 : True := trivial
theorem holds.tw11723004889028688699 : True := trivial
theorem holds.tw11612728935029869629 : True := trivial
theorem holds.tw4021013208564600997 : True := trivial
theorem holds.tw7798976556582896058 : True := trivial
theorem holds.tw7580357766596436714 : True := trivial
theorem holds.tw9816476011544392670 : True := trivial
theorem holds.tw14924508530028286861 : True := trivial
theorem holds.tw8868040359437915812 : True := trivial
theorem holds.tw13384883100587833847 : True := trivial
theorem holds.tw9638990691586225099 : True := trivial
theorem holds.tw8868445881999480663 : True := trivial
theorem holds.tw7350330377624401328 : True := trivial
theorem holds.tw15356600547250028879 : True := trivial
theorem holds.tw15580662879708500073 : True := trivial
theorem holds.tw12467034654032377186 : True := trivial
theorem holds.tw17500814259130102135 : True := trivial
theorem holds.tw4252685499439207924 : True := trivial
theorem holds.tw9518972631687950247 : True := trivial
theorem holds.tw9321796208036801940 : True := trivial
theorem holds.tw16461013251600362008 : True := trivial
theorem holds.tw16908686848171061149 : True := trivial
theorem holds.tw17549760099613038055 : True := trivial
theorem holds.tw7399101569421298396 : True := trivial
theorem holds.tw2160012875989923789 : True := trivial
theorem holds.tw8575535491628544125 : True := trivial
theorem holds.tw11379536335273661636 : True := trivial
theorem holds.tw14394845925615563878 : True := trivial
theorem holds.tw14691085348537605332 : True := trivial
theorem holds.tw16141144775947785660 : True := trivial
theorem holds.tw2936799095737714382 : True := trivial
theorem holds.tw9458989268892848673 : True := trivial
theorem holds.tw298297018594106725 : True := trivial
theorem holds.tw16725066886706607050 : True := trivial
theorem holds.tw8903297777125119442 : True := trivial
theorem holds.tw10684964147190113176 : True := trivial
theorem holds.tw5857869478962280401 : True := trivial
theorem holds.tw10637851664137882224 : True := trivial
theorem holds.tw5323918697378788693 : True := trivial
theorem holds.tw7516632072315021061 : True := trivial
theorem holds.tw16880556292197207165 : True := trivial
theorem holds.tw12762722769849151566 : True := trivial
theorem holds.tw10202850474951982929 : True := trivial
theorem holds.tw4753448620645791293 : True := trivial
set_option Elab.async true
theorem holds : PySem.Challenge.rw_ta0044_01.Holds := by
  w_on
  o_law
  o_head (kmHook pre.heap_1 [2, 3, 6, 15, 22, 23, 24, 25, 28, 35, 36, 37, 40, 42, 43, 45, 46, 47, 49, 50, 52, 53, 54, 56, 57, 59, 60, 61, 63, 64, 66, 67, 68, 70, 71, 73, 74, 75, 77, 78, 80, 81, 82, 84, 85, 87, 88, 89, 90, 91, 93, 94, 96, 97, 98, 99, 100, 102, 103, 105, 106, 107, 108, 109, 111, 112, 114, 115, 116, 117, 118, 120, 121, 123, 124, 125, 127, 128, 130, 131, 132, 134, 135, 137, 138, 139, 142, 143] (fun _ => by kernel_rfl) [69, 62, 140])
  (case hw => w_witness2)
  k_fill
  intro w s₀ s₁ mg mb G Y fa o pm cd doc dV kV ho hd' hcd hD hmg hg args vals as hpre hlay hrd hwl hlo
  have KX := km_in_of Y
  km_tabs Y
  have X := (Ground.X G).1
  have V := (Ground.X G).2
  refine Ground.open G ?_
  intro T B D TE TW
  have hfa : fa = 143 := by
    have e := mg_of KX T.g (n := Str.ofString "law") (v := .ref 143) (by k_is)
    have e2 := hmg.symm.trans e
    cases e2
    rfl
  subst hfa
  km_lay T hmg ho hd' cd
  clear hmg
  wrow_args hpre hlay hrd hwl hlo
  first | refine callC_kw (enter_call ?_) | refine enter_call ?_
  w_top on
  kn_posts
  w_call any ho hd' hcd hD T F
  clear hd'
  kn_ghosts F T
  k_drop
  (all_goals try k_fold)
  rename Below callerA _ [] _ => K0
  rename Fr (ghostOf _ _) _ _ _ => F0
  rename Frag.In _ (ghostOf _ _) => X0
  rename News (ghostOf _ _) _ _ _ => N0
  rename Top _ _ _ _ _ (ghostOf _ _) => T0
  rename IntsAre _ _ => hI0
  refine wpAny_mono (E := fun _ _ => False) ?walk (fun _ _ q => q) (fun _ _ x => x.elim)
  case walk =>
    refine lawAll _ _ _ _ _ _ (ho := rfl) _ _ _ ⟨_, _, _, _, _⟩ _ _ _ _ _ _ _ _ _ _ _ _ K0 F0 X0 N0 ?l0 T0 ?c62 ?c69 ?c140 ?d1 ?d2 ?d3 ?d4 ?d5 ?d6 ?d7 ?d8 ?hsc lifted hI0 ?hL ?hcond ?hret
    case l0 => assumption
    case c62 => assumption
    case c69 => assumption
    case c140 => assumption
    case d1 => assumption
    case d2 => assumption
    case d3 => assumption
    case d4 => assumption
    case d5 => assumption
    case d6 => assumption
    case d7 => assumption
    case d8 => assumption
    case hsc => rfl
    case hL => assumption
    case hcond => assumption
    case hret =>
      intro ts1 ts2 ts3 news' h' tk m' a1 a2 a3 Ff Nf
      refine ⟨?_, GrownAt.of Nf a1, GrownAt.of Nf a2, GrownAt.of Nf a3, trivial⟩
      k_steps
end Mine
end -- J2
theorem PySem.Challenge.cw_ta0044_01_holds : PySem.Challenge.rw_ta0044_01.Holds := by
  exact Mine.holds
