import PyProof.Rows.All
import Wide.All
import OpenK.AllK
import Wide.FinOn
import Flt.RightMore
import PySem.Challenge.RW_sw0044_01
set_option Elab.async false
section
open PySem PySem.W PyProof.Rows
namespace Mine
/-- the statements of the top that are kept: all but the four that name a module -/
@[reducible] noncomputable def kept (a0 a1 a2 a3 a4 a5 a6 a7 a8 a9 a10 a11 a12 a13 a14 a15 a16 a17 a18 a19 a20 a21 a22 a23 a24 a25 a26 a27 : Stmt) (_ : PySem.Challenge.pw_sw0044_01.main.body = [a0, a1, a2, a3, a4, a5, a6, a7, a8, a9, a10, a11, a12, a13, a14, a15, a16, a17, a18, a19, a20, a21, a22, a23, a24, a25, a26, a27]) : List Stmt := [a1, a2, a3, a5, a6, a7, a8, a9, a10, a11, a12, a13, a14, a15, a16, a18, a19, a20, a21, a22, a24, a25, a26, a27]
noncomputable def hdbody : List Stmt := kept _ _ _ _ _ _ _ _ _ _ _ _ _ _ _ _ _ _ _ _ _ _ _ _ _ _ _ _ rfl
noncomputable def hdview : Program := { PySem.Challenge.pw_sw0044_01 with main := { PySem.Challenge.pw_sw0044_01.main with body := hdbody } }
set_option maxRecDepth 100000 in
theorem ws1 : looksOpen PySem.Challenge.rw_sw0044_01.row.prog = true := by
  unfold looksOpen
  repeat' (with_reducible apply look_both)
  all_goals decide +kernel
set_option maxRecDepth 100000 in
theorem ws : PySem.Challenge.rw_sw0044_01.wellSaid = true := by
  unfold OpenLaw.wellSaid
  repeat' (with_reducible (first | apply look_both | unfold OpenRow.wellSaid | unfold OpenRow.partSaid))
  all_goals first | (with_reducible exact ws1) | decide +kernel
local macro_rules | `(tactic| o_law) => `(tactic| refine holds_law Mine.ws fun said => ?_)
local macro_rules | `(tactic| o_head $H:term) => `(tactic| (refine holds_open (q := Mine.hdview) (loose := []) (Xt := fun s => xlAt Mine.hdview [] s && recOk (RowW.records PySem.Challenge.rw_sw0044_01.row.toRowW) s) (XP := XL Mine.hdview []) (Yf := Hook.obs $H) (Ya := Hook.val $H) (YP := Hook.says $H) (N := 1590) ?hl (Hook.of $H) (Hook.keeps $H) (fun s e => xl_of s (Bool.and_eq_true_iff.mp e).1) XL.keeps (by rfl) (by rfl) (by rfl) (fun s e => recFacts_of (Bool.and_eq_true_iff.mp e).2) (by rfl) (by first | assumption | decide +kernel) (by decide +kernel) ⟨rfl, rfl, rfl, rfl, rfl, by decide +kernel⟩ ?hw ?hc; (case hl => intro w; kernel_rfl)))
set_option maxRecDepth 100000 in
set_option maxHeartbeats 8000000 in
open_top hd for PySem.Challenge.rw_sw0044_01
end Mine
end
local macro_rules | `(tactic| k_room) => `(tactic| ktr_room)
local macro_rules | `(tactic| walk_at $s:str) => `(tactic| (k_here; k_extra $s))
section
open PySem PySem.W PyProof.Rows PySem.Flt
namespace Mine
theorem gen_stF {α : Type} {M : Model} {A : Around} {t : Sem α} {Q : α → Shared → Prop} {E : Value → Shared → Prop} {s : Shared} {h₀ : Heap} {L : Addr} {m : Str → Option Value} {n : List (Addr × Obj)} (F : Fr h₀ L s.heap m) (N : News h₀ L s.heap n)
    (h : ∀ s' : Shared, @LE.le Nat _ s.toks s'.toks → Fr h₀ L s'.heap m → News h₀ L s'.heap n → wpAny M A t Q E s') : wpAny M A t Q E s := h s (Nat.le_refl _) F N
section
variable {h₀ h : Heap} {L : Addr} {m : Str → Option Value} {ps : List (Str × Value)} {x1 x2 x3 x4 x5 x6 : Str} {v1 v2 v3 v4 v5 v6 : Value}
theorem fr_f1 (F : Fr h₀ L h (fun y => if y = x1 then some v1 else kstB m ps y)) : Fr h₀ L h (kstB m ((x1, v1) :: ps)) := F
theorem fr_b1 (F : Fr h₀ L h (fun y => if y = x1 then some v1 else m y)) : Fr h₀ L h (kstB m [(x1, v1)]) := F
theorem fr_f2 (F : Fr h₀ L h (fun y => if y = x1 then some v1 else if y = x2 then some v2 else kstB m ps y)) : Fr h₀ L h (kstB m ((x1, v1) :: (x2, v2) :: ps)) := F
theorem fr_b2 (F : Fr h₀ L h (fun y => if y = x1 then some v1 else if y = x2 then some v2 else m y)) : Fr h₀ L h (kstB m [(x1, v1), (x2, v2)]) := F
theorem fr_f3 (F : Fr h₀ L h (fun y => if y = x1 then some v1 else if y = x2 then some v2 else if y = x3 then some v3 else kstB m ps y)) : Fr h₀ L h (kstB m ((x1, v1) :: (x2, v2) :: (x3, v3) :: ps)) := F
theorem fr_b3 (F : Fr h₀ L h (fun y => if y = x1 then some v1 else if y = x2 then some v2 else if y = x3 then some v3 else m y)) : Fr h₀ L h (kstB m [(x1, v1), (x2, v2), (x3, v3)]) := F
theorem fr_f4 (F : Fr h₀ L h (fun y => if y = x1 then some v1 else if y = x2 then some v2 else if y = x3 then some v3 else if y = x4 then some v4 else kstB m ps y)) : Fr h₀ L h (kstB m ((x1, v1) :: (x2, v2) :: (x3, v3) :: (x4, v4) :: ps)) := F
theorem fr_b4 (F : Fr h₀ L h (fun y => if y = x1 then some v1 else if y = x2 then some v2 else if y = x3 then some v3 else if y = x4 then some v4 else m y)) : Fr h₀ L h (kstB m [(x1, v1), (x2, v2), (x3, v3), (x4, v4)]) := F
theorem fr_b5 (F : Fr h₀ L h (fun y => if y = x1 then some v1 else if y = x2 then some v2 else if y = x3 then some v3 else if y = x4 then some v4 else if y = x5 then some v5 else m y)) : Fr h₀ L h (kstB m [(x1, v1), (x2, v2), (x3, v3), (x4, v4), (x5, v5)]) := F
theorem fr_b6 (F : Fr h₀ L h (fun y => if y = x1 then some v1 else if y = x2 then some v2 else if y = x3 then some v3 else if y = x4 then some v4 else if y = x5 then some v5 else if y = x6 then some v6 else m y)) : Fr h₀ L h (kstB m [(x1, v1), (x2, v2), (x3, v3), (x4, v4), (x5, v5), (x6, v6)]) := F
end
end Mine
end
section
open PySem PySem.W PyProof.Rows PySem.Flt
namespace Mine
noncomputable def mx3 (x y z : UInt64) : UInt64 := if (Float64.cmp x y == some .lt) = true then (if (Float64.cmp y z == some .lt) = true then z else y) else (if (Float64.cmp x z == some .lt) = true then z else x)
noncomputable def mn3 (x y z : UInt64) : UInt64 := if (Float64.cmp y x == some .lt) = true then (if (Float64.cmp z y == some .lt) = true then z else y) else (if (Float64.cmp z x == some .lt) = true then z else x)
theorem size3 (a b c : Value) : (#[a, b, c] : Array Value).size - 1 = 2 := by simp
section
variable {prog : Program} {w : World} {A : Around} {E : Value → Shared → Prop} {s : Shared} {Q : Value → Shared → Prop} {x y z : UInt64} {t u v : Tok} {h₀ : Heap} {L : Addr} {m : Str → Option Value} {news : List (Addr × Obj)}
theorem max3_fff (hh : A.handled = none) (F : Fr h₀ L s.heap m) (N : News h₀ L s.heap news)
    (h : ∀ h' tk k, Fr h₀ L h' m → News h₀ L h' news → Q (.float (mx3 x y z) k) { s with heap := h', toks := tk }) :
    wpAny (model prog w) A (call (.builtin "max") [.float x t, .float y u, .float z v]) Q E s := by
  have hT : (s.heap.push { cls := .type "tuple", data := .seq #[.float x t, .float y u, .float z v] }).IsTuple s.heap.objs.size #[.float x t, .float y u, .float z v] := ⟨_, Heap.get?_push_size _ rfl, rfl, 0, rfl⟩
  refine call_max_three (wpAny_pyIter_tuple hT ?_)
  have hsz : (s.heap.push { cls := .type "tuple", data := .seq #[.float x t, .float y u, .float z v] }).objs.size = s.heap.objs.size + 1 := Heap.size_push ..
  refine ⟨_, [_, s.heap.objs.size], [_], _, _, _, _, rfl, Walks.tuple (A := A.in1) hh _ s.heap.objs.size (by rw [hsz]; exact Nat.ne_of_lt (Nat.lt_succ_self _)) #[.float x t, .float y u, .float z v],
    ⟨⟨_, Heap.get?_push_size _ rfl, rfl, rfl⟩, hT.push _⟩, fun c hc => ?_, by simp, cmpOf_gt #[.float x t, .float y u, .float z v] (by intro q hq; simp at hq; rcases hq with rfl | rfl | rfl <;> exact .float _ _), fun q h' tk hP hk => ?_⟩
  · show c < ((s.heap.push _).push _).objs.size
    rw [Heap.size_push, hsz]
    rcases List.mem_cons.mp hc with rfl | hc
    · rw [hsz]; exact Nat.lt_succ_self _
    · rcases List.mem_cons.mp hc with rfl | hc
      · exact Nat.lt_succ_of_lt (Nat.lt_succ_self _)
      · cases hc
  · have hold : ∀ c o, s.heap.get? c = some o → h'.get? c = some o := fun c o e => by
      refine hk c o (fun hm => ?_) (Heap.get?_push_of_some _ (Heap.get?_push_of_some _ e))
      rcases List.mem_cons.mp hm with e1 | hm
      · have := Heap.lt_size e; rw [e1, hsz] at this; exact Nat.lt_irrefl _ (Nat.lt_of_succ_lt this)
      · cases hm
    have hq : ∃ k, q = .float (mx3 x y z) k := by
      rw [size3] at hP
      unfold mx3
      cases h1 : (Float64.cmp x y == some .lt) <;> cases h2 : (Float64.cmp y z == some .lt) <;> cases h3 : (Float64.cmp x z == some .lt) <;>
        simp [argBest, ltV, h1, h2, h3] at hP <;> subst hP <;> simp
    obtain ⟨k, rfl⟩ := hq
    exact h h' tk k (F.grownK hold) (N.grown hold)
theorem min3_fff (hh : A.handled = none) (F : Fr h₀ L s.heap m) (N : News h₀ L s.heap news)
    (h : ∀ h' tk k, Fr h₀ L h' m → News h₀ L h' news → Q (.float (mn3 x y z) k) { s with heap := h', toks := tk }) :
    wpAny (model prog w) A (call (.builtin "min") [.float x t, .float y u, .float z v]) Q E s := by
  have hT : (s.heap.push { cls := .type "tuple", data := .seq #[.float x t, .float y u, .float z v] }).IsTuple s.heap.objs.size #[.float x t, .float y u, .float z v] := ⟨_, Heap.get?_push_size _ rfl, rfl, 0, rfl⟩
  refine call_min_three (wpAny_pyIter_tuple hT ?_)
  have hsz : (s.heap.push { cls := .type "tuple", data := .seq #[.float x t, .float y u, .float z v] }).objs.size = s.heap.objs.size + 1 := Heap.size_push ..
  refine ⟨_, [_, s.heap.objs.size], [_], _, _, _, _, rfl, Walks.tuple (A := A.in1) hh _ s.heap.objs.size (by rw [hsz]; exact Nat.ne_of_lt (Nat.lt_succ_self _)) #[.float x t, .float y u, .float z v],
    ⟨⟨_, Heap.get?_push_size _ rfl, rfl, rfl⟩, hT.push _⟩, fun c hc => ?_, by simp, cmpOf_lt #[.float x t, .float y u, .float z v] (by intro q hq; simp at hq; rcases hq with rfl | rfl | rfl <;> exact .float _ _), fun q h' tk hP hk => ?_⟩
  · show c < ((s.heap.push _).push _).objs.size
    rw [Heap.size_push, hsz]
    rcases List.mem_cons.mp hc with rfl | hc
    · rw [hsz]; exact Nat.lt_succ_self _
    · rcases List.mem_cons.mp hc with rfl | hc
      · exact Nat.lt_succ_of_lt (Nat.lt_succ_self _)
      · cases hc
  · have hold : ∀ c o, s.heap.get? c = some o → h'.get? c = some o := fun c o e => by
      refine hk c o (fun hm => ?_) (Heap.get?_push_of_some _ (Heap.get?_push_of_some _ e))
      rcases List.mem_cons.mp hm with e1 | hm
      · have := Heap.lt_size e; rw [e1, hsz] at this; exact Nat.lt_irrefl _ (Nat.lt_of_succ_lt this)
      · cases hm
    have hq : ∃ k, q = .float (mn3 x y z) k := by
      rw [size3] at hP
      unfold mn3
      cases h1 : (Float64.cmp y x == some .lt) <;> cases h2 : (Float64.cmp z y == some .lt) <;> cases h3 : (Float64.cmp z x == some .lt) <;>
        simp [argBest, ltV, h1, h2, h3] at hP <;> subst hP <;> simp
    obtain ⟨k, rfl⟩ := hq
    exact h h' tk k (F.grownK hold) (N.grown hold)
end
end Mine
end
section
open PySem PySem.W PyProof.Rows PySem.Flt
namespace Mine
theorem size3b (a b c : Value) : (#[a, b, c] : Array Value).size - 1 = 2 := by simp
section
variable {prog : Program} {w : World} {A : Around} {E : Value → Shared → Prop} {s : Shared} {Q : Value → Shared → Prop} {x y z : UInt64} {t u v : Tok} {h₀ : Heap} {L : Addr} {m : Str → Option Value} {news : List (Addr × Obj)}
theorem max3_tok (hh : A.handled = none) (F : Fr h₀ L s.heap m) (N : News h₀ L s.heap news)
    (h : ∀ h' tk k, (@Eq Nat k t ∨ @Eq Nat k u ∨ @Eq Nat k v) → Fr h₀ L h' m → News h₀ L h' news → Q (.float (mx3 x y z) k) { s with heap := h', toks := tk }) :
    wpAny (model prog w) A (call (.builtin "max") [.float x t, .float y u, .float z v]) Q E s := by
  have hT : (s.heap.push { cls := .type "tuple", data := .seq #[.float x t, .float y u, .float z v] }).IsTuple s.heap.objs.size #[.float x t, .float y u, .float z v] := ⟨_, Heap.get?_push_size _ rfl, rfl, 0, rfl⟩
  refine call_max_three (wpAny_pyIter_tuple hT ?_)
  have hsz : (s.heap.push { cls := .type "tuple", data := .seq #[.float x t, .float y u, .float z v] }).objs.size = s.heap.objs.size + 1 := Heap.size_push ..
  refine ⟨_, [_, s.heap.objs.size], [_], _, _, _, _, rfl, Walks.tuple (A := A.in1) hh _ s.heap.objs.size (by rw [hsz]; exact Nat.ne_of_lt (Nat.lt_succ_self _)) #[.float x t, .float y u, .float z v],
    ⟨⟨_, Heap.get?_push_size _ rfl, rfl, rfl⟩, hT.push _⟩, fun c hc => ?_, by simp, cmpOf_gt #[.float x t, .float y u, .float z v] (by intro q hq; simp at hq; rcases hq with rfl | rfl | rfl <;> exact .float _ _), fun q h' tk hP hk => ?_⟩
  · show c < ((s.heap.push _).push _).objs.size
    rw [Heap.size_push, hsz]
    rcases List.mem_cons.mp hc with rfl | hc
    · rw [hsz]; exact Nat.lt_succ_self _
    · rcases List.mem_cons.mp hc with rfl | hc
      · exact Nat.lt_succ_of_lt (Nat.lt_succ_self _)
      · cases hc
  · have hold : ∀ c o, s.heap.get? c = some o → h'.get? c = some o := fun c o e => by
      refine hk c o (fun hm => ?_) (Heap.get?_push_of_some _ (Heap.get?_push_of_some _ e))
      rcases List.mem_cons.mp hm with e1 | hm
      · have := Heap.lt_size e; rw [e1, hsz] at this; exact Nat.lt_irrefl _ (Nat.lt_of_succ_lt this)
      · cases hm
    have hq : ∃ k, (@Eq Nat k t ∨ @Eq Nat k u ∨ @Eq Nat k v) ∧ q = .float (mx3 x y z) k := by
      rw [size3b] at hP
      unfold mx3
      cases h1 : (Float64.cmp x y == some .lt) <;> cases h2 : (Float64.cmp y z == some .lt) <;> cases h3 : (Float64.cmp x z == some .lt) <;>
        simp [argBest, ltV, h1, h2, h3] at hP <;> subst hP <;> simp
    obtain ⟨k, hk9, rfl⟩ := hq
    exact h h' tk k hk9 (F.grownK hold) (N.grown hold)
theorem min3_tok (hh : A.handled = none) (F : Fr h₀ L s.heap m) (N : News h₀ L s.heap news)
    (h : ∀ h' tk k, (@Eq Nat k t ∨ @Eq Nat k u ∨ @Eq Nat k v) → Fr h₀ L h' m → News h₀ L h' news → Q (.float (mn3 x y z) k) { s with heap := h', toks := tk }) :
    wpAny (model prog w) A (call (.builtin "min") [.float x t, .float y u, .float z v]) Q E s := by
  have hT : (s.heap.push { cls := .type "tuple", data := .seq #[.float x t, .float y u, .float z v] }).IsTuple s.heap.objs.size #[.float x t, .float y u, .float z v] := ⟨_, Heap.get?_push_size _ rfl, rfl, 0, rfl⟩
  refine call_min_three (wpAny_pyIter_tuple hT ?_)
  have hsz : (s.heap.push { cls := .type "tuple", data := .seq #[.float x t, .float y u, .float z v] }).objs.size = s.heap.objs.size + 1 := Heap.size_push ..
  refine ⟨_, [_, s.heap.objs.size], [_], _, _, _, _, rfl, Walks.tuple (A := A.in1) hh _ s.heap.objs.size (by rw [hsz]; exact Nat.ne_of_lt (Nat.lt_succ_self _)) #[.float x t, .float y u, .float z v],
    ⟨⟨_, Heap.get?_push_size _ rfl, rfl, rfl⟩, hT.push _⟩, fun c hc => ?_, by simp, cmpOf_lt #[.float x t, .float y u, .float z v] (by intro q hq; simp at hq; rcases hq with rfl | rfl | rfl <;> exact .float _ _), fun q h' tk hP hk => ?_⟩
  · show c < ((s.heap.push _).push _).objs.size
    rw [Heap.size_push, hsz]
    rcases List.mem_cons.mp hc with rfl | hc
    · rw [hsz]; exact Nat.lt_succ_self _
    · rcases List.mem_cons.mp hc with rfl | hc
      · exact Nat.lt_succ_of_lt (Nat.lt_succ_self _)
      · cases hc
  · have hold : ∀ c o, s.heap.get? c = some o → h'.get? c = some o := fun c o e => by
      refine hk c o (fun hm => ?_) (Heap.get?_push_of_some _ (Heap.get?_push_of_some _ e))
      rcases List.mem_cons.mp hm with e1 | hm
      · have := Heap.lt_size e; rw [e1, hsz] at this; exact Nat.lt_irrefl _ (Nat.lt_of_succ_lt this)
      · cases hm
    have hq : ∃ k, (@Eq Nat k t ∨ @Eq Nat k u ∨ @Eq Nat k v) ∧ q = .float (mn3 x y z) k := by
      rw [size3b] at hP
      unfold mn3
      cases h1 : (Float64.cmp y x == some .lt) <;> cases h2 : (Float64.cmp z y == some .lt) <;> cases h3 : (Float64.cmp z x == some .lt) <;>
        simp [argBest, ltV, h1, h2, h3] at hP <;> subst hP <;> simp
    obtain ⟨k, hk9, rfl⟩ := hq
    exact h h' tk k hk9 (F.grownK hold) (N.grown hold)
end
end Mine
end
section
open PySem PySem.W PyProof.Rows
namespace Mine
theorem runs_up {M : Model} {Γ : Ctx} {p : Pos} {t : Sem Fin} {fs : List Frame} {s : Shared} {e : End} {s' : Shared} (h : Runs M Γ p t fs s e s') : s.toks ≤ s'.toks := by
  induction h with
  | done => exact Nat.le_refl _
  | raise => exact Nat.le_refl _
  | yield => exact Nat.le_refl _
  | again _ _ ih => exact ih
  | rule _ ih => exact ih
  | «at» _ ih => exact ih
  | load _ _ ih => exact ih
  | update _ _ ih => exact ih
  | loadIfAlive _ ih => exact ih
  | point _ ih => exact ih
  | alloc _ ih => exact ih
  | fresh _ ih => exact Nat.le_of_succ_le ih
  | ask _ ih => exact ih
  | choose _ _ ih => exact ih
  | os _ ih => exact ih
  | handled _ ih => exact ih
  | genState _ _ ih => exact ih
  | stack _ ih => exact ih
  | thread _ ih => exact ih
  | newGen _ ih => exact ih
  | call _ _ ih1 ih2 => exact Nat.le_trans ih1 ih2
  | callSusp _ ih => exact ih
  | resumeFresh _ _ _ _ ih1 ih2 => exact Nat.le_trans ih1 ih2
  | resumeSuspended _ _ _ _ ih1 ih2 => exact Nat.le_trans ih1 ih2
  | resumeJustStarted _ _ _ ih => exact ih
  | resumeThrowFresh _ _ ih => exact ih
  | resumeRunning _ _ ih => exact ih
  | resumeFinished _ _ ih => exact ih
  | segRet _ _ ih1 ih2 => exact Nat.le_trans ih1 ih2
  | segGen _ _ ih1 ih2 => exact Nat.le_trans ih1 ih2
  | segSuspOut _ _ ih => exact ih
  | segSuspGen _ _ _ _ ih1 ih2 => exact Nat.le_trans ih1 ih2
theorem wakes_up {M : Model} {Γ : Ctx} {p : Pos} {g : Nat} {r : Resume} {s : Shared} {res : GenResult} {s' : Shared} (h : Wakes M Γ p g r s res s') : s.toks ≤ s'.toks := by
  unfold Wakes at h
  split at h
  · exact h.elim
  · split at h
    · obtain ⟨e₁, s₁, a, _, _, rfl⟩ := h
      exact (show (s.setGen g .running).toks ≤ s₁.toks from runs_up a)
    · exact h.2 ▸ Nat.le_refl _
    · exact h.2 ▸ Nat.le_refl _
  · obtain ⟨e₁, s₁, a, _, _, rfl⟩ := h
    exact (show (s.setGen g .running).toks ≤ s₁.toks from runs_up a)
  · exact h.2 ▸ Nat.le_refl _
  · exact h.2 ▸ Nat.le_refl _
theorem wp_up {α : Type} {M : Model} {Γ : Ctx} {Q : α → Pos → Shared → Prop} {E : Value → Pos → Shared → Prop} {k : Nat} (t : Sem α) : ∀ {p : Pos} {s : Shared}, k ≤ s.toks →
    Sem.wp M Γ t (fun a p' s' => k ≤ s'.toks → Q a p' s') (fun e p' s' => k ≤ s'.toks → E e p' s') p s → Sem.wp M Γ t Q E p s := by
  induction t with
  | pure a => intro p s hk h; simp only [Sem.wp] at h ⊢; exact h hk
  | raise e => intro p s hk h; simp only [Sem.wp] at h ⊢; exact h hk
  | unsupported _ => intro p s hk h; simp only [Sem.wp] at h
  | finish _ => intro p s hk h; simp only [Sem.wp] at h
  | rule _ c ih => intro p s hk h; simp only [Sem.wp] at h ⊢; exact ih () hk h
  | «at» _ c ih => intro p s hk h; simp only [Sem.wp] at h ⊢; exact ih () hk h
  | load a _ c ih => intro p s hk h; simp only [Sem.wp] at h ⊢; obtain ⟨o, ho, h⟩ := h; exact ⟨o, ho, ih o hk h⟩
  | update a _ f c ih => intro p s hk h; simp only [Sem.wp] at h ⊢; exact ⟨h.1, ih () hk h.2⟩
  | loadIfAlive a c ih => intro p s hk h; simp only [Sem.wp] at h ⊢; exact ih _ hk h
  | point _ c ih => intro p s hk h; simp only [Sem.wp] at h ⊢; exact ih () hk h
  | register _ _ _ => intro p s hk h; simp only [Sem.wp] at h
  | alloc o c ih => intro p s hk h; simp only [Sem.wp] at h ⊢; exact ih _ (by exact hk) h
  | fresh c ih => intro p s hk h; simp only [Sem.wp] at h ⊢; exact ih _ (by exact Nat.le_succ_of_le hk) h
  | ask c ih => intro p s hk h; simp only [Sem.wp] at h ⊢; exact ih _ hk h
  | choose _ _ c ih => intro p s hk h; simp only [Sem.wp] at h ⊢; exact ⟨h.1, ih _ (by exact hk) h.2⟩
  | os _ _ c ih => intro p s hk h; simp only [Sem.wp] at h ⊢; exact ih _ (by exact hk) h
  | call c _ _ _ cc ih => 
    intro p s hk h
    simp only [Sem.wp] at h ⊢
    obtain ⟨r, s', hr, h⟩ := h
    exact ⟨r, s', hr, ih r (Nat.le_trans hk (runs_up hr)) h⟩
  | handled _ c ih => intro p s hk h; simp only [Sem.wp] at h ⊢; exact ih _ hk h
  | genState _ c ih => intro p s hk h; simp only [Sem.wp] at h ⊢; obtain ⟨o, ho, h⟩ := h; exact ⟨o, ho, ih _ hk h⟩
  | newGen _ c ih => intro p s hk h; simp only [Sem.wp] at h ⊢; exact ih _ (by exact hk) h
  | resume _ _ _ c ih => intro p s hk h; simp only [Sem.wp] at h ⊢; obtain ⟨res, s', ho, h⟩ := h; exact ⟨res, s', ho, ih _ (Nat.le_trans hk (wakes_up ho)) h⟩
  | yield _ _ _ _ _ => intro p s hk h; simp only [Sem.wp] at h
  | stack c ih => intro p s hk h; simp only [Sem.wp] at h ⊢; exact ih _ hk h
  | fork _ _ _ => intro p s hk h; simp only [Sem.wp] at h
  | thread c ih => intro p s hk h; simp only [Sem.wp] at h ⊢; exact ih _ hk h
  | await _ _ _ _ _ _ => intro p s hk h; simp only [Sem.wp] at h
theorem wpAny_up {α : Type} {M : Model} {A : Around} {t : Sem α} {Q : α → Shared → Prop} {E : Value → Shared → Prop} {s : Shared}
    (h : wpAny M A t (fun a s' => s.toks ≤ s'.toks → Q a s') (fun e s' => s.toks ≤ s'.toks → E e s') s) : wpAny M A t Q E s :=
  fun Γ p hΓ => wp_up t (Nat.le_refl _) (h Γ p hΓ)
theorem codeAny_up {M : Model} {A : Around} {c : Code} {R : Result → Shared → Prop} {s : Shared}
    (h : codeAny M A c (fun r s' => s.toks ≤ s'.toks → R r s') s) : codeAny M A c R s :=
  fun Γ p hc hΓ => let ⟨r, s', a, b⟩ := h Γ p hc hΓ; ⟨r, s', a, b (runs_up a)⟩
end Mine
end
section
open PySem PySem.W PyProof.Rows PySem.Flt
namespace Mine

noncomputable def hsvF (r g b : UInt64) : Option (UInt64 × UInt64 × UInt64) :=
  if (Float64.cmp (mn3 r g b) (mx3 r g b) == some .eq) = true then some (0, 0, mx3 r g b)
  else if Float64.isZero (mx3 r g b) = true then none
  else if Float64.isZero (Float64.sub (mx3 r g b) (mn3 r g b)) = true then none
  else some (Float64.divmod (Float64.div (
    if (Float64.cmp r (mx3 r g b) == some .eq) = true then Float64.sub (Float64.div (Float64.sub (mx3 r g b) b) (Float64.sub (mx3 r g b) (mn3 r g b))) (Float64.div (Float64.sub (mx3 r g b) g) (Float64.sub (mx3 r g b) (mn3 r g b)))
    else if (Float64.cmp g (mx3 r g b) == some .eq) = true then Float64.sub (Float64.add 0x4000000000000000 (Float64.div (Float64.sub (mx3 r g b) r) (Float64.sub (mx3 r g b) (mn3 r g b)))) (Float64.div (Float64.sub (mx3 r g b) b) (Float64.sub (mx3 r g b) (mn3 r g b)))
    else Float64.sub (Float64.add 0x4010000000000000 (Float64.div (Float64.sub (mx3 r g b) g) (Float64.sub (mx3 r g b) (mn3 r g b)))) (Float64.div (Float64.sub (mx3 r g b) r) (Float64.sub (mx3 r g b) (mn3 r g b)))) 0x4018000000000000) 0x3ff0000000000000 |>.2,
    Float64.div (Float64.sub (mx3 r g b) (mn3 r g b)) (mx3 r g b), mx3 r g b)
noncomputable def rgbF (k : Int) (f s v : UInt64) : Option (UInt64 × UInt64 × UInt64) :=
  if k = 0 then some (v, Float64.mul v (Float64.sub 0x3ff0000000000000 (Float64.mul s (Float64.sub 0x3ff0000000000000 f))), Float64.mul v (Float64.sub 0x3ff0000000000000 s))
  else if k = 1 then some (Float64.mul v (Float64.sub 0x3ff0000000000000 (Float64.mul s f)), v, Float64.mul v (Float64.sub 0x3ff0000000000000 s))
  else if k = 2 then some (Float64.mul v (Float64.sub 0x3ff0000000000000 s), v, Float64.mul v (Float64.sub 0x3ff0000000000000 (Float64.mul s (Float64.sub 0x3ff0000000000000 f))))
  else if k = 3 then some (Float64.mul v (Float64.sub 0x3ff0000000000000 s), Float64.mul v (Float64.sub 0x3ff0000000000000 (Float64.mul s f)), v)
  else if k = 4 then some (Float64.mul v (Float64.sub 0x3ff0000000000000 (Float64.mul s (Float64.sub 0x3ff0000000000000 f))), Float64.mul v (Float64.sub 0x3ff0000000000000 s), v)
  else if k = 5 then some (v, Float64.mul v (Float64.sub 0x3ff0000000000000 s), Float64.mul v (Float64.sub 0x3ff0000000000000 (Float64.mul s f)))
  else none
theorem big_no {k : Nat} (h : 2 ^ 1024 - 2 ^ 970 ≤ k) (h' : k < 1000000) : False := by
  have : (1000000 : Nat) ≤ 2 ^ 1024 - 2 ^ 970 := by decide +kernel
  exact absurd (Nat.le_trans this h) (Nat.not_le.mpr h')
end Mine
end
section
open PySem PySem.W PyProof.Rows PySem.Flt
namespace Mine
theorem topOffFl2 : True := by
  w_top off
  trivial
section
variable {prog : Program} {w : World} {A : Around} {E : Value → Shared → Prop} {s : Shared} {Q : Value → Shared → Prop}
theorem mod_tok {a b : UInt64} {t u : Tok} (hA : A.handled = none) (hb : Float64.isZero b = false) (h : ∀ (t' : Tok) (tk' : Nat), @LE.le Nat _ s.toks t' → @LT.lt Nat _ t' tk' → Q (.float (Float64.divmod a b).2 t') { s with toks := tk' }) : wpAny (model prog w) A (binaryOp .Mod (.float a t) (.float b u)) Q E s :=
  PySem.Flt.mod_ff hA (fun h0 => by rw [hb] at h0; cases h0) (fun _ => h s.toks (s.toks + 1) (Nat.le_refl _) (Nat.lt_succ_self _))
end
theorem gen_toks {α : Type} {M : Model} {A : Around} {t : Sem α} {Q : α → Shared → Prop} {E : Value → Shared → Prop} {s : Shared} (h : ∀ tk : Nat, @LE.le Nat _ s.toks tk → wpAny M A t Q E { s with toks := tk }) : wpAny M A t Q E s := h s.toks (Nat.le_refl _)
set_option maxRecDepth 100000 in
set_option maxHeartbeats 4000000 in
set_option pp.deepTerms false in
set_option pp.deepTerms.threshold 4 in
theorem c_hsvT (w : World) (mean : ExcName → Option Value) (mg mb : Str → Option Value) (news : List (Addr × Obj)) (r g b x y z : UInt64) (tr tg tb : Tok) :
  ∀ (dp un : Nat) (gd : Option (List Code)) (cn : Str) (cs : Scope) (a : Addr) (ccd : Value) (cl : List (Str × Addr)) (outer : List Env) (A₀ : Around) (base h₀ : Heap) (L : Addr) (m : Str → Option Value) (s : Shared) (Q : Value → Shared → Prop) (E : Value → Shared → Prop)
  (_ : Below A₀ base outer h₀) (_ : Fr h₀ L s.heap m) (_ : (Mine.hd.heap_1 w.params).In h₀) (_ : News h₀ L s.heap news) (_ : Top Mine.hdview (looseW Mine.hdview []) mean mg mb h₀) (_ : cs.kind = .function)
  (_ : dp + 1 < recursionLimit) (_ : un + 8 < cLine) (_ : @LT.lt Nat _ 0 s.toks) (_ : @LT.lt Nat _ 0 tr) (_ : @LT.lt Nat _ 0 tg) (_ : @LT.lt Nat _ 0 tb) (_ : (Float64.cmp (mn3 r g b) (mx3 r g b) == some .eq) = false) (_ : hsvF r g b = some (x, y, z))
  (_ : ∀ (h' : Heap) (tk' : Nat) (l : Addr) (t1 t2 t3 : Tok), @LT.lt Nat _ t1 tk' → @LT.lt Nat _ 0 t1 → @LT.lt Nat _ 0 t2 → @LT.lt Nat _ 0 t3 → Fr h₀ L h' m → News h₀ L h' ((l, { cls := .type "tuple", data := .seq #[.float x t1, .float y t2, .float z t3] }) :: news) → (∀ p ∈ news, p.1 < l) → Q (.ref l) { s with heap := h', toks := tk' }),
  wpAny (model PySem.Challenge.rw_sw0044_01.row.prog w) (ktrTop dp un gd cn cs L a ccd cl outer) (call (.ref 28) [.float r tr, .float g tg, .float b tb]) Q E s := by
  k_fill
  intro dp un gd cn cs a ccd cl outer A₀ base h₀ L m s Q E kB kF kX kN kT kK kD kU h0 hr0 hg0 hb0 hne hR hret
  refine wpAny_call ?_
  k_dflt cell_enter
  k_with_none
  k_with "execs cons" => ((fail_if_success (fail_if_success k_gentoks)); refine gen_toks ?_; intro tkN htkN; dsimp only at htkN; (try dsimp only))
  k_with "execs nil" => ((fail_if_success (fail_if_success k_gentoks)); refine gen_toks ?_; intro tkN htkN; dsimp only at htkN; (try dsimp only))
  k_with "call builtin:max" => ((with_reducible show wpAny _ _ (call (Value.builtin _) [Value.float _ _, Value.float _ _, Value.float _ _]) _ _ _); (rename News _ _ _ _ => N'); (rename Fr _ _ _ _ => F'); refine wpAny_up (max3_tok rfl F' N' ?_); clear F' N'; intro _ _ _ hkm F' N' hupm; dsimp only at hupm)
  k_with "call builtin:min" => ((with_reducible show wpAny _ _ (call (Value.builtin _) [Value.float _ _, Value.float _ _, Value.float _ _]) _ _ _); (rename News _ _ _ _ => N'); (rename Fr _ _ _ _ => F'); refine wpAny_up (min3_tok rfl F' N' ?_); clear F' N'; intro _ _ _ hkn F' N' hupm; dsimp only at hupm)
  k_with "binaryOp Mod float float" => (k_extra "my mod")
  k_with "execs cons" => ((rename Fr _ _ _ _ => gF'); (fail_if_success (with_reducible have gK : Fr _ _ _ (kstB _ _) := gF')); (with_reducible (first | replace gF' := fr_f1 gF' | replace gF' := fr_f2 gF' | replace gF' := fr_f3 gF' | replace gF' := fr_f4 gF' | replace gF' := fr_b6 gF' | replace gF' := fr_b5 gF' | replace gF' := fr_b4 gF' | replace gF' := fr_b3 gF' | replace gF' := fr_b2 gF' | replace gF' := fr_b1 gF')))
  k_with "my mod" => (k_dflt (refine' mod_tok ?m1 ?m2 ?_); (case m1 => k_dflt rfl); (case m2 => decide +kernel); intro t9 tk9 ht1 ht2; dsimp only at ht1)
  k_steps
  all_goals first
    | (exfalso; simp [*] at hne; done)
    | ((rename Fr _ _ _ _ => kF9); (rename News _ _ _ _ => kN9); simp [hsvF, *] at hR; obtain ⟨rfl, rfl, rfl⟩ := hR; refine' hret _ _ _ _ _ _ ?tz ?t1 ?t2 ?t3 kF9 kN9 (by assumption); (case tz => (clear hret; dsimp only at *; omega)); (case t1 => (clear hret; dsimp only at *; omega)); (case t2 => (clear hret; dsimp only at *; omega)); (case t3 => (clear hret; dsimp only at *; omega)))
    | (exfalso; simp [hsvF, *] at hR; done)

set_option maxRecDepth 100000 in
set_option maxHeartbeats 4000000 in
set_option pp.deepTerms false in
set_option pp.deepTerms.threshold 4 in
theorem c_rgbT (w : World) (mean : ExcName → Option Value) (mg mb : Str → Option Value) (news : List (Addr × Obj)) (h g b x y z : UInt64) (i : Int) (tr tg tb : Tok) :
  ∀ (dp un : Nat) (gd : Option (List Code)) (cn : Str) (cs : Scope) (a : Addr) (ccd : Value) (cl : List (Str × Addr)) (outer : List Env) (A₀ : Around) (base h₀ : Heap) (L : Addr) (m : Str → Option Value) (s : Shared) (Q : Value → Shared → Prop) (E : Value → Shared → Prop)
  (_ : Below A₀ base outer h₀) (_ : Fr h₀ L s.heap m) (_ : (Mine.hd.heap_1 w.params).In h₀) (_ : News h₀ L s.heap news) (_ : Top Mine.hdview (looseW Mine.hdview []) mean mg mb h₀) (_ : cs.kind = .function)
  (_ : dp + 1 < recursionLimit) (_ : un + 8 < cLine) (_ : @LT.lt Nat _ 0 s.toks) (_ : @LT.lt Nat _ 0 tb) (_ : (Float64.cmp g 0 == some .eq) = false) (_ : Float64.isNaN (Float64.mul h 0x4018000000000000) = false) (_ : Float64.isInf (Float64.mul h 0x4018000000000000) = false) (_ : toInt Float64.truncOf (Float64.mul h 0x4018000000000000) = i) (_ : 0 ≤ i) (_ : i < 1000000) (_ : rgbF (i.fmod 6) (Float64.sub (Float64.mul h 0x4018000000000000) (Float64.ofInt i)) g b = some (x, y, z))
  (_ : ∀ (h' : Heap) (tk' : Nat) (l : Addr) (t1 t2 t3 : Tok),  @LT.lt Nat _ 0 t1 → @LT.lt Nat _ 0 t2 → @LT.lt Nat _ 0 t3 → Fr h₀ L h' m → News h₀ L h' ((l, { cls := .type "tuple", data := .seq #[.float x t1, .float y t2, .float z t3] }) :: news) → (∀ p ∈ news, p.1 < l) → Q (.ref l) { s with heap := h', toks := tk' }),
  wpAny (model PySem.Challenge.rw_sw0044_01.row.prog w) (ktrTop dp un gd cn cs L a ccd cl outer) (call (.ref 35) [.float h tr, .float g tg, .float b tb]) Q E s := by
  k_fill
  intro dp un gd cn cs a ccd cl outer A₀ base h₀ L m s Q E kB kF kX kN kT kK kD kU h0 hb0 hq0 hq1 hq2 hi hi0 hi1 hR hret
  refine wpAny_call ?_
  k_dflt cell_enter
  k_with_none
  k_with "execs cons" => ((fail_if_success (fail_if_success k_gentoks)); refine gen_toks ?_; intro tkN htkN; dsimp only at htkN; (try dsimp only))
  k_with "execs nil" => ((fail_if_success (fail_if_success k_gentoks)); refine gen_toks ?_; intro tkN htkN; dsimp only at htkN; (try dsimp only))
  k_with "call builtin:max" => ((with_reducible show wpAny _ _ (call (Value.builtin _) [Value.float _ _, Value.float _ _, Value.float _ _]) _ _ _); (rename News _ _ _ _ => N'); (rename Fr _ _ _ _ => F'); refine wpAny_up (max3_tok rfl F' N' ?_); clear F' N'; intro _ _ _ hkm F' N' hupm; dsimp only at hupm)
  k_with "call builtin:min" => ((with_reducible show wpAny _ _ (call (Value.builtin _) [Value.float _ _, Value.float _ _, Value.float _ _]) _ _ _); (rename News _ _ _ _ => N'); (rename Fr _ _ _ _ => F'); refine wpAny_up (min3_tok rfl F' N' ?_); clear F' N'; intro _ _ _ hkn F' N' hupm; dsimp only at hupm)
  k_with "binaryOp Mod float float" => (k_extra "my mod")
  k_with "execs cons" => ((rename Fr _ _ _ _ => gF'); (fail_if_success (with_reducible have gK : Fr _ _ _ (kstB _ _) := gF')); (with_reducible (first | replace gF' := fr_f1 gF' | replace gF' := fr_f2 gF' | replace gF' := fr_f3 gF' | replace gF' := fr_f4 gF' | replace gF' := fr_b6 gF' | replace gF' := fr_b5 gF' | replace gF' := fr_b4 gF' | replace gF' := fr_b3 gF' | replace gF' := fr_b2 gF' | replace gF' := fr_b1 gF')))
  k_steps
  all_goals first
    | (exfalso; simp [*] at hq0; done)
    | (exfalso; simp [*] at hq1; done)
    | (exfalso; simp [*] at hq2; done)
    | (exfalso; subst hi; simp [rgbF, *] at hR; done)
    | (exfalso; exact big_no (by assumption) (by rw [hi]; omega))
    | ((rename Fr _ _ _ _ => kF9); (rename News _ _ _ _ => kN9); subst hi; simp [rgbF, *] at hR; obtain ⟨rfl, rfl, rfl⟩ := hR; refine' hret _ _ _ _ _ _ ?t1 ?t2 ?t3 kF9 kN9 (by assumption); (case t1 => (clear hret; dsimp only at *; omega)); (case t2 => (clear hret; dsimp only at *; omega)); (case t3 => (clear hret; dsimp only at *; omega)))

end Mine
end
section
open PySem PySem.W PyProof.Rows PySem.Spec
namespace Mine
noncomputable abbrev Led := List (Addr × Obj)
noncomputable abbrev Loc := Str → Option Value
noncomputable def StepT (h₀ : Heap) (L : Addr) (wr : List Addr) (own : Led) (Jn : Loc → Led → Nat → Prop) (s₁ : Shared) (Qr : Value → Shared → Prop) (Qb : Shared → Prop) (f : Flow) (s₂ : Shared) : Prop :=
  match f with
  | .ret v => Qr v s₂
  | .brk => Qb s₂
  | _ => ∃ h' tk m₂ news₂, s₂ = { s₁ with heap := h', toks := tk } ∧ Fr h₀ L h' m₂ ∧ News h₀ L h' (own ++ news₂) ∧ (∀ p ∈ news₂, p.1 ∉ wr) ∧ Jn m₂ news₂ tk
section
variable {prog : Program} {w : World} {A : Around} {s : Shared} {env : Env} {h₀ : Heap}
theorem forLoop_T {R : Result → Shared → Prop} {x : Str} {px : Pos} {body : List Stmt} {I : Addr} {fp wr : List Addr} {n : Nat} {P : Nat → Value → Prop} {St : Nat → Heap → Prop} {m : Loc}
    {news : Led} (W : Walks prog w A I fp wr n P St) (hx : env.kindOf x = some .local)
    (hp : (env.scope.kind == .class || (env.scope.kind == .module && env.locals != env.globals)) = false)
    (hLf : env.locals ∉ fp) (hwr : ∀ b ∈ wr, h₀.get? b = none) (hnw : ∀ p ∈ news, p.1 ∉ wr)
    (hst : St 0 s.heap) (F : Fr h₀ env.locals s.heap m) (N : News h₀ env.locals s.heap news)
    (J : Nat → Loc → Led → Nat → Prop) (h0 : J 0 m news s.toks) (hmono : ∀ i m nx t t', t ≤ t' → J i m nx t → J i m nx t')
    (step : ∀ i v m₁ news₁ s₁ own, (∃ h tk, s₁ = { s with heap := h, toks := tk }) → 1 ≤ s₁.toks → i < n → P i v → J i m₁ news₁ s₁.toks → (∀ p ∈ news₁, p.1 ∉ wr) → (∀ p ∈ own, p.1 ∈ fp) → (∀ p ∈ own, s₁.heap.get? p.1 = some p.2) → (∀ b ∈ fp, h₀.get? b = none → ∀ o, s₁.heap.get? b = some o → (b, o) ∈ own) → St (i + 1) s₁.heap →
      Fr h₀ env.locals s₁.heap (fun y => if y = x then some v else m₁ y) → News h₀ env.locals s₁.heap (own ++ news₁) →
      wpAny (model prog w) A (execs body env) (StepT h₀ env.locals wr own (J (i + 1)) s₁ (fun v s' => R (.ok (.ret v)) s') fun s' => R (.ok .next) s') (notedBy (model prog w) A env fun e s' => R (.error e) s') s₁)
    (hR : ∀ h' tk m' news', Fr h₀ env.locals h' m' → News h₀ env.locals h' news' → (∀ p ∈ news', p.1 ∉ wr) → J n m' news' tk → R (.ok .next) { s with heap := h', toks := tk }) :
    codeAny (model prog w) A (.forLoop (.Name x px) (.ref I) body [] env) R s := by
  have hLw : env.locals ∉ wr := fun h => hLf (W.sub _ h)
  have old : ∀ b o, h₀.get? b = some o → b ∉ wr := fun b o e hb => by rw [hwr b hb] at e; cases e
  refine codeAny_forLoop
    (fun k s' => ∃ h' tk m' news' i, s' = { s with heap := h', toks := tk } ∧ St i h' ∧ Fr h₀ env.locals h' m' ∧ News h₀ env.locals h' news' ∧ (∀ p ∈ news', p.1 ∉ wr) ∧ J i m' news' tk ∧ i ≤ n ∧ k = n + 1 - i) ?_ (n + 1)
    ⟨s.heap, s.toks, m, news, 0, rfl, hst, F, N, hnw, h0, Nat.zero_le _, rfl⟩
  rintro k s' ⟨h', tk, m', news', i, rfl, hst', F', N', hnw', hJ, hi, rfl⟩
  have next : ∀ h₁ : Heap, (∀ b o, b ∉ wr → h'.get? b = some o → h₁.get? b = some o) → Fr h₀ env.locals h₁ m' ∧ News h₀ env.locals h₁ news' := fun h₁ hk₁ =>
    ⟨⟨F'.ns.at' fun o e => hk₁ _ o hLw e, fun b o e => hk₁ b o (old b o e) (F'.keep b o e), F'.above⟩, fun p hp => ⟨hk₁ _ _ (hnw' p hp) (N' p hp).1, (N' p hp).2⟩⟩
  refine wpAny_up ?_
  by_cases hlt : i < n
  · refine W.item i _ _ _ hlt hst' fun v h₁ tk₁ hP hst₁ hk₁ => ?_
    intro htk
    obtain ⟨F₁, N₁⟩ := next h₁ hk₁
    refine wpAny_assign_Name (wpAny_storeName_local hx F₁.ns (fun h₂ hn₂ hs₂ => ?_) hp)
    have F₂ := F₁.set hn₂ hs₂
    have Nown : News h₀ env.locals h₂ (ownOf h₀ fp h₂) := news_ownOf hLf
    have hst₂ : St (i + 1) h₂ := W.frame _ _ _ hst₁ fun b hb o e => (hs₂.2 b fun q => hLf (q ▸ hb)).trans e
    have hJ' : J i m' news' (tk₁ + 1) := hmono _ _ _ _ _ (Nat.le_succ_of_le htk) hJ
    refine wpAny_mono (step i v m' news' _ (ownOf h₀ fp h₂) ⟨_, _, rfl⟩ (Nat.succ_le_succ (Nat.zero_le _)) hlt hP hJ' hnw' ownOf_sub (fun p hp => (Nown p hp).1) (fun b hb hn o e => mem_ownOf hb hn e) hst₂ F₂ (Nown.append (N₁.set hs₂))) (fun f s₃ h₃ => ?_) (fun _ _ e => e)
    have fin : (∃ h' tk m₂ news₂, s₃ = { ({ s with heap := h₂, toks := tk₁ + 1 } : Shared) with heap := h', toks := tk } ∧ Fr h₀ env.locals h' m₂ ∧ News h₀ env.locals h' (ownOf h₀ fp h₂ ++ news₂) ∧ (∀ p ∈ news₂, p.1 ∉ wr) ∧ J (i + 1) m₂ news₂ tk) →
        ∃ q, q < n + 1 - i ∧ ∃ h' tk m' news' i, s₃ = { s with heap := h', toks := tk } ∧ St i h' ∧ Fr h₀ env.locals h' m' ∧ News h₀ env.locals h' news' ∧ (∀ p ∈ news', p.1 ∉ wr) ∧ J i m' news' tk ∧ i ≤ n ∧ q = n + 1 - i := by
      rintro ⟨h₃', tk₃, m₂, news₂, rfl, F₃, N₃, ha₃, hJ₃⟩
      refine ⟨n + 1 - (i + 1), by omega, h₃', tk₃, m₂, news₂, i + 1, rfl, ?_, F₃, N₃.right, ha₃, hJ₃, hlt, rfl⟩
      refine W.frame _ _ _ hst₁ fun b hb o e => ?_
      have e₂ : h₂.get? b = some o := (hs₂.2 b fun q => hLf (q ▸ hb)).trans e
      cases hn : h₀.get? b with
      | some o₀ =>
        have : o₀ = o := by have := F₂.keep b o₀ hn; rw [e₂] at this; exact (Option.some.inj this).symm
        exact this ▸ F₃.keep b o₀ hn
      | none => exact (N₃ _ (List.mem_append_left _ (mem_ownOf hb hn e₂))).1
    cases f with
    | ret v => exact h₃
    | brk => exact h₃
    | cont => exact fin h₃
    | next => exact fin h₃
  · have hin : i = n := by omega
    subst hin
    refine W.done _ _ _ hst' fun h₁ tk₁ hk₁ => ?_
    intro htk
    refine wpAny_execs_nil ?_
    obtain ⟨F₁, N₁⟩ := next h₁ hk₁
    exact hR h₁ tk₁ m' news' F₁ N₁ hnw' (hmono _ _ _ _ _ htk hJ)

noncomputable def LoopAtT (prog : Program) (w : World) (A : Around) (h₀ : Heap) (env : Env) (x : Str) (body : List Stmt) (Q : Flow → Shared → Prop) (E : Value → Shared → Prop) (it : Value) (s₂ : Shared) : Prop :=
  ∃ (I : Addr) (fp wr : List Addr) (n : Nat) (P : Nat → Value → Prop) (St : Nat → Heap → Prop) (m : Loc) (news : Led) (J : Nat → Loc → Led → Nat → Prop),
    it = .ref I ∧ Walks prog w A I fp wr n P St ∧ env.locals ∉ fp ∧ (∀ b ∈ wr, h₀.get? b = none) ∧ (∀ p ∈ news, p.1 ∉ wr) ∧ St 0 s₂.heap ∧ Fr h₀ env.locals s₂.heap m ∧ News h₀ env.locals s₂.heap news ∧ J 0 m news s₂.toks ∧ (∀ i m nx t t', t ≤ t' → J i m nx t → J i m nx t') ∧
    (∀ i v m₁ news₁ s₁ own, (∃ h tk, s₁ = { s₂ with heap := h, toks := tk }) → 1 ≤ s₁.toks → i < n → P i v → J i m₁ news₁ s₁.toks → (∀ p ∈ news₁, p.1 ∉ wr) → (∀ p ∈ own, p.1 ∈ fp) → (∀ p ∈ own, s₁.heap.get? p.1 = some p.2) → (∀ b ∈ fp, h₀.get? b = none → ∀ o, s₁.heap.get? b = some o → (b, o) ∈ own) → St (i + 1) s₁.heap →
      Fr h₀ env.locals s₁.heap (fun y => if y = x then some v else m₁ y) → News h₀ env.locals s₁.heap (own ++ news₁) →
      wpAny (model prog w) A (execs body env) (StepT h₀ env.locals wr own (J (i + 1)) s₁ (fun v s' => Q (.ret v) s') fun s' => Q .next s') E s₁) ∧
    ∀ h' tk m' news', Fr h₀ env.locals h' m' → News h₀ env.locals h' news' → (∀ p ∈ news', p.1 ∉ wr) → J n m' news' tk → Q .next { s₂ with heap := h', toks := tk }

theorem For_T {E : Value → Shared → Prop} {Q : Flow → Shared → Prop} {x : Str} {px pos : Pos} {iter : Expr} {body : List Stmt} {m : Loc} (_F : Fr h₀ env.locals s.heap m) (hx : env.kindOf x = some .local)
    (hp : (env.scope.kind == .class || (env.scope.kind == .module && env.locals != env.globals)) = false)
    (h : wpAny (model prog w) A (eval iter env) (fun xv s₁ => wpAny (model prog w) A (pyIter xv) (fun it s₂ => LoopAtT prog w A h₀ env x body Q E it s₂) E s₁) E s)
    (hs : ∀ x, foldedSetIterable iter env x = pure x := by intro _; rfl)
    (hE : PassesOwn (model prog w) A env E := by passes_own) :
    wpAny (model prog w) A (exec (.For (.Name x px) iter body [] pos) env) Q E s := by
  refine wpAny_For (wpAny_mono h (fun xv s₁ h₁ => wpAny_mono h₁ (fun it s₂ h₂ => ?_) fun _ _ e => e) fun _ _ e => e) hs
  obtain ⟨I, fp, wr, n, P, St, m, news, J, rfl, W, hLf, hwr, hnw, hst, F, N, h0, hmono, step, hQ⟩ := h₂
  exact forLoop_T (R := fun r s' => match r with | .ok f => Q f s' | .error e => cameBackBy (model prog w) A env E e s') W hx hp hLf hwr hnw hst F N J h0 hmono (by intros; exact wpAny_passesOwn hE (by apply step <;> assumption)) hQ

noncomputable def EndT (h₀ : Heap) (L : Addr) (J : Loc → Led → Nat → Prop) (own : Led) (s₁ s₂ : Shared) : Prop :=
  ∃ h' tk m' news' nx, s₂ = { s₁ with heap := h', toks := tk } ∧ Fr h₀ L h' m' ∧ News h₀ L h' news' ∧ (∀ p ∈ nx, p ∈ news') ∧ (∀ p ∈ own, p ∈ news') ∧ OwnOff own (nx.map (·.1)) ∧ J m' nx tk
noncomputable def PostT (h₀ : Heap) (L : Addr) (J : Loc → Led → Nat → Prop) (own : Led) (s₁ : Shared) (Q : Flow → Shared → Prop) (f : Flow) (s₂ : Shared) : Prop :=
  match f with
  | .ret v => Q (.ret v) s₂
  | .brk => Q .next s₂
  | _ => EndT h₀ L J own s₁ s₂

variable {E : Value → Shared → Prop} {x : Str} {body : List Stmt} {Q : Flow → Shared → Prop}
theorem loopT {I : Addr} {fp wr : List Addr} {n : Nat} {P : Nat → Value → Prop} {St : Nat → Heap → Prop} {m₀ : Loc} {news : Led} (J : Nat → Loc → Led → Nat → Prop)
    (W : Walks prog w A I fp wr n P St) (hfw : ∀ a ∈ fp, a ∈ wr) (hwf : ∀ b ∈ wr, b ∈ fp) (hob : ∀ i h, St i h → ∀ b ∈ wr, ∃ o, h.get? b = some o) (hLf : env.locals ∉ fp) (hwr : ∀ b ∈ wr, h₀.get? b = none) (hnw : ∀ p ∈ news, p.1 ∉ wr) (hst : St 0 s.heap)
    (F : Fr h₀ env.locals s.heap m₀) (N : News h₀ env.locals s.heap news) (hj : J 0 m₀ news s.toks) (hmono : ∀ i m nx t t', t ≤ t' → J i m nx t → J i m nx t')
    (turn : ∀ i v m₁ nx h tk own, i < n → P i v → OwnOff own (nx.map (·.1)) → 1 ≤ tk → J i m₁ nx tk → Fr h₀ env.locals h (fun y => if y = x then some v else m₁ y) → News h₀ env.locals h (nx ++ own) →
      wpAny (model prog w) A (execs body env) (PostT h₀ env.locals (J (i + 1)) own { s with heap := h, toks := tk } Q) E { s with heap := h, toks := tk })
    (done : ∀ m₁ nx h tk, J n m₁ nx tk → Fr h₀ env.locals h m₁ → News h₀ env.locals h nx → Q .next { s with heap := h, toks := tk }) :
    LoopAtT prog w A h₀ env x body Q E (.ref I) s := by
  refine ⟨I, fp, wr, n, P, St, m₀, news, J, rfl, W, hLf, hwr, hnw, hst, F, N, hj, hmono, ?_, ?_⟩
  · rintro i v m₁ news₁ s₁ own ⟨hh', tk', rfl⟩ htk1 hin hP hJ hoff hown _ hmem hst' F₁ N₁
    have hsep : OwnOff own (news₁.map (·.1)) := by
      intro p hp b hb e
      obtain ⟨q, hq, rfl⟩ := List.mem_map.mp hb
      exact hoff q hq (hfw _ (e ▸ hown p hp))
    have N₂ : News h₀ env.locals hh' (news₁ ++ own) := fun p hp => N₁ p ((List.mem_append.mp hp).elim (fun h => List.mem_append.mpr (.inr h)) fun h => List.mem_append.mpr (.inl h))
    refine wpAny_mono (turn i v m₁ news₁ hh' tk' own hin hP hsep htk1 hJ F₁ N₂) (fun f s₂ p => ?_) fun _ _ e => e
    have fin : EndT h₀ env.locals (J (i + 1)) own { s with heap := hh', toks := tk' } s₂ → ∃ h' tk m₂ news₂, s₂ = { ({ s with heap := hh', toks := tk' } : Shared) with heap := h', toks := tk } ∧ Fr h₀ env.locals h' m₂ ∧ News h₀ env.locals h' (own ++ news₂) ∧ (∀ p ∈ news₂, p.1 ∉ wr) ∧ J (i + 1) m₂ news₂ tk := by
      rintro ⟨h', tk, m', news', nx, e, F', N', hn, ho, ha, hm⟩
      refine ⟨h', tk, m', nx, e, F', fun p hp => N' p ((List.mem_append.mp hp).elim (ho p) (hn p)), fun p hp hq => ?_, hm⟩
      obtain ⟨o, hbo⟩ := hob _ _ hst' _ hq
      exact ha _ (hmem _ (hwf _ hq) (hwr _ hq) o hbo) p.1 (List.mem_map.mpr ⟨p, hp, rfl⟩) rfl
    cases f with
    | ret v => exact p
    | brk => exact p
    | next => exact fin p
    | cont => exact fin p
  · rintro h' tk m' news' F' N' _ hJ
    exact done m' news' h' tk hJ F' N'

theorem rangeT {r : Addr} {a₀ b₀ : Int} {t₀ u₀ v₀ : Tok} {n : Nat} {m₀ : Loc} {news : Led} (J : Nat → Loc → Led → Nat → Prop)
    (hh : A.handled = none) (hr : IsRange s.heap r a₀ b₀ 1 t₀ u₀ v₀) (hsmall : Builtin.Range.small a₀ b₀ 1 = true) (hsz : Builtin.Range.rangeSize a₀ b₀ 1 = (n : Int)) (F : Fr h₀ env.locals s.heap m₀) (N : News h₀ env.locals s.heap news) (hj : J 0 m₀ news s.toks) (hmono : ∀ i m nx t t', t ≤ t' → J i m nx t → J i m nx t')
    (turn : ∀ i t m₁ nx h tk own, i < n → OwnOff own (nx.map (·.1)) → 1 ≤ tk → J i m₁ nx tk → Fr h₀ env.locals h (fun y => if y = x then some (.int (a₀ + (i : Int)) t) else m₁ y) → News h₀ env.locals h (nx ++ own) →
      wpAny (model prog w) A (execs body env) (PostT h₀ env.locals (J (i + 1)) own { s with heap := h, toks := tk } Q) E { s with heap := h, toks := tk })
    (done : ∀ m₁ nx h tk, J n m₁ nx tk → Fr h₀ env.locals h m₁ → News h₀ env.locals h nx → Q .next { s with heap := h, toks := tk }) :
    wpAny (model prog w) A (pyIter (.ref r)) (fun it s₂ => LoopAtT prog w A h₀ env x body Q E it s₂) E s := by
  refine wpAny_up (wpAny_pyIter_range hr hsmall ?_)
  intro htk
  have W : Walks prog w A s.heap.objs.size [s.heap.objs.size] [s.heap.objs.size] n (fun i v => i < n ∧ ∃ t, v = .int (a₀ + i * 1) t)
      (fun i h => IsRangeIter h s.heap.objs.size (a₀ + (i : Nat) * 1) ((n : Int) - (i : Nat)) 1) := (Walks.range hh _ a₀ 1 n).bound
  refine loopT J W (fun _ h => h) (fun _ h => h) ?_ ?_ ?_ ?_ (by show IsRangeIter _ _ _ _ _; rw [hsz]; simpa using Heap.get?_push_size _ rfl) (F.push _) (fun p hp => ⟨Heap.get?_push_of_some _ (N p hp).1, (N p hp).2⟩) (hmono _ _ _ _ _ htk hj) hmono ?_ ?_
  · intro i h hi b hb
    rw [List.mem_singleton.mp hb]
    exact ⟨_, hi⟩
  · intro hm
    exact absurd F.ns.lt ((List.mem_singleton.mp hm) ▸ Nat.lt_irrefl _)
  · intro b hb
    rw [List.mem_singleton.mp hb]
    exact next_is_new F
  · intro p hp hI
    exact absurd (Heap.lt_size (N p hp).1) ((List.mem_singleton.mp hI) ▸ Nat.lt_irrefl _)
  · rintro i v m₁ nx h tk own hi ⟨_, t, rfl⟩ hoff htk1 hJ F₁ N₁
    have e1 : a₀ + (i : Int) * 1 = a₀ + (i : Int) := by omega
    rw [e1] at F₁
    exact turn i t m₁ nx h tk own hi hoff htk1 hJ F₁ N₁
  · exact done

theorem seqT {ax : Addr} {lo : Obj} {vs : List Value} {St : Nat → Heap → Prop} {m₀ : Loc} {news : Led} (J : Nat → Loc → Led → Nat → Prop) (h00 : Heap)
    (W : Walks prog w A h00.objs.size [h00.objs.size, ax] [h00.objs.size] vs.length (fun i v => vs[i]? = some v) St) (hoI : ∀ i h, St i h → ∃ o, h.get? h00.objs.size = some o) (hst : St 0 s.heap)
    (hsz : ∀ b o, h00.get? b = some o → s.heap.get? b = some o) (F : Fr h₀ env.locals h00 m₀) (N : News h₀ env.locals h00 news) (hl : (ax, lo) ∈ news) (hj : J 0 m₀ news s.toks) (hmono : ∀ i m nx t t', t ≤ t' → J i m nx t → J i m nx t')
    (hkeep : ∀ i m nx t, J i m nx t → (ax, lo) ∈ nx)
    (turn : ∀ i v m₁ nx h tk own, vs[i]? = some v → OwnOff own (nx.map (·.1)) → 1 ≤ tk → J i m₁ nx tk → Fr h₀ env.locals h (fun y => if y = x then some v else m₁ y) → News h₀ env.locals h (nx ++ own) →
      wpAny (model prog w) A (execs body env) (PostT h₀ env.locals (J (i + 1)) own { s with heap := h, toks := tk } Q) E { s with heap := h, toks := tk })
    (done : ∀ m₁ nx h tk, J vs.length m₁ nx tk → Fr h₀ env.locals h m₁ → News h₀ env.locals h nx → Q .next { s with heap := h, toks := tk }) :
    LoopAtT prog w A h₀ env x body Q E (.ref h00.objs.size) s := by
  have hF : Fr h₀ env.locals s.heap m₀ := ⟨F.ns.at' fun o e => hsz _ o e, fun b o e => hsz b o (F.keep b o e), F.above⟩
  have hN : News h₀ env.locals s.heap news := fun p hp => ⟨hsz _ _ (N p hp).1, (N p hp).2⟩
  refine ⟨h00.objs.size, _, _, vs.length, _, _, m₀, news, J, rfl, W, ?_, ?_, ?_, hst, hF, hN, hj, hmono, ?_, ?_⟩
  · intro hm
    rcases List.mem_cons.mp hm with e | hm
    · exact absurd F.ns.lt (e ▸ Nat.lt_irrefl _)
    · exact (N _ hl).2.1 ((List.mem_singleton.mp hm).symm)
  · intro b hb
    rw [List.mem_singleton.mp hb]
    exact next_is_new F
  · intro p hp hI
    exact absurd (Heap.lt_size (N p hp).1) ((List.mem_singleton.mp hI) ▸ Nat.lt_irrefl _)
  · rintro i v m₁ news₁ s₁ own ⟨hh', tk', rfl⟩ htk1 hin hP hJ hoff hown hget hfp hst F₁ N₁
    have hl₁ := hkeep _ _ _ _ hJ
    have hI0 : h₀.get? h00.objs.size = none := next_is_new F
    obtain ⟨oI, hoI⟩ := hoI _ _ hst
    have hIown : (h00.objs.size, oI) ∈ own.filter fun p => decide (p.1 = h00.objs.size) := List.mem_filter.mpr ⟨hfp _ (List.mem_cons.mpr (.inl rfl)) hI0 _ hoI, by simp⟩
    have hsep : OwnOff (own.filter fun p => decide (p.1 = h00.objs.size)) (news₁.map (·.1)) := by
      intro p hp b hb e
      obtain ⟨q, hq, rfl⟩ := List.mem_map.mp hb
      have h1 : p.1 = h00.objs.size := by simpa using (List.mem_filter.mp hp).2
      exact hoff q hq (List.mem_singleton.mpr (e ▸ h1))
    have N₂ : News h₀ env.locals hh' (news₁ ++ own.filter fun p => decide (p.1 = h00.objs.size)) := fun p hp => N₁ p ((List.mem_append.mp hp).elim (fun h => List.mem_append.mpr (.inr h)) fun h => List.mem_append.mpr (.inl ((List.mem_filter.mp h).1)))
    have hlo : hh'.get? ax = some lo := (N₁ _ (List.mem_append.mpr (.inr hl₁))).1
    refine wpAny_mono (turn i v m₁ news₁ hh' tk' _ hP hsep htk1 hJ F₁ N₂) (fun f s₂ p => ?_) fun _ _ e => e
    have fin : EndT h₀ env.locals (J (i + 1)) (own.filter fun p => decide (p.1 = h00.objs.size)) { s with heap := hh', toks := tk' } s₂ →
        ∃ h' tk m₂ news₂, s₂ = { ({ s with heap := hh', toks := tk' } : Shared) with heap := h', toks := tk } ∧ Fr h₀ env.locals h' m₂ ∧ News h₀ env.locals h' (own ++ news₂) ∧ (∀ p ∈ news₂, p.1 ∉ [h00.objs.size]) ∧ J (i + 1) m₂ news₂ tk := by
      rintro ⟨h', tk, m', news', nx, e, F', N', hn, ho, ha, hm⟩
      refine ⟨h', tk, m', nx, e, F', fun p hp => ?_, fun p hp hq => ?_, hm⟩
      · rcases List.mem_append.mp hp with h | h
        · by_cases hI : p.1 = h00.objs.size
          · exact N' p (ho p (List.mem_filter.mpr ⟨h, by simpa using hI⟩))
          · have h1 : p.1 = ax := by
              rcases List.mem_cons.mp (hown p h) with h2 | h2
              · exact absurd h2 hI
              · exact List.mem_singleton.mp h2
            have h2 : hh'.get? p.1 = some p.2 := hget p h
            rw [h1, hlo] at h2
            have h3 : p = (ax, lo) := Prod.ext h1 (Option.some.inj h2).symm
            rw [h3]
            exact N' _ (hn _ (hkeep _ _ _ _ hm))
        · exact N' p (hn p h)
      · exact ha _ hIown p.1 (List.mem_map.mpr ⟨p, hp, rfl⟩) (List.mem_singleton.mp hq).symm
    cases f with
    | ret v => exact p
    | brk => exact p
    | next => exact fin p
    | cont => exact fin p
  · rintro h' tk m' news' F' N' _ hJ
    exact done m' news' h' tk hJ F' N'

theorem lstT {ax : Addr} {vs : List Value} {nn : Nat} {m₀ : Loc} {news : Led} (J : Nat → Loc → Led → Nat → Prop)
    (hh : A.handled = none) (hl : (ax, listOf vs.toArray nn) ∈ news) (F : Fr h₀ env.locals s.heap m₀) (N : News h₀ env.locals s.heap news) (hj : J 0 m₀ news s.toks) (hmono : ∀ i m nx t t', t ≤ t' → J i m nx t → J i m nx t')
    (hkeep : ∀ i m nx t, J i m nx t → (ax, listOf vs.toArray nn) ∈ nx)
    (turn : ∀ i v m₁ nx h tk own, vs[i]? = some v → OwnOff own (nx.map (·.1)) → 1 ≤ tk → J i m₁ nx tk → Fr h₀ env.locals h (fun y => if y = x then some v else m₁ y) → News h₀ env.locals h (nx ++ own) →
      wpAny (model prog w) A (execs body env) (PostT h₀ env.locals (J (i + 1)) own { s with heap := h, toks := tk } Q) E { s with heap := h, toks := tk })
    (done : ∀ m₁ nx h tk, J vs.length m₁ nx tk → Fr h₀ env.locals h m₁ → News h₀ env.locals h nx → Q .next { s with heap := h, toks := tk }) :
    wpAny (model prog w) A (pyIter (.ref ax)) (fun it s₂ => LoopAtT prog w A h₀ env x body Q E it s₂) E s := by
  have hol : s.heap.get? ax = some (listOf vs.toArray nn) := (N _ hl).1
  have hls : s.heap.IsList ax vs.toArray := ⟨_, hol, rfl, nn, rfl⟩
  have hne : ax ≠ s.heap.objs.size := Nat.ne_of_lt (Heap.lt_size hol)
  refine wpAny_up (wpAny_pyIter_list hls ?_)
  intro htk
  have W := Walks.list (prog := prog) (w := w) hh s.heap.objs.size ax hne vs.toArray
  have hlen : vs.toArray.size = vs.length := by simp
  rw [hlen] at W
  have hP : (fun (i : Nat) (v : Value) => vs.toArray[i]? = some v) = fun i v => vs[i]? = some v := by funext i v; simp
  rw [hP] at W
  exact seqT J s.heap W (fun i h st => ⟨_, st.1.choose_spec.1⟩) ⟨⟨_, Heap.get?_push_size _ rfl, rfl, rfl⟩, hls.at fun o e => Heap.get?_push_of_some _ e⟩ (fun b o e => Heap.get?_push_of_some _ e) F N hl (hmono _ _ _ _ _ htk hj) hmono hkeep turn done

theorem tupT {ax : Addr} {lo : Obj} {vs : List Value} {n : Nat} {m₀ : Loc} {news : Led} (J : Nat → Loc → Led → Nat → Prop)
    (hh : A.handled = none) (hl : (ax, lo) ∈ news) (hc : lo.cls = .type "tuple") (hd : lo.data = .seq vs.toArray n) (F : Fr h₀ env.locals s.heap m₀) (N : News h₀ env.locals s.heap news) (hj : J 0 m₀ news s.toks) (hmono : ∀ i m nx t t', t ≤ t' → J i m nx t → J i m nx t')
    (hkeep : ∀ i m nx t, J i m nx t → (ax, lo) ∈ nx)
    (turn : ∀ i v m₁ nx h tk own, vs[i]? = some v → OwnOff own (nx.map (·.1)) → 1 ≤ tk → J i m₁ nx tk → Fr h₀ env.locals h (fun y => if y = x then some v else m₁ y) → News h₀ env.locals h (nx ++ own) →
      wpAny (model prog w) A (execs body env) (PostT h₀ env.locals (J (i + 1)) own { s with heap := h, toks := tk } Q) E { s with heap := h, toks := tk })
    (done : ∀ m₁ nx h tk, J vs.length m₁ nx tk → Fr h₀ env.locals h m₁ → News h₀ env.locals h nx → Q .next { s with heap := h, toks := tk }) :
    wpAny (model prog w) A (pyIter (.ref ax)) (fun it s₂ => LoopAtT prog w A h₀ env x body Q E it s₂) E s := by
  have hol : s.heap.get? ax = some lo := (N _ hl).1
  have hls : s.heap.IsTuple ax vs.toArray := ⟨lo, hol, hc, n, hd⟩
  have hne : ax ≠ s.heap.objs.size := Nat.ne_of_lt (Heap.lt_size hol)
  refine wpAny_up (wpAny_pyIter_tuple hls ?_)
  intro htk
  have W := Walks.tuple (prog := prog) (w := w) hh s.heap.objs.size ax hne vs.toArray
  have hlen : vs.toArray.size = vs.length := by simp
  rw [hlen] at W
  have hP : (fun (i : Nat) (v : Value) => vs.toArray[i]? = some v) = fun i v => vs[i]? = some v := by funext i v; simp
  rw [hP] at W
  exact seqT J s.heap W (fun i h st => ⟨_, st.1.choose_spec.1⟩) ⟨⟨_, Heap.get?_push_size _ rfl, rfl, rfl⟩, hls.at fun o e => Heap.get?_push_of_some _ e⟩ (fun b o e => Heap.get?_push_of_some _ e) F N hl (hmono _ _ _ _ _ htk hj) hmono hkeep turn done
end
end Mine
end
section
open PySem PySem.W PyProof.Rows PySem.Spec
namespace Mine
noncomputable def JG {σ : Type} (x : Str) (stored : List Str) (m₀ : Loc) (Le : σ → Led) (ps : σ → List (Str × Value)) (P : Nat → σ → Nat → Prop) (i : Nat) (m : Loc) (nx : Led) (tk : Nat) : Prop :=
  ∃ c, P i c tk ∧ nx = Le c ∧ (∀ p ∈ ps c, m p.1 = some p.2) ∧ ∀ z, z ≠ x → (∀ p ∈ ps c, z ≠ p.1) → stored.contains z = false → m z = m₀ z
noncomputable abbrev LocG (x : Str) (v : Option Value) (stored : List Str) (u m₀ : Loc) (ps : List (Str × Value)) : Loc := fun y => if y = x then v else kstB (fun z => if stored.contains z then u z else m₀ z) ps y
section
variable {prog : Program} {w : World} {A : Around} {s : Shared} {env : Env} {h₀ : Heap} {E : Value → Shared → Prop} {x : Str} {body : List Stmt} {Q : Flow → Shared → Prop}
theorem rangeG {σ : Type} (stored : List Str) (Le : σ → Led) (ps : σ → List (Str × Value)) (P : Nat → σ → Nat → Prop) (c₀ : σ) {r : Addr} {a₀ b₀ : Int} {t₀ u₀ v₀ : Tok} {n : Nat} {m₀ : Loc}
    (hh : A.handled = none) (hr : IsRange s.heap r a₀ b₀ 1 t₀ u₀ v₀) (hsmall : Builtin.Range.small a₀ b₀ 1 = true) (hsz : Builtin.Range.rangeSize a₀ b₀ 1 = (n : Int)) (F : Fr h₀ env.locals s.heap m₀) (N : News h₀ env.locals s.heap (Le c₀)) (hk : ∀ p ∈ ps c₀, m₀ p.1 = some p.2) (hj : P 0 c₀ s.toks) (hmono : ∀ i c t t', t ≤ t' → P i c t → P i c t')
    (turn : ∀ i c t (u : Loc) h tk own, i < n → 1 ≤ tk → P i c tk → OwnOff own ((Le c).map (·.1)) → Fr h₀ env.locals h (fun y => if y = x then some (.int (a₀ + (i : Int)) t) else kstB (fun z => if stored.contains z then u z else m₀ z) (ps c) y) → News h₀ env.locals h (Le c ++ own) →
      wpAny (model prog w) A (execs body env) (PostT h₀ env.locals (JG x stored m₀ Le ps P (i + 1)) own { s with heap := h, toks := tk } Q) E { s with heap := h, toks := tk })
    (done : ∀ c (u : Loc) h tk, P n c tk → Fr h₀ env.locals h (fun y => if y = x then u y else kstB (fun z => if stored.contains z then u z else m₀ z) (ps c) y) → News h₀ env.locals h (Le c) → Q .next { s with heap := h, toks := tk }) :
    wpAny (model prog w) A (pyIter (.ref r)) (fun it s₂ => LoopAtT prog w A h₀ env x body Q E it s₂) E s := by
  refine rangeT (JG x stored m₀ Le ps P) hh hr hsmall hsz F N ⟨c₀, hj, rfl, hk, fun _ _ _ _ => rfl⟩ (fun i m nx t t' ht ⟨c, h1, h2⟩ => ⟨c, hmono _ _ _ _ ht h1, h2⟩) ?_ ?_
  · rintro i t m₁ nx h tk own hi hoff htk ⟨c, hP, rfl, h1, h2⟩ F' N'
    exact turn i c t m₁ h tk own hi htk hP hoff (kst_fr h1 h2 F') N'
  · rintro m₁ nx h tk ⟨c, hP, rfl, h1, h2⟩ F' N'
    exact done c m₁ h tk hP (kst_frOut h1 h2 F') N'
theorem lstG {σ : Type} (stored : List Str) (Le : σ → Led) (ps : σ → List (Str × Value)) (P : Nat → σ → Nat → Prop) (c₀ : σ) {ax : Addr} {vs : List Value} {nn : Nat} {m₀ : Loc}
    (hh : A.handled = none) (hl : ∀ c, (ax, listOf vs.toArray nn) ∈ Le c) (F : Fr h₀ env.locals s.heap m₀) (N : News h₀ env.locals s.heap (Le c₀)) (hk : ∀ p ∈ ps c₀, m₀ p.1 = some p.2) (hj : P 0 c₀ s.toks) (hmono : ∀ i c t t', t ≤ t' → P i c t → P i c t')
    (turn : ∀ i v c (u : Loc) h tk own, vs[i]? = some v → 1 ≤ tk → P i c tk → OwnOff own ((Le c).map (·.1)) → Fr h₀ env.locals h (fun y => if y = x then some v else kstB (fun z => if stored.contains z then u z else m₀ z) (ps c) y) → News h₀ env.locals h (Le c ++ own) →
      wpAny (model prog w) A (execs body env) (PostT h₀ env.locals (JG x stored m₀ Le ps P (i + 1)) own { s with heap := h, toks := tk } Q) E { s with heap := h, toks := tk })
    (done : ∀ c (u : Loc) h tk, P vs.length c tk → Fr h₀ env.locals h (fun y => if y = x then u y else kstB (fun z => if stored.contains z then u z else m₀ z) (ps c) y) → News h₀ env.locals h (Le c) → Q .next { s with heap := h, toks := tk }) :
    wpAny (model prog w) A (pyIter (.ref ax)) (fun it s₂ => LoopAtT prog w A h₀ env x body Q E it s₂) E s := by
  refine lstT (JG x stored m₀ Le ps P) hh (hl c₀) F N ⟨c₀, hj, rfl, hk, fun _ _ _ _ => rfl⟩ (fun i m nx t t' ht ⟨c, h1, h2⟩ => ⟨c, hmono _ _ _ _ ht h1, h2⟩) (fun i m nx t ⟨c, _, h2, _⟩ => by rw [h2]; exact hl c) ?_ ?_
  · rintro i v m₁ nx h tk own hi hoff htk ⟨c, hP, rfl, h1, h2⟩ F' N'
    exact turn i v c m₁ h tk own hi htk hP hoff (kst_fr h1 h2 F') N'
  · rintro m₁ nx h tk ⟨c, hP, rfl, h1, h2⟩ F' N'
    exact done c m₁ h tk hP (kst_frOut h1 h2 F') N'
theorem endG {σ : Type} {stored : List Str} {Le : σ → Led} {ps : σ → List (Str × Value)} {P : Nat → σ → Nat → Prop} {m₀ m' : Loc} {h' : Heap} {L : Addr} {own news' : Led} {i : Nat} {s₁ : Shared} {tk : Nat} (c : σ) (F : Fr h₀ L h' m') (N : News h₀ L h' news') (hP : P (i + 1) c tk) (hn : ∀ p ∈ Le c, p ∈ news') (ho : ∀ p ∈ own, p ∈ news') (hoff : OwnOff own ((Le c).map (·.1)))
    (hk : ∀ p ∈ ps c, m' p.1 = some p.2) (hr : ∀ z, z ≠ x → (∀ p ∈ ps c, z ≠ p.1) → stored.contains z = false → m' z = m₀ z) :
    PostT h₀ L (JG x stored m₀ Le ps P (i + 1)) own s₁ Q .next { s₁ with heap := h', toks := tk } := ⟨h', tk, m', news', Le c, rfl, F, N, hn, ho, hoff, c, hP, rfl, hk, hr⟩
end
theorem all1 {α : Type} {P : α → Prop} {a : α} (h : P a) : ∀ p ∈ [a], P p := fun p hp => by rw [List.mem_singleton.mp hp]; exact h
theorem allN {α : Type} {P : α → Prop} : ∀ p ∈ ([] : List α), P p := fun _ hp => nomatch hp
theorem allC {α : Type} {P : α → Prop} {a : α} {l : List α} (h : P a) (hl : ∀ p ∈ l, P p) : ∀ p ∈ a :: l, P p := fun p hp => by
  rcases List.mem_cons.mp hp with rfl | hp
  · exact h
  · exact hl p hp
end Mine
end
section
open PySem PySem.W PyProof.Rows PySem.Spec
namespace Mine
noncomputable def ExitW {σ : Type} (h₀ : Heap) (L : Addr) (s : Shared) (Le : σ → Led) (ps : σ → List (Str × Value)) (stored : List Str) (m₀ : Loc) (R : σ → Prop) (s₂ : Shared) : Prop :=
  ∃ c h tk m' news', s₂ = { s with heap := h, toks := tk } ∧ Fr h₀ L h m' ∧ News h₀ L h news' ∧ (∀ p ∈ Le c, p ∈ news') ∧ (∀ p ∈ ps c, m' p.1 = some p.2) ∧ (∀ z, (∀ p ∈ ps c, z ≠ p.1) → stored.contains z = false → m' z = m₀ z) ∧ R c
noncomputable def MidQ (X : Shared → Prop) (Q : Flow → Shared → Prop) (f : Flow) (s : Shared) : Prop := match f with
  | .next => X s
  | f => Q f s
noncomputable def SetW (h₀ : Heap) (L : Addr) (s : Shared) (news : Led) (x : Str) (m₀ : Loc) (R : Value → Led → Prop) (s₂ : Shared) : Prop :=
  ∃ v nw h tk m' news', s₂ = { s with heap := h, toks := tk } ∧ Fr h₀ L h m' ∧ News h₀ L h news' ∧ (∀ p ∈ nw ++ news, p ∈ news') ∧ m' x = some v ∧ (∀ z, z ≠ x → m' z = m₀ z) ∧ R v nw
section
variable {prog : Program} {w : World} {A : Around} {s : Shared} {env : Env} {h₀ : Heap} {L : Addr} {E : Value → Shared → Prop} {Q : Flow → Shared → Prop}
theorem while_mid {σ : Type} {test : PySem.Expr} {body : List Stmt} {pos : Pos} {m₀ : Loc} (Le : σ → Led) (ps : σ → List (Str × Value)) (stored : List Str) (P : σ → Prop) (μ : σ → Nat) (R : σ → Prop) (c₀ : σ)
    (F : Fr h₀ L s.heap m₀) (N : News h₀ L s.heap (Le c₀)) (hk : ∀ p ∈ ps c₀, m₀ p.1 = some p.2) (hp : P c₀)
    (turn : ∀ (c : σ) (u : Loc) h tk, P c → Fr h₀ L h (kstB (fun z => if stored.contains z then u z else m₀ z) (ps c)) → News h₀ L h (Le c) →
      wpAny (model prog w) A (isTrue test env (eval test env)) (fun b s₂ =>
        if b = true then wpAny (model prog w) A (execs body env) (KswPost h₀ L s Le ps (fun _ => True) stored m₀ P μ (MidQ (ExitW h₀ L s Le ps stored m₀ R) Q) c) E s₂ else ExitW h₀ L s Le ps stored m₀ R s₂) E { s with heap := h, toks := tk })
    (done : ∀ (c : σ) (u : Loc) h tk, R c → Fr h₀ L h (kstB (fun z => if stored.contains z then u z else m₀ z) (ps c)) → News h₀ L h (Le c) → Q .next { s with heap := h, toks := tk })
    (hE : PassesOwn (model prog w) A env E := by passes_own) :
    wpAny (model prog w) A (exec (.While test body [] pos) env) Q E s := by
  refine wpAny_mono (ksw_while (Q := MidQ (ExitW h₀ L s Le ps stored m₀ R) Q) Le ps (fun _ => True) stored P μ c₀ F N trivial hk hp (fun c u h tk _ hP F' N' => turn c u h tk hP F' N') hE) (fun f s' q => ?_) fun _ _ e => e
  cases f with
  | next =>
    obtain ⟨c, h, tk, m', news', rfl, F', N', hn, h1, h2, hR⟩ := q
    exact done c m' h tk hR (ksw_fr h1 h2 F') (fun p hp => N' p (hn p hp))
  | ret v => exact q
  | brk => exact q
  | cont => exact q
theorem exitW {σ : Type} {Le : σ → Led} {ps : σ → List (Str × Value)} {stored : List Str} {m₀ m' : Loc} {R : σ → Prop} {h : Heap} {tk : Nat} {news' : Led} (c : σ) (F : Fr h₀ L h m') (N : News h₀ L h news') (hn : ∀ p ∈ Le c, p ∈ news') (h1 : ∀ p ∈ ps c, m' p.1 = some p.2) (h2 : ∀ z, (∀ p ∈ ps c, z ≠ p.1) → stored.contains z = false → m' z = m₀ z) (hR : R c) :
    ExitW h₀ L s Le ps stored m₀ R { s with heap := h, toks := tk } := ⟨c, h, tk, m', news', rfl, F, N, hn, h1, h2, hR⟩
theorem set_mid {st : Stmt} {x : Str} {m₀ : Loc} {news : Led} (R : Value → Led → Prop) (F : Fr h₀ L s.heap m₀) (N : News h₀ L s.heap news)
    (h : wpAny (model prog w) A (exec st env) (MidQ (SetW h₀ L s news x m₀ R) Q) E s)
    (done : ∀ v nw h tk, R v nw → Fr h₀ L h (fun y => if y = x then some v else m₀ y) → News h₀ L h (nw ++ news) → Q .next { s with heap := h, toks := tk }) :
    wpAny (model prog w) A (exec st env) Q E s := by
  refine wpAny_mono h (fun f s' q => ?_) fun _ _ e => e
  cases f with
  | next =>
    obtain ⟨v, nw, h, tk, m', news', rfl, F', N', hn, h1, h2, hR⟩ := q
    have e : (fun y => if y = x then some v else m₀ y) = m' := by
      funext y
      by_cases hy : y = x
      · subst hy; simp [h1]
      · simp only [if_neg hy]; exact (h2 y hy).symm
    exact done v nw h tk hR (by rw [e]; exact F') (fun p hp => N' p (hn p hp))
  | ret v => exact q
  | brk => exact q
  | cont => exact q
theorem setW {x : Str} {m₀ m' : Loc} {news news' : Led} {R : Value → Led → Prop} {h : Heap} {tk : Nat} (v : Value) (nw : Led) (F : Fr h₀ L h m') (N : News h₀ L h news') (hn : ∀ p ∈ nw ++ news, p ∈ news') (h1 : m' x = some v) (h2 : ∀ z, z ≠ x → m' z = m₀ z) (hR : R v nw) :
    SetW h₀ L s news x m₀ R { s with heap := h, toks := tk } := ⟨v, nw, h, tk, m', news', rfl, F, N, hn, h1, h2, hR⟩
end
end Mine
end
section
open PySem PySem.W PyProof.Rows PySem.Flt
namespace Mine
theorem topOffOd : True := by
  w_top off
  trivial

section
variable {prog : Program} {w : World} {A : Around} {E : Value → Shared → Prop} {s : Shared} {h₀ : Heap} {L D : Addr} {m : Str → Option Value} {news news' : List (Addr × Obj)} {its : Array Value} {n : Nat}
theorem del_K {i : Int} {u : Tok} {q : List Value} {Q : Unit → Shared → Prop} (F : Fr h₀ L s.heap m) (N : News h₀ L s.heap news) (h0 : 0 ≤ i) (h1 : i < its.size) (hf : i < 2 ^ 63) (hq : its.toList.eraseIdx i.toNat = q) (U : Upd D (listOf its n) (listOf q.toArray (n + 1)) news news')
    (h : ∀ h', Fr h₀ L h' m → News h₀ L h' news' → Q () { s with heap := h' }) (hsz : its.size ≤ 16) : wpAny (model prog w) A (delItem (.ref D) (.int i u)) Q E s := by
  obtain ⟨pre, post, rfl, rfl, a, b⟩ := U.split
  subst hq
  have z := N (D, listOf its n) (List.mem_append.mpr (.inr (.head _)))
  have hk : seqIndex? i its.size = some i.toNat := by
    unfold seqIndex?
    have : ¬ i < 0 := by omega
    simp only [this, if_false]
    rw [if_pos (by simp only [Bool.and_eq_true, decide_eq_true_eq]; omega)]
  exact delItem_at (hsz := Nat.le_trans hsz (by decide)) z.1 (fitsIndex_of h0 hf) hk fun h' hs ho' => h h' (F.change hs z.2.1 z.2.2) (news_set N a b hs ho')
theorem item_getD {value slice : PySem.Expr} {k : Int} {u : Tok} {Q : Value → Shared → Prop} (N : News h₀ L s.heap news) (hm : (D, listOf its n) ∈ news) (h0 : 0 ≤ k) (h1 : k < its.size) (hf : k < 2 ^ 63) (h : Q (its.toList.getD k.toNat .none) s)
    (hs : subscripted slice false (.ref D) (.int k u) = operate [.ref D, .int k u] (getItem (.ref D) (.int k u)) := by with_unfolding_all rfl) :
    wpAny (model prog w) A (subscriptTail value slice (.ref D) (.int k u)) Q E s := by
  have hl : s.heap.IsList D its := ⟨_, (N _ hm).1, rfl, n, rfl⟩
  have hlt : k.toNat < its.size := by omega
  refine tail_any hl.typeIs slot_list_getitem.lookup (wpAny_getItem_list hl h0 hf (x := its[k.toNat]) (by simp [hlt]) ?_) hs
  have : its.toList.getD k.toNat .none = its[k.toNat] := by simp [hlt]
  rw [← this]; exact h
end
noncomputable def oK (k : Int) : Nat → Int
  | 0 => k
  | i + 1 => (oK k i).fdiv (4 - (i : Int))
noncomputable def oA (k : Int) (i : Nat) : Nat := ((oK k i).fmod (4 - (i : Int))).toNat
noncomputable def oL (v : List Value) (k : Int) : Nat → List Value
  | 0 => v
  | i + 1 => (oL v k i).eraseIdx (oA k i)
noncomputable def oT (v : List Value) (k : Int) : Nat → List Value
  | 0 => []
  | i + 1 => oT v k i ++ [(oL v k i).getD (oA k i) .none]
theorem oA_lt {k : Int} {i : Nat} (hi : i < 4) : 0 ≤ (oK k i).fmod (4 - (i : Int)) ∧ (oK k i).fmod (4 - (i : Int)) < 4 - (i : Int) := ⟨Int.fmod_nonneg_of_pos _ (by omega), Int.fmod_lt_of_pos _ (by omega)⟩
theorem oL_len {v : List Value} {k : Int} (hv : v.length = 4) : ∀ {i : Nat}, i ≤ 4 → (oL v k i).length = 4 - i
  | 0, _ => hv
  | i + 1, h => by
    have ih := oL_len (k := k) hv (i := i) (by omega)
    have := oA_lt (k := k) (i := i) (by omega)
    show ((oL v k i).eraseIdx (oA k i)).length = _
    rw [List.length_eraseIdx_of_lt (by unfold oA; omega), ih]; omega
theorem oT_len {v : List Value} {k : Int} : ∀ {i : Nat}, (oT v k i).length = i
  | 0 => rfl
  | i + 1 => by show (oT v k i ++ _).length = _; rw [List.length_append, oT_len]; rfl
noncomputable def JO (v : List Value) (k : Int) (a b c : Addr) (tup : Obj) (news : Led) (m₀ : Loc) (i : Nat) (m : Loc) (nx : Led) (_ : Nat) : Prop :=
  i ≤ 4 ∧ nx = (a, tup) :: (b, listOf (oT v k i).toArray i) :: (c, listOf (oL v k i).toArray i) :: news ∧ ∃ t, (∀ p ∈ [(Str.ofString "number", Value.int (oK k i) t)], m p.1 = some p.2) ∧ ∀ z, z ≠ Str.ofString "size" → (∀ p ∈ [(Str.ofString "number", Value.int (oK k i) t)], z ≠ p.1) → ([] : List Str).contains z = false → m z = m₀ z
theorem sizes {t1 t2 t3 t4 : Tok} {i : Nat} {v : Value} (h : [Value.int 4 t1, Value.int 3 t2, Value.int 2 t3, Value.int 1 t4][i]? = some v) : i < 4 ∧ ∃ t, v = .int (4 - (i : Int)) t := by
  match i, h with
  | 0, h => exact ⟨by omega, t1, by simpa using h.symm⟩
  | 1, h => exact ⟨by omega, t2, by simpa using h.symm⟩
  | 2, h => exact ⟨by omega, t3, by simpa using h.symm⟩
  | 3, h => exact ⟨by omega, t4, by simpa using h.symm⟩
  | i + 4, h => simp at h

noncomputable abbrev LedO (v : List Value) (k : Int) (a b c : Addr) (tup : Obj) (news : Led) (i : Nat) : Led := (a, tup) :: (b, listOf (oT v k i).toArray i) :: (c, listOf (oL v k i).toArray i) :: news
theorem order_loop {prog : Program} {w : World} {A : Around} {E : Value → Shared → Prop} {s : Shared} {env : Env} {h₀ : Heap} {body : List Stmt} {Q : Flow → Shared → Prop} {a b c : Addr} {tup : Obj} {n : Nat} {t0 t1 t2 t3 s0 s1 s2 s3 tn : Tok} {m₀ : Loc} {news : Led} {k : Int}
    (hh : A.handled = none) (hc : tup.cls = .type "tuple") (hd : tup.data = .seq #[.int 4 s0, .int 3 s1, .int 2 s2, .int 1 s3] n) (F : Fr h₀ env.locals s.heap m₀)
    (N : News h₀ env.locals s.heap ((a, tup) :: (b, listOf #[] 0) :: (c, listOf #[.int 0 t0, .int 1 t1, .int 2 t2, .int 3 t3] 0) :: news)) (hk : m₀ (Str.ofString "number") = some (.int k tn))
    (turn : ∀ i t tz h tk own (u : Loc), i < 4 → (oL [.int 0 t0, .int 1 t1, .int 2 t2, .int 3 t3] k i).length = 4 - i → (oT [.int 0 t0, .int 1 t1, .int 2 t2, .int 3 t3] k i).length = i → OwnOff own ((LedO [.int 0 t0, .int 1 t1, .int 2 t2, .int 3 t3] k a b c tup news i).map (·.1)) → Fr h₀ env.locals h (fun y => if y = Str.ofString "size" then some (.int (4 - (i : Int)) tz) else kstB (fun z => if ([] : List Str).contains z then u z else m₀ z) [(Str.ofString "number", Value.int (oK k i) t)] y) →
      News h₀ env.locals h (LedO [.int 0 t0, .int 1 t1, .int 2 t2, .int 3 t3] k a b c tup news i ++ own) →
      wpAny (model prog w) A (execs body env) (PostT h₀ env.locals (JO [.int 0 t0, .int 1 t1, .int 2 t2, .int 3 t3] k a b c tup news m₀ (i + 1)) own { s with heap := h, toks := tk } Q) E { s with heap := h, toks := tk })
    (done : ∀ (u : Loc) t h tk, Fr h₀ env.locals h (fun y => if y = Str.ofString "size" then u y else kstB (fun z => if ([] : List Str).contains z then u z else m₀ z) [(Str.ofString "number", Value.int (oK k 4) t)] y) → News h₀ env.locals h (LedO [.int 0 t0, .int 1 t1, .int 2 t2, .int 3 t3] k a b c tup news 4) → Q .next { s with heap := h, toks := tk }) :
    wpAny (model prog w) A (pyIter (.ref a)) (fun it s₂ => LoopAtT prog w A h₀ env (Str.ofString "size") body Q E it s₂) E s := by
  refine tupT (vs := [.int 4 s0, .int 3 s1, .int 2 s2, .int 1 s3]) (JO [.int 0 t0, .int 1 t1, .int 2 t2, .int 3 t3] k a b c tup news m₀) hh (List.Mem.head _) hc hd F N ⟨Nat.zero_le _, rfl, tn, fun p hp => ?_, fun _ _ _ _ => rfl⟩ (fun _ _ _ _ _ _ h => h) (fun _ _ _ _ h => by rw [h.2.1]; exact List.Mem.head _) ?_ ?_
  · rcases List.mem_singleton.mp hp with rfl
    exact hk
  · rintro i v m₁ nx h tk own hv hoff htk ⟨hi, rfl, t, h1, h2⟩ F' N'
    obtain ⟨hi4, tz, rfl⟩ := sizes hv
    exact turn i t tz h tk own m₁ hi4 (oL_len rfl (Nat.le_of_lt hi4)) oT_len hoff (kst_fr h1 h2 F') N'
  · rintro m₁ nx h tk ⟨hi, rfl, t, h1, h2⟩ F' N'
    exact done m₁ t h tk (kst_frOut h1 h2 F') N'

theorem led_mid {h₀ h : Heap} {L : Addr} {x y z : Addr × Obj} {news : Led} (N : News h₀ L h (x :: y :: z :: news)) : News h₀ L h (y :: news) := fun p hp => N p (by
  rcases List.mem_cons.mp hp with rfl | hp
  · exact .tail _ (.head _)
  · exact .tail _ (.tail _ (.tail _ hp)))
theorem postT_intro {h₀ h' : Heap} {L : Addr} {J : Loc → Led → Nat → Prop} {own : Led} {s₁ : Shared} {Q : Flow → Shared → Prop} {m' : Loc} {news' : Led} {tk : Nat} (nx : Led) (F : Fr h₀ L h' m') (N : News h₀ L h' news') (hn : ∀ p ∈ nx, p ∈ news') (ho : ∀ p ∈ own, p ∈ news') (hoff : OwnOff own (nx.map (·.1))) (hJ : J m' nx tk) :
    PostT h₀ L J own s₁ Q .next { s₁ with heap := h', toks := tk } := ⟨h', tk, m', news', nx, rfl, F, N, hn, ho, hoff, hJ⟩
theorem endO {h₀ h' : Heap} {L : Addr} {own : Led} {s₁ : Shared} {Q : Flow → Shared → Prop} {m' : Loc} {tk : Nat} {v : List Value} {k : Int} {a b c : Addr} {tup : Obj} {news : Led} {m₀ : Loc} {i : Nat} {t : Tok} (hi : i < 4) (F : Fr h₀ L h' m')
    (N : News h₀ L h' ((a, tup) :: (b, listOf ((oT v k i).toArray.push ((oL v k i).toArray.toList.getD ((oK k i).fmod (4 - (i : Int))).toNat .none)) (i + 1)) :: (c, listOf (((oL v k i).toArray.toList.eraseIdx ((oK k i).fmod (4 - (i : Int))).toNat).toArray) (i + 1)) :: (news ++ own)))
    (e : m' (Str.ofString "number") = some (.int ((oK k i).fdiv (4 - (i : Int))) t)) (hz : ∀ z, z ≠ Str.ofString "size" → z ≠ Str.ofString "number" → m' z = m₀ z) (hoff : OwnOff own (a :: b :: c :: news.map (·.1))) :
    PostT h₀ L (JO v k a b c tup news m₀ (i + 1)) own s₁ Q .next { s₁ with heap := h', toks := tk } := by
  have e1 : ((oT v k i).toArray.push ((oL v k i).toArray.toList.getD ((oK k i).fmod (4 - (i : Int))).toNat .none)) = (oT v k (i + 1)).toArray := by simp [oT, oA]
  have e2 : (((oL v k i).toArray.toList.eraseIdx ((oK k i).fmod (4 - (i : Int))).toNat).toArray) = (oL v k (i + 1)).toArray := by simp [oL, oA]
  rw [e1, e2] at N
  refine postT_intro (LedO v k a b c tup news (i + 1)) F N (fun p hp => ?_) (fun p hp => ?_) hoff ⟨hi, rfl, t, fun p hp => ?_, fun z h1 h2 _ => hz z h1 (h2 _ (List.Mem.head _))⟩
  · simp only [List.mem_cons, List.mem_append] at hp ⊢; rcases hp with h | h | h | h <;> simp [h]
  · simp only [List.mem_cons, List.mem_append]; simp [hp]
  · rcases List.mem_singleton.mp hp with rfl
    exact e
set_option maxRecDepth 100000 in
set_option maxHeartbeats 8000000 in
set_option pp.deepTerms false in
set_option pp.deepTerms.threshold 4 in
theorem c_order (w : World) (mean : ExcName → Option Value) (mg mb : Str → Option Value) (news : List (Addr × Obj)) (k : Int) (tk : Tok) :
  ∀ (dp un : Nat) (gd : Option (List Code)) (cn : Str) (cs : Scope) (a : Addr) (ccd : Value) (cl : List (Str × Addr)) (outer : List Env) (A₀ : Around) (base h₀ : Heap) (L : Addr) (m : Str → Option Value) (s : Shared) (Q : Value → Shared → Prop) (E : Value → Shared → Prop)
  (_ : Below A₀ base outer h₀) (_ : Fr h₀ L s.heap m) (_ : (Mine.hd.heap_1 w.params).In h₀) (_ : News h₀ L s.heap news) (_ : Top Mine.hdview (looseW Mine.hdview []) mean mg mb h₀) (_ : cs.kind = .function)
  (_ : dp + 1 < recursionLimit) (_ : un + 8 < cLine) (_ : 0 ≤ k) (_ : k < 24)
  (_ : ∀ (h' : Heap) (tk' : Nat) (l : Addr) (t0 t1 t2 t3 : Tok), Fr h₀ L h' m → News h₀ L h' ((l, listOf (oT [.int 0 t0, .int 1 t1, .int 2 t2, .int 3 t3] k 4).toArray 4) :: news) → (∀ p ∈ news, p.1 < l) → Q (.ref l) { s with heap := h', toks := tk' }),
  wpAny (model PySem.Challenge.rw_sw0044_01.row.prog w) (ktrTop dp un gd cn cs L a ccd cl outer) (call (.ref 140) [.int k tk]) Q E s := by
  k_fill
  intro dp un gd cn cs a ccd cl outer A₀ base h₀ L m s Q E kB kF kX kN kT kK kD kU hk0 hk1 hret
  refine wpAny_call ?_
  k_dflt cell_enter
  k_with_none
  k_with "exec For Name Tuple cons nil" => ((rename Fr _ _ _ _ => lF'); (with_unfolding_all refine For_T lF' (by exact rfl) (by exact rfl) ?_); k_whole)
  k_with "exec For Name Name cons nil" => ((rename Fr _ _ _ _ => lF'); (with_unfolding_all refine For_T lF' (by exact rfl) (by exact rfl) ?_); k_whole)
  k_with "exec For Name Call cons nil" => ((rename Fr _ _ _ _ => lF'); (with_unfolding_all refine For_T lF' (by exact rfl) (by exact rfl) ?_); k_whole)
  k_with "pyIter ref" => (k_extra "my iter")
  k_with "subscriptTail" => (k_extra "my item")
  k_with "delItem ref int" => (k_extra "my del")
  k_with "execs cons" => ((rename Fr _ _ _ _ => gF'); (fail_if_success (with_reducible have gK : Fr _ _ _ (kstB _ _) := gF')); (with_reducible (first | replace gF' := fr_f1 gF' | replace gF' := fr_f2 gF' | replace gF' := fr_f3 gF' | replace gF' := fr_f4 gF' | replace gF' := fr_b6 gF' | replace gF' := fr_b5 gF' | replace gF' := fr_b4 gF' | replace gF' := fr_b3 gF' | replace gF' := fr_b2 gF' | replace gF' := fr_b1 gF')))
  k_with "my iter" => ((rename Fr _ _ _ _ => lF'); (rename News _ _ _ _ => lN'); (with_unfolding_all refine' order_loop (by rfl) (by rfl) (by rfl) lF' lN' (by rfl) ?turn ?done); (case' turn => clear lF' lN'; intro i t tz h tk own u hi4 hlen hlenT hoff F' N'; have hMk := kstMark; dsimp only [LedO, List.cons_append, List.map_cons] at N' hoff; have hb := oA_lt (k := k) hi4))
  k_with "my item" => (refine' item_getD ?N ?m ?h0 ?h1 ?hf ?_ ?hs; (case N => k_asm); (case m => k_mem); (case h0 => omega); (case h1 => (simp only [List.size_toArray, hlen]; omega)); (case hf => omega); (case hs => with_unfolding_all rfl); k_whole)
  k_with "my del" => (refine' del_K ?F ?N ?h0 ?h1 ?hf rfl ?U ?_ ?hz; (case F => k_asm); (case N => k_asm); (case U => k_upd); (case h0 => omega); (case h1 => (simp only [List.size_toArray, hlen]; omega)); (case hf => omega); (case hz => (simp only [List.size_toArray, hlen]; omega)); k_whole; intro h' F' N')
  k_steps
  case' turn => exact endO hi4 (by assumption) (by assumption) (by rfl) (by intro z h1 h2; simp only [h1, h2, if_false, kstB, List.contains_nil, Bool.false_eq_true]) hoff
  case' done => ((rename (_ ∧ AllLt _ _) => ll); (rename Fr _ _ _ _ => kF9); (rename News _ _ _ _ => kN9); dsimp only [LedO] at kN9; exact hret _ _ _ _ _ _ _ kF9 (led_mid kN9) (kst_ltOf ll.2))

end Mine
end
section
open PySem PySem.W PyProof.Rows PySem.Flt
namespace Mine
theorem topOffSb : True := by
  w_top off
  trivial

noncomputable def subC (x y : Str) : Int := if (x == y) = true then 0 else if (Txt.lower x == Txt.lower y) = true then 1 else 2
theorem subC0 {x y : Str} (h : (x == y) = true) : subC x y = 0 := by unfold subC; rw [if_pos h]
theorem subC1 {x y : Str} (h : (x == y) = false) (h2 : (Txt.lower x == Txt.lower y) = true) : subC x y = 1 := by unfold subC; rw [if_neg (by rw [h]; decide), if_pos h2]
theorem subC2 {x y : Str} (h : (x == y) = false) (h2 : (Txt.lower x == Txt.lower y) = false) : subC x y = 2 := by unfold subC; rw [if_neg (by rw [h]; decide), if_neg (by rw [h2]; decide)]
set_option maxRecDepth 100000 in
set_option maxHeartbeats 1500000 in
set_option pp.deepTerms false in
set_option pp.deepTerms.threshold 4 in
theorem c_sub (w : World) (mean : ExcName → Option Value) (mg mb : Str → Option Value) (news : List (Addr × Obj)) (x y : Str) (t1 t2 : Tok) :
  ∀ (dp un : Nat) (gd : Option (List Code)) (cn : Str) (cs : Scope) (a : Addr) (ccd : Value) (cl : List (Str × Addr)) (outer : List Env) (A₀ : Around) (base h₀ : Heap) (L : Addr) (m : Str → Option Value) (s : Shared) (Q : Value → Shared → Prop) (E : Value → Shared → Prop)
  (_ : Below A₀ base outer h₀) (_ : Fr h₀ L s.heap m) (_ : (Mine.hd.heap_1 w.params).In h₀) (_ : News h₀ L s.heap news) (_ : Top Mine.hdview (looseW Mine.hdview []) mean mg mb h₀) (_ : cs.kind = .function)
  (_ : dp + 1 < recursionLimit) (_ : un + 8 < cLine) (_ : x.length = 1) (_ : y.length = 1)
  (_ : ∀ (h' : Heap) (tk' : Nat) (t : Tok), Fr h₀ L h' m → News h₀ L h' news → Q (.int (subC x y) t) { s with heap := h', toks := tk' }),
  wpAny (model PySem.Challenge.rw_sw0044_01.row.prog w) (ktrTop dp un gd cn cs L a ccd cl outer) (call (.ref 126) [.str x t1, .str y t2]) Q E s := by
  k_fill
  intro dp un gd cn cs a ccd cl outer A₀ base h₀ L m s Q E kB kF kX kN kT kK kD kU hx hy hret
  refine wpAny_call ?_
  k_dflt cell_enter
  k_with_none
  k_with "exec For Name Tuple cons nil" => ((rename Fr _ _ _ _ => lF'); (with_unfolding_all refine For_T lF' (by exact rfl) (by exact rfl) ?_); k_whole)
  k_with "exec For Name Name cons nil" => ((rename Fr _ _ _ _ => lF'); (with_unfolding_all refine For_T lF' (by exact rfl) (by exact rfl) ?_); k_whole)
  k_with "exec For Name Call cons nil" => ((rename Fr _ _ _ _ => lF'); (with_unfolding_all refine For_T lF' (by exact rfl) (by exact rfl) ?_); k_whole)
  k_with "pyIter ref" => (k_extra "my iter")
  k_with "execs cons" => ((rename Fr _ _ _ _ => gF'); (fail_if_success (with_reducible have gK : Fr _ _ _ (kstB _ _) := gF')); (with_reducible (first | replace gF' := fr_f1 gF' | replace gF' := fr_f2 gF' | replace gF' := fr_f3 gF' | replace gF' := fr_f4 gF' | replace gF' := fr_b6 gF' | replace gF' := fr_b5 gF' | replace gF' := fr_b4 gF' | replace gF' := fr_b3 gF' | replace gF' := fr_b2 gF' | replace gF' := fr_b1 gF')))
  k_steps
  all_goals first
    | (rw [subC0 (by assumption)] at hret; exact hret _ _ _ (by assumption) (by assumption))
    | (rw [subC1 (by assumption) (by assumption)] at hret; exact hret _ _ _ (by assumption) (by assumption))
    | (rw [subC2 (by assumption) (by assumption)] at hret; exact hret _ _ _ (by assumption) (by assumption))

end Mine
end
section
open PySem PySem.W PyProof.Rows PySem.Spec PySem.Builtin PySem.Builtin.Str
namespace Mine
noncomputable def ch (x : Str) (i : Nat) : Nat := x.cps.toList.getD i 0
theorem len_list (x : Str) : x.cps.toList.length = x.length := by show _ = x.cps.size; simp
theorem item_ch {x : Str} {i : Nat} (h : i < x.length) : Txt.item x (i : Int) = ⟨#[ch x i]⟩ := by
  unfold Txt.item Txt.charAt seqIndex? ch
  have h0 : ¬ (i : Int) < 0 := by omega
  simp only [h0, if_false]
  rw [if_pos (by simp only [Bool.and_eq_true, decide_eq_true_eq]; omega)]
  have hl : i < x.cps.size := h
  simp [hl]
theorem item_neg {x : Str} {q : Nat} (h1 : 1 ≤ q) (h : q ≤ x.length) : Txt.item x (-(q : Int)) = ⟨#[ch x (x.length - q)]⟩ := by
  unfold Txt.item Txt.charAt seqIndex? ch
  have h0 : (-(q : Int)) < 0 := by omega
  simp only [h0, if_true]
  rw [if_pos (by simp only [Bool.and_eq_true, decide_eq_true_eq]; omega)]
  have e : (-(q : Int) + (x.length : Int)).toNat = x.length - q := by omega
  rw [e]
  have hl : x.length - q < x.cps.size := by show _ < x.length; omega
  simp [hl]
theorem ext_ch {x y : Str} (hl : y.length = x.length) (h : ∀ i, i < x.length → ch x i = ch y i) : x = y := by
  have e : x.cps.toList = y.cps.toList := by
    apply List.ext_getElem
    · rw [len_list, len_list, hl]
    · intro i h1 h2
      have := h i (by rw [← len_list]; exact h1)
      unfold ch at this
      have a1 : i < x.cps.size := by simpa using h1
      have a2 : i < y.cps.size := by simpa using h2
      simpa [List.getD_eq_getElem?_getD, a1, a2] using this
  have : x.cps = y.cps := Array.toList_inj.mp e
  cases x; cases y; simp_all
theorem one_inj {a b : Nat} (h : ((⟨#[a]⟩ : Str) == ⟨#[b]⟩) = true) : a = b := by
  have := beq_iff_eq.mp h
  simpa using this
theorem one_ne {a b : Nat} (h : ((⟨#[a]⟩ : Str) == ⟨#[b]⟩) = false) : a ≠ b := by
  intro e
  subst e
  simp at h
theorem slice_nn (x : Str) : Txt.slice x none none = x := by
  have h := (slice_closes_fromL (x := x) (i := 0) (b := (x.length : Int)) (Int.le_refl _) (by omega) rfl)
  have e : Txt.slice x none none = Txt.slice x (some 0) none := by
    unfold Txt.slice
    have : strSliceIndices none none 1 x.length = strSliceIndices (some 0) none 1 x.length := by
      have h0 : max (0 : Int) (min 0 (x.length : Int)) = 0 := by omega
      simp [strSliceIndices, h0]
    rw [this]
  rw [e, beq_iff_eq.mp h]
  have hx : x.cps.toList.length = x.length := len_list x
  have : ((x.cps.toList.drop (0 : Int).toNat).take ((x.length : Int) - 0).toNat).toArray = x.cps := by
    have e1 : ((x.length : Int) - 0).toNat = x.cps.toList.length := by rw [hx]; omega
    have e2 : (x.cps.toList.drop (0 : Int).toNat) = x.cps.toList := rfl
    rw [e1, e2, List.take_length]
  exact congrArg Str.mk this
theorem slice_from {x : Str} {i : Nat} (h : i ≤ x.length) : (Txt.slice x (some (i : Int)) none).length = x.length - i ∧ ∀ j, j < x.length - i → ch (Txt.slice x (some (i : Int)) none) j = ch x (i + j) := by
  have e := slice_from_eq (x := x) (i := (i : Int)) (b := (x.length : Int)) (by omega) (by omega) rfl
  rw [e]
  have hx : x.cps.toList.length = x.length := len_list x
  have e1 : ((x.length : Int) - (i : Int)).toNat = x.length - i := by omega
  have e2 : ((i : Int)).toNat = i := by omega
  rw [e1, e2]
  refine ⟨?_, fun j hj => ?_⟩
  · show (((x.cps.toList.drop i).take (x.length - i)).toArray).size = _
    rw [List.size_toArray, List.length_take, List.length_drop, hx]; omega
  · unfold ch
    show (((x.cps.toList.drop i).take (x.length - i)).toArray).toList.getD j 0 = _
    simp only [List.getD_eq_getElem?_getD]
    rw [List.getElem?_take_of_lt hj, List.getElem?_drop]
theorem slice_neg {x : Str} {q : Nat} (h1 : 1 ≤ q) (h : q ≤ x.length) : (Txt.slice x none (some (-(q : Int)))).length = x.length - q ∧ ∀ j, j < x.length - q → ch (Txt.slice x none (some (-(q : Int)))) j = ch x j := by
  rw [slice_to_neg (by omega)]
  have e0 : max 0 ((x.length : Int) + -(q : Int)) = ((x.length - q : Nat) : Int) := by omega
  rw [e0]
  have hx : x.cps.toList.length = x.length := len_list x
  have e := beq_iff_eq.mp (slice_closes_to (x := x) (j := ((x.length - q : Nat) : Int)) ⟨by omega, by rw [hx]; omega⟩)
  rw [e]
  have e1 : (((x.length - q : Nat) : Int) - 0).toNat = x.length - q := by omega
  rw [e1]
  refine ⟨?_, fun j hj => ?_⟩
  · show (((x.cps.toList.drop (0 : Int).toNat).take (x.length - q)).toArray).size = _
    rw [List.size_toArray, List.length_take]; simp; rw [show x.cps.size = x.length from rfl]; omega
  · unfold ch
    show (((x.cps.toList.drop (0 : Int).toNat).take (x.length - q)).toArray).toList.getD j 0 = _
    simp only [List.getD_eq_getElem?_getD]
    rw [List.getElem?_take_of_lt hj]
    simp
noncomputable def df (x y : Str) (i : Nat) : Int := if ch x i = ch y i then 0 else 1
noncomputable def hU (x y : Str) : Nat → Int
  | 0 => 0
  | i + 1 => hU x y i + df x y i
theorem df_bd (x y : Str) (i : Nat) : 0 ≤ df x y i ∧ df x y i ≤ 1 := by unfold df; split <;> omega
theorem hU_zero {x y : Str} : ∀ {i : Nat}, (∀ j, j < i → ch x j = ch y j) → hU x y i = 0
  | 0, _ => rfl
  | i + 1, h => by
    have h1 := hU_zero (i := i) (fun j hj => h j (by omega))
    show hU x y i + df x y i = 0
    rw [h1]; unfold df; rw [if_pos (h i (by omega))]; rfl
theorem hU_bd (x y : Str) : ∀ i : Nat, 0 ≤ hU x y i ∧ hU x y i ≤ i
  | 0 => ⟨Int.le_refl _, Int.le_refl _⟩
  | i + 1 => by
    have h1 := hU_bd x y i
    have h2 := df_bd x y i
    show 0 ≤ hU x y i + df x y i ∧ hU x y i + df x y i ≤ _
    omega
theorem hU_shift {x y X Y : Str} {p : Nat} : ∀ {k : Nat}, (∀ j, j < k → ch X j = ch x (p + j) ∧ ch Y j = ch y (p + j)) → hU X Y k = hU x y (p + k) - hU x y p
  | 0, _ => by show (0 : Int) = _; rw [Nat.add_zero]; omega
  | k + 1, h => by
    have h1 := hU_shift (k := k) (fun j hj => h j (by omega))
    have h2 := h k (by omega)
    show hU X Y k + df X Y k = (hU x y (p + k) + df x y (p + k)) - _
    have : df X Y k = df x y (p + k) := by unfold df; rw [h2.1, h2.2]
    omega
theorem hU_const {x y : Str} {i : Nat} : ∀ {k : Nat}, (∀ j, i ≤ j → j < i + k → ch x j = ch y j) → hU x y (i + k) = hU x y i
  | 0, _ => rfl
  | k + 1, h => by
    have h1 := hU_const (i := i) (k := k) (fun j hj hk => h j hj (by omega))
    show hU x y (i + k) + df x y (i + k) = _
    have : df x y (i + k) = 0 := by unfold df; rw [if_pos (h (i + k) (by omega) (by omega))]
    omega
end Mine
end
section
open PySem PySem.W PyProof.Rows PySem.Spec
namespace Mine
section
variable {prog : Program} {w : World} {A : Around} {s : Shared} {env : Env} {h₀ : Heap}
theorem forLoop_C {R : Result → Shared → Prop} {x : Str} {px : Pos} {body : List Stmt} {I c : Addr} {fp wr : List Addr} {n : Nat} {P : Nat → Value → Prop} {St : Nat → Heap → Prop} {m : Loc}
    {news : Led} {o₀ : Obj} {v₀ : Option Value} (W : Walks prog w A I fp wr n P St) (hx : env.kindOf x = some .cell) (hk : env.scope.kind = .function) (hc : env.cells.lookup x = some c)
    (hLf : env.locals ∉ fp) (hwr : ∀ b ∈ wr, h₀.get? b = none) (hcf : c ∉ fp) (hnw : ∀ p ∈ news, p.1 ∉ c :: wr) (hd : o₀.data = .cell v₀)
    (hst : St 0 s.heap) (F : Fr h₀ env.locals s.heap m) (N : News h₀ env.locals s.heap ((c, o₀) :: news))
    (J : Nat → Loc → Led → Nat → Prop) (h0 : J 0 m news s.toks) (hmono : ∀ i m nx t t', t ≤ t' → J i m nx t → J i m nx t')
    (step : ∀ i v o m₁ news₁ s₁ own, (∃ h tk, s₁ = { s with heap := h, toks := tk }) → i < n → P i v → o.data = .cell (some v) → J i m₁ news₁ s₁.toks → (∀ p ∈ news₁, p.1 ∉ c :: wr) → (∀ p ∈ own, p.1 ∈ fp) → (∀ p ∈ own, s₁.heap.get? p.1 = some p.2) → (∀ b ∈ fp, h₀.get? b = none → ∀ o, s₁.heap.get? b = some o → (b, o) ∈ own) → St (i + 1) s₁.heap →
      Fr h₀ env.locals s₁.heap m₁ → News h₀ env.locals s₁.heap ((c, o) :: (own ++ news₁)) →
      wpAny (model prog w) A (execs body env) (StepT h₀ env.locals (c :: wr) ((c, o) :: own) (J (i + 1)) s₁ (fun v s' => R (.ok (.ret v)) s') fun s' => R (.ok .next) s') (notedBy (model prog w) A env fun e s' => R (.error e) s') s₁)
    (hR : ∀ h' tk m' news' o v₀, o.data = .cell v₀ → Fr h₀ env.locals h' m' → News h₀ env.locals h' ((c, o) :: news') → (∀ p ∈ news', p.1 ∉ c :: wr) → J n m' news' tk → R (.ok .next) { s with heap := h', toks := tk }) :
    codeAny (model prog w) A (.forLoop (.Name x px) (.ref I) body [] env) R s := by
  have hcw : c ∉ wr := fun h => hcf (W.sub _ h)
  have hLw : env.locals ∉ wr := fun h => hLf (W.sub _ h)
  have old : ∀ b o, h₀.get? b = some o → b ∉ wr := fun b o e hb => by rw [hwr b hb] at e; cases e
  refine codeAny_forLoop
    (fun k s' => ∃ h' tk m' news' o v₀ i, s' = { s with heap := h', toks := tk } ∧ St i h' ∧ o.data = .cell v₀ ∧ Fr h₀ env.locals h' m' ∧ News h₀ env.locals h' ((c, o) :: news') ∧ (∀ p ∈ news', p.1 ∉ c :: wr) ∧ J i m' news' tk ∧ i ≤ n ∧ k = n + 1 - i) ?_ (n + 1)
    ⟨s.heap, s.toks, m, news, o₀, v₀, 0, rfl, hst, hd, F, N, hnw, h0, Nat.zero_le _, rfl⟩
  rintro k s' ⟨h', tk, m', news', o, v₀, i, rfl, hst', hd', F', N', hnw', hJ, hi, rfl⟩
  have next : ∀ h₁ : Heap, (∀ b o, b ∉ wr → h'.get? b = some o → h₁.get? b = some o) → Fr h₀ env.locals h₁ m' ∧ News h₀ env.locals h₁ ((c, o) :: news') := fun h₁ hk₁ =>
    ⟨⟨F'.ns.at' fun o e => hk₁ _ o hLw e, fun b o e => hk₁ b o (old b o e) (F'.keep b o e), F'.above⟩, fun p hp => ⟨hk₁ _ _ (by
      rcases List.mem_cons.mp hp with rfl | hp
      · exact hcw
      · exact fun q => hnw' p hp (List.mem_cons_of_mem _ q)) (N' p hp).1, (N' p hp).2⟩⟩
  refine wpAny_up ?_
  by_cases hlt : i < n
  · refine W.item i _ _ _ hlt hst' fun v h₁ tk₁ hP hst₁ hk₁ => ?_
    intro htk
    obtain ⟨F₁, N₁⟩ := next h₁ hk₁
    have hmem := N₁ _ (List.Mem.head _)
    refine wpAny_assign_Name (wpAny_storeName_cell hk hx hc ⟨o, hmem.1, hd'⟩ fun h₂ hv hs => ?_)
    obtain ⟨o', ho', hd₂⟩ := hv
    have F₂ : Fr h₀ env.locals h₂ m' := ⟨F₁.ns.sameBut hs (Ne.symm hmem.2.1), fun b ob e => (hs.2 b (fun q => by rw [q, hmem.2.2] at e; cases e)).trans (F₁.keep b ob e), F₁.above⟩
    have Nown : News h₀ env.locals h₂ (ownOf h₀ fp h₂) := news_ownOf hLf
    have N₂ : News h₀ env.locals h₂ ((c, o') :: (ownOf h₀ fp h₂ ++ news')) := fun p hp => by
      rcases List.mem_cons.mp hp with rfl | hp
      · exact ⟨ho', hmem.2⟩
      · rcases List.mem_append.mp hp with hp | hp
        · exact Nown p hp
        · have hp' := N₁ p (.tail _ hp)
          exact ⟨(hs.2 _ fun q => hnw' p hp (q ▸ List.Mem.head _)).trans hp'.1, hp'.2⟩
    have hst₂ : St (i + 1) h₂ := W.frame _ _ _ hst₁ fun b hb o e => (hs.2 b fun q => hcf (q ▸ hb)).trans e
    have hJ' : J i m' news' tk₁ := hmono _ _ _ _ _ htk hJ
    refine wpAny_mono (step i v o' m' news' _ (ownOf h₀ fp h₂) ⟨_, _, rfl⟩ hlt hP hd₂ hJ' hnw' ownOf_sub (fun p hp => (Nown p hp).1) (fun b hb hn o e => mem_ownOf hb hn e) hst₂ F₂ N₂) (fun f s₃ h₃ => ?_) (fun _ _ e => e)
    have fin : (∃ h' tk m₂ news₂, s₃ = { ({ s with heap := h₂, toks := tk₁ } : Shared) with heap := h', toks := tk } ∧ Fr h₀ env.locals h' m₂ ∧ News h₀ env.locals h' (((c, o') :: ownOf h₀ fp h₂) ++ news₂) ∧ (∀ p ∈ news₂, p.1 ∉ c :: wr) ∧ J (i + 1) m₂ news₂ tk) →
        ∃ q, q < n + 1 - i ∧ ∃ h' tk m' news' o v₀ i, s₃ = { s with heap := h', toks := tk } ∧ St i h' ∧ o.data = .cell v₀ ∧ Fr h₀ env.locals h' m' ∧ News h₀ env.locals h' ((c, o) :: news') ∧ (∀ p ∈ news', p.1 ∉ c :: wr) ∧ J i m' news' tk ∧ i ≤ n ∧ q = n + 1 - i := by
      rintro ⟨h₃', tk₃, m₂, news₂, rfl, F₃, N₃, ha₃, hJ₃⟩
      refine ⟨n + 1 - (i + 1), by omega, h₃', tk₃, m₂, news₂, o', some v, i + 1, rfl, ?_, hd₂, F₃, fun p hp => N₃ p ?_, ha₃, hJ₃, hlt, rfl⟩
      · refine W.frame _ _ _ hst₁ fun b hb o e => ?_
        have e₂ : h₂.get? b = some o := (hs.2 b fun q => hcf (q ▸ hb)).trans e
        cases hn : h₀.get? b with
        | some o₀ =>
          have : o₀ = o := by have := F₂.keep b o₀ hn; rw [e₂] at this; exact (Option.some.inj this).symm
          exact this ▸ F₃.keep b o₀ hn
        | none => exact (N₃ _ (.tail _ (List.mem_append_left _ (mem_ownOf hb hn e₂)))).1
      · rcases List.mem_cons.mp hp with rfl | hp
        · exact List.Mem.head _
        · exact .tail _ (List.mem_append_right _ hp)
    cases f with
    | ret v => exact h₃
    | brk => exact h₃
    | cont => exact fin h₃
    | next => exact fin h₃
  · have hin : i = n := by omega
    subst hin
    refine W.done _ _ _ hst' fun h₁ tk₁ hk₁ => ?_
    intro htk
    refine wpAny_execs_nil ?_
    obtain ⟨F₁, N₁⟩ := next h₁ hk₁
    exact hR h₁ tk₁ m' news' o v₀ hd' F₁ N₁ hnw' (hmono _ _ _ _ _ htk hJ)

noncomputable def LoopAtC (prog : Program) (w : World) (A : Around) (h₀ : Heap) (env : Env) (c : Addr) (body : List Stmt) (Q : Flow → Shared → Prop) (E : Value → Shared → Prop) (it : Value) (s₂ : Shared) : Prop :=
  ∃ (I : Addr) (fp wr : List Addr) (n : Nat) (P : Nat → Value → Prop) (St : Nat → Heap → Prop) (m : Loc) (news : Led) (o₀ : Obj) (v₀ : Option Value) (J : Nat → Loc → Led → Nat → Prop),
    it = .ref I ∧ Walks prog w A I fp wr n P St ∧ env.locals ∉ fp ∧ (∀ b ∈ wr, h₀.get? b = none) ∧ c ∉ fp ∧ (∀ p ∈ news, p.1 ∉ c :: wr) ∧ o₀.data = .cell v₀ ∧ St 0 s₂.heap ∧ Fr h₀ env.locals s₂.heap m ∧ News h₀ env.locals s₂.heap ((c, o₀) :: news) ∧ J 0 m news s₂.toks ∧ (∀ i m nx t t', t ≤ t' → J i m nx t → J i m nx t') ∧
    (∀ i v o m₁ news₁ s₁ own, (∃ h tk, s₁ = { s₂ with heap := h, toks := tk }) → i < n → P i v → o.data = .cell (some v) → J i m₁ news₁ s₁.toks → (∀ p ∈ news₁, p.1 ∉ c :: wr) → (∀ p ∈ own, p.1 ∈ fp) → (∀ p ∈ own, s₁.heap.get? p.1 = some p.2) → (∀ b ∈ fp, h₀.get? b = none → ∀ o, s₁.heap.get? b = some o → (b, o) ∈ own) → St (i + 1) s₁.heap →
      Fr h₀ env.locals s₁.heap m₁ → News h₀ env.locals s₁.heap ((c, o) :: (own ++ news₁)) →
      wpAny (model prog w) A (execs body env) (StepT h₀ env.locals (c :: wr) ((c, o) :: own) (J (i + 1)) s₁ (fun v s' => Q (.ret v) s') fun s' => Q .next s') E s₁) ∧
    ∀ h' tk m' news' o v₀, o.data = .cell v₀ → Fr h₀ env.locals h' m' → News h₀ env.locals h' ((c, o) :: news') → (∀ p ∈ news', p.1 ∉ c :: wr) → J n m' news' tk → Q .next { s₂ with heap := h', toks := tk }

theorem For_C {E : Value → Shared → Prop} {Q : Flow → Shared → Prop} {x : Str} {px pos : Pos} {iter : Expr} {body : List Stmt} {m : Loc} {c : Addr} (_F : Fr h₀ env.locals s.heap m) (hx : env.kindOf x = some .cell) (hk : env.scope.kind = .function) (hc : env.cells.lookup x = some c)
    (h : wpAny (model prog w) A (eval iter env) (fun xv s₁ => wpAny (model prog w) A (pyIter xv) (fun it s₂ => LoopAtC prog w A h₀ env c body Q E it s₂) E s₁) E s)
    (hs : ∀ x, foldedSetIterable iter env x = pure x := by intro _; rfl)
    (hE : PassesOwn (model prog w) A env E := by passes_own) :
    wpAny (model prog w) A (exec (.For (.Name x px) iter body [] pos) env) Q E s := by
  refine wpAny_For (wpAny_mono h (fun xv s₁ h₁ => wpAny_mono h₁ (fun it s₂ h₂ => ?_) fun _ _ e => e) fun _ _ e => e) hs
  obtain ⟨I, fp, wr, n, P, St, m, news, o₀, v₀, J, rfl, W, hLf, hwr, hcf, hnw, hd, hst, F, N, h0, hmono, step, hQ⟩ := h₂
  exact forLoop_C (R := fun r s' => match r with | .ok f => Q f s' | .error e => cameBackBy (model prog w) A env E e s') W hx hk hc hLf hwr hcf hnw hd hst F N J h0 hmono (by intros; exact wpAny_passesOwn hE (by apply step <;> assumption)) hQ

variable {E : Value → Shared → Prop} {x : Str} {body : List Stmt} {Q : Flow → Shared → Prop}
theorem rangeCC {σ : Type} (x : Str) (stored : List Str) (Le : σ → Led) (ps : σ → List (Str × Value)) (P : Nat → σ → Nat → Prop) (c₀ : σ) {r c : Addr} {o₀ : Obj} {ov : Option Value} {a₀ b₀ : Int} {t₀ u₀ v₀ : Tok} {n : Nat} {m₀ : Loc}
    (hh : A.handled = none) (hr : IsRange s.heap r a₀ b₀ 1 t₀ u₀ v₀) (hsmall : Builtin.Range.small a₀ b₀ 1 = true) (hsz : Builtin.Range.rangeSize a₀ b₀ 1 = (n : Int)) (F : Fr h₀ env.locals s.heap m₀) (N : News h₀ env.locals s.heap ((c, o₀) :: Le c₀)) (hd : o₀.data = .cell ov) (hcn : ∀ p ∈ Le c₀, p.1 ≠ c) (hk : ∀ p ∈ ps c₀, m₀ p.1 = some p.2) (hj : P 0 c₀ s.toks) (hmono : ∀ i c t t', t ≤ t' → P i c t → P i c t')
    (turn : ∀ i k t o (u : Loc) h tk own, i < n → P i k tk → o.data = .cell (some (.int (a₀ + (i : Int)) t)) → OwnOff ((c, o) :: own) ((Le k).map (·.1)) → Fr h₀ env.locals h (fun y => if y = x then u y else kstB (fun z => if stored.contains z then u z else m₀ z) (ps k) y) → News h₀ env.locals h (Le k ++ (c, o) :: own) →
      wpAny (model prog w) A (execs body env) (PostT h₀ env.locals (JG x stored m₀ Le ps P (i + 1)) ((c, o) :: own) { s with heap := h, toks := tk } Q) E { s with heap := h, toks := tk })
    (done : ∀ k (u : Loc) o v h tk, P n k tk → o.data = .cell v → Fr h₀ env.locals h (fun y => if y = x then u y else kstB (fun z => if stored.contains z then u z else m₀ z) (ps k) y) → News h₀ env.locals h ((c, o) :: Le k) → Q .next { s with heap := h, toks := tk }) :
    wpAny (model prog w) A (pyIter (.ref r)) (fun it s₂ => LoopAtC prog w A h₀ env c body Q E it s₂) E s := by
  refine wpAny_up (wpAny_pyIter_range hr hsmall ?_)
  intro htk
  have W : Walks prog w A s.heap.objs.size [s.heap.objs.size] [s.heap.objs.size] n (fun i v => i < n ∧ ∃ t, v = .int (a₀ + i * 1) t)
      (fun i h => IsRangeIter h s.heap.objs.size (a₀ + (i : Nat) * 1) ((n : Int) - (i : Nat)) 1) := (Walks.range hh _ a₀ 1 n).bound
  have hlt : ∀ p ∈ (c, o₀) :: Le c₀, p.1 < s.heap.objs.size := fun p hp => Heap.lt_size (N p hp).1
  refine ⟨s.heap.objs.size, [s.heap.objs.size], [s.heap.objs.size], n, _, _, m₀, Le c₀, o₀, ov, JG x stored m₀ Le ps P, rfl, W, ?_, ?_, ?_, ?_, hd, (by show IsRangeIter _ _ _ _ _; rw [hsz]; simpa using Heap.get?_push_size _ rfl), F.push _, (fun p hp => ⟨Heap.get?_push_of_some _ (N p hp).1, (N p hp).2⟩), ⟨c₀, hmono _ _ _ _ htk hj, rfl, hk, fun _ _ _ _ => rfl⟩, (fun i m nx t t' ht ⟨c, h1, h2⟩ => ⟨c, hmono _ _ _ _ ht h1, h2⟩), ?_, ?_⟩
  · intro hm
    exact absurd F.ns.lt ((List.mem_singleton.mp hm) ▸ Nat.lt_irrefl _)
  · intro b hb
    rw [List.mem_singleton.mp hb]
    exact next_is_new F
  · intro hm
    exact Nat.lt_irrefl _ ((List.mem_singleton.mp hm) ▸ hlt _ (List.Mem.head _))
  · intro p hp hm
    rcases List.mem_cons.mp hm with h | hm
    · exact hcn p hp h
    · exact Nat.lt_irrefl _ ((List.mem_singleton.mp hm) ▸ hlt p (.tail _ hp))
  · rintro i v o m₁ news₁ s₁ own ⟨hh', tk', rfl⟩ hin ⟨_, t, rfl⟩ hdo ⟨k, hP, rfl, h1, h2⟩ hoff hown _ hmem hst' F₁ N₁
    have hob : ∃ ob, hh'.get? s.heap.objs.size = some ob := ⟨_, hst'⟩
    have e1 : a₀ + (i : Int) * 1 = a₀ + (i : Int) := by omega
    rw [e1] at hdo
    have hsep : OwnOff ((c, o) :: own) ((Le k).map (·.1)) := by
      intro p hp b hb e
      obtain ⟨q, hq, rfl⟩ := List.mem_map.mp hb
      rcases List.mem_cons.mp hp with rfl | hp
      · exact hoff q hq (e ▸ List.Mem.head _)
      · exact hoff q hq (.tail _ (e ▸ hown p hp))
    have N₂ : News h₀ env.locals hh' (Le k ++ (c, o) :: own) := fun p hp => N₁ p (by
      rcases List.mem_append.mp hp with h | h
      · exact .tail _ (List.mem_append_right _ h)
      · rcases List.mem_cons.mp h with rfl | h
        · exact List.Mem.head _
        · exact .tail _ (List.mem_append_left _ h))
    refine wpAny_mono (turn i k t o m₁ hh' tk' own hin hP hdo hsep (kst_frOut h1 h2 F₁) N₂) (fun f s₂ p => ?_) fun _ _ e => e
    have fin : EndT h₀ env.locals (JG x stored m₀ Le ps P (i + 1)) ((c, o) :: own) { s with heap := hh', toks := tk' } s₂ → ∃ h' tk m₂ news₂, s₂ = { ({ s with heap := hh', toks := tk' } : Shared) with heap := h', toks := tk } ∧ Fr h₀ env.locals h' m₂ ∧ News h₀ env.locals h' (((c, o) :: own) ++ news₂) ∧ (∀ p ∈ news₂, p.1 ∉ c :: [s.heap.objs.size]) ∧ JG x stored m₀ Le ps P (i + 1) m₂ news₂ tk := by
      rintro ⟨h', tk, m', news', nx, e, F', N', hn, ho, ha, hm⟩
      refine ⟨h', tk, m', nx, e, F', fun p hp => N' p ((List.mem_append.mp hp).elim (ho p) (hn p)), fun p hp hq => ?_, hm⟩
      rcases List.mem_cons.mp hq with hq | hq
      · exact ha _ (List.Mem.head _) p.1 (List.mem_map.mpr ⟨p, hp, rfl⟩) hq.symm
      · obtain ⟨ob, hbo⟩ := hob
        have hI0 : h₀.get? s.heap.objs.size = none := next_is_new F
        exact ha _ (.tail _ (hmem _ (List.Mem.head _) hI0 ob hbo)) p.1 (List.mem_map.mpr ⟨p, hp, rfl⟩) (List.mem_singleton.mp hq).symm
    cases f with
    | ret v => exact p
    | brk => exact p
    | next => exact fin p
    | cont => exact fin p
  · rintro h' tk m' news' o v hdo F' N' _ ⟨k, hP, rfl, h1, h2⟩
    exact done k m' o v h' tk hP hdo (kst_frOut h1 h2 F') N'
end
end Mine
end
section
open PySem PySem.W PyProof.Rows PySem.Spec PySem.Calls
namespace Mine
noncomputable def EltP (h₀ : Heap) (L : Addr) (m : Loc) (s₁ : Shared) (led : Led) (R : Value → Nat → Prop) (y : Value) (s₂ : Shared) : Prop :=
  ∃ h' tk', s₂ = { s₁ with heap := h', toks := tk' } ∧ Fr h₀ L h' m ∧ News h₀ L h' led ∧ R y tk'
theorem eltP {h₀ h' : Heap} {L : Addr} {m : Loc} {s₁ : Shared} {led : Led} {R : Value → Nat → Prop} {y : Value} {tk' : Nat} (F : Fr h₀ L h' m) (N : News h₀ L h' led) (h : R y tk') : EltP h₀ L m s₁ led R y { s₁ with heap := h', toks := tk' } := ⟨h', tk', rfl, F, N, h⟩
section
variable {prog : Program} {w : World} {A : Around} {E : Value → Shared → Prop} {s : Shared} {h₀ : Heap} {L : Addr} {m : Str → Option Value} {env : Env}
theorem comp_rest {elt : Expr} {x : Str} {scope : Scope} {cl : List (Str × Addr)} {S : List (Addr × Obj) → Prop} {P : Nat → Value → Prop} {Fin : List Value → List (Addr × Obj) → Prop} {n : Nat} {news : List (Addr × Obj)} (R : Nat → List Value → Prop) (hS : S news) (h0 : R 0 [])
    (turn : ∀ i v ys I oI C oC D m₂ h tk (E' : Value → Shared → Prop), i < n → P i v → R i ys → LCg.NsObj oC m₂ → m₂ x = some v → Fr h₀ L h m → News h₀ L h ((I, oI) :: (C, oC) :: (D, LCg.lst ys) :: news) →
      wpAny (model prog w) A (eval elt (compEnvC scope cl C env)) (EltP h₀ L m { s with heap := h, toks := tk } ((I, oI) :: (C, oC) :: (D, LCg.lst ys) :: news) (fun y _ => R (i + 1) (ys ++ [y]))) E' { s with heap := h, toks := tk })
    (fin : ∀ ys, R n ys → Fin ys news) : LCg.CompRest prog w A h₀ L m env elt x scope cl s S P Fin n 0 [] news := by
  have gen : ∀ k i ys, i + k = n → R i ys → LCg.CompRest prog w A h₀ L m env elt x scope cl s S P Fin k i ys news := by
    intro k
    induction k with
    | zero =>
      intro i ys hi hR
      have : i = n := by omega
      subst this
      exact fin ys hR
    | succ k ih =>
      intro i ys hi hR
      refine LCg.CompRest.succ fun v I oI C oC D m₂ h tk E' hP hC hx F N off ne => ?_
      refine wpAny_mono (turn i v ys I oI C oC D m₂ h tk E' (by omega) hP hR hC hx F N) (fun y s₂ q => ?_) fun _ _ e => e
      obtain ⟨h', tk', rfl, F', N', hR'⟩ := q
      exact ⟨h', tk', news, rfl, F', N', off, hS, ih (i + 1) _ (by omega) hR'⟩
  exact gen n 0 [] (by omega) h0
end
end Mine
end
section
open PySem PySem.W PyProof.Rows PySem.Flt
namespace Mine
theorem topOffAd : True := by
  w_top off
  trivial
set_option maxRecDepth 100000 in
set_option maxHeartbeats 4000000 in
set_option pp.deepTerms false in
set_option pp.deepTerms.threshold 4 in
theorem c_addF (w : World) (mean : ExcName → Option Value) (mg mb : Str → Option Value) (news : List (Addr × Obj)) (x y : UInt64) (t1 t2 : Tok) :
  ∀ (dp un : Nat) (gd : Option (List Code)) (cn : Str) (cs : Scope) (a : Addr) (ccd : Value) (cl : List (Str × Addr)) (outer : List Env) (A₀ : Around) (base h₀ : Heap) (L : Addr) (m : Str → Option Value) (s : Shared) (Q : Value → Shared → Prop) (E : Value → Shared → Prop)
  (_ : Below A₀ base outer h₀) (_ : Fr h₀ L s.heap m) (_ : (Mine.hd.heap_1 w.params).In h₀) (_ : News h₀ L s.heap news) (_ : Top Mine.hdview (looseW Mine.hdview []) mean mg mb h₀) (_ : cs.kind = .function)
  (_ : dp < recursionLimit) (_ : un + 4 < cLine) 
  (_ : ∀ (h' : Heap) (tk' : Nat) (t : Tok), Fr h₀ L h' m → News h₀ L h' news → Q (.float (Float64.add x y) t) { s with heap := h', toks := tk' }),
  wpAny (model PySem.Challenge.rw_sw0044_01.row.prog w) (ktrTop dp un gd cn cs L a ccd cl outer) (call (.ref 42) [.float x t1, .float y t2]) Q E s := by
  k_fill
  intro dp un gd cn cs a ccd cl outer A₀ base h₀ L m s Q E kB kF kX kN kT kK kD kU  hret
  refine wpAny_call ?_
  k_dflt cell_enter
  k_with_none
  k_steps
  all_goals first
    | exact hret _ _ _ (by assumption) (by assumption)

set_option maxRecDepth 100000 in
set_option maxHeartbeats 4000000 in
set_option pp.deepTerms false in
set_option pp.deepTerms.threshold 4 in
theorem c_addI (w : World) (mean : ExcName → Option Value) (mg mb : Str → Option Value) (news : List (Addr × Obj)) (x y : Int) (t1 t2 : Tok) :
  ∀ (dp un : Nat) (gd : Option (List Code)) (cn : Str) (cs : Scope) (a : Addr) (ccd : Value) (cl : List (Str × Addr)) (outer : List Env) (A₀ : Around) (base h₀ : Heap) (L : Addr) (m : Str → Option Value) (s : Shared) (Q : Value → Shared → Prop) (E : Value → Shared → Prop)
  (_ : Below A₀ base outer h₀) (_ : Fr h₀ L s.heap m) (_ : (Mine.hd.heap_1 w.params).In h₀) (_ : News h₀ L s.heap news) (_ : Top Mine.hdview (looseW Mine.hdview []) mean mg mb h₀) (_ : cs.kind = .function)
  (_ : dp < recursionLimit) (_ : un + 4 < cLine) 
  (_ : ∀ (h' : Heap) (tk' : Nat) (t : Tok), Fr h₀ L h' m → News h₀ L h' news → Q (.int (x + y) t) { s with heap := h', toks := tk' }),
  wpAny (model PySem.Challenge.rw_sw0044_01.row.prog w) (ktrTop dp un gd cn cs L a ccd cl outer) (call (.ref 42) [.int x t1, .int y t2]) Q E s := by
  k_fill
  intro dp un gd cn cs a ccd cl outer A₀ base h₀ L m s Q E kB kF kX kN kT kK kD kU  hret
  refine wpAny_call ?_
  k_dflt cell_enter
  k_with_none
  k_steps
  all_goals first
    | exact hret _ _ _ (by assumption) (by assumption)

set_option maxRecDepth 100000 in
set_option maxHeartbeats 4000000 in
set_option pp.deepTerms false in
set_option pp.deepTerms.threshold 4 in
theorem c_mulI (w : World) (mean : ExcName → Option Value) (mg mb : Str → Option Value) (news : List (Addr × Obj)) (x y : Int) (t1 t2 : Tok) :
  ∀ (dp un : Nat) (gd : Option (List Code)) (cn : Str) (cs : Scope) (a : Addr) (ccd : Value) (cl : List (Str × Addr)) (outer : List Env) (A₀ : Around) (base h₀ : Heap) (L : Addr) (m : Str → Option Value) (s : Shared) (Q : Value → Shared → Prop) (E : Value → Shared → Prop)
  (_ : Below A₀ base outer h₀) (_ : Fr h₀ L s.heap m) (_ : (Mine.hd.heap_1 w.params).In h₀) (_ : News h₀ L s.heap news) (_ : Top Mine.hdview (looseW Mine.hdview []) mean mg mb h₀) (_ : cs.kind = .function)
  (_ : dp < recursionLimit) (_ : un + 4 < cLine) (_ : 0 ≤ x) (_ : x < 1000) (_ : 0 ≤ y) (_ : y < 1000)
  (_ : ∀ (h' : Heap) (tk' : Nat) (t : Tok), Fr h₀ L h' m → News h₀ L h' news → Q (.int (x * y) t) { s with heap := h', toks := tk' }),
  wpAny (model PySem.Challenge.rw_sw0044_01.row.prog w) (ktrTop dp un gd cn cs L a ccd cl outer) (call (.ref 70) [.int x t1, .int y t2]) Q E s := by
  k_fill
  intro dp un gd cn cs a ccd cl outer A₀ base h₀ L m s Q E kB kF kX kN kT kK kD kU hx0 hx1 hy0 hy1 hret
  refine wpAny_call ?_
  k_dflt cell_enter
  k_with_none
  k_steps
  all_goals first
    | exact hret _ _ _ (by assumption) (by assumption)

set_option maxRecDepth 100000 in
set_option maxHeartbeats 4000000 in
set_option pp.deepTerms false in
set_option pp.deepTerms.threshold 4 in
theorem c_modI (w : World) (mean : ExcName → Option Value) (mg mb : Str → Option Value) (news : List (Addr × Obj)) (x y : Int) (t1 t2 : Tok) :
  ∀ (dp un : Nat) (gd : Option (List Code)) (cn : Str) (cs : Scope) (a : Addr) (ccd : Value) (cl : List (Str × Addr)) (outer : List Env) (A₀ : Around) (base h₀ : Heap) (L : Addr) (m : Str → Option Value) (s : Shared) (Q : Value → Shared → Prop) (E : Value → Shared → Prop)
  (_ : Below A₀ base outer h₀) (_ : Fr h₀ L s.heap m) (_ : (Mine.hd.heap_1 w.params).In h₀) (_ : News h₀ L s.heap news) (_ : Top Mine.hdview (looseW Mine.hdview []) mean mg mb h₀) (_ : cs.kind = .function)
  (_ : dp < recursionLimit) (_ : un + 4 < cLine) (_ : 0 < y)
  (_ : ∀ (h' : Heap) (tk' : Nat) (t : Tok), Fr h₀ L h' m → News h₀ L h' news → Q (.int (x.fmod y) t) { s with heap := h', toks := tk' }),
  wpAny (model PySem.Challenge.rw_sw0044_01.row.prog w) (ktrTop dp un gd cn cs L a ccd cl outer) (call (.ref 63) [.int x t1, .int y t2]) Q E s := by
  k_fill
  intro dp un gd cn cs a ccd cl outer A₀ base h₀ L m s Q E kB kF kX kN kT kK kD kU hy0 hret
  refine wpAny_call ?_
  k_dflt cell_enter
  k_with_none
  k_steps
  all_goals first
    | exact hret _ _ _ (by assumption) (by assumption)

end Mine
end
section
open PySem PySem.W PyProof.Rows PySem.Flt
namespace Mine
theorem topOffOp : True := by
  w_top off
  trivial
set_option maxRecDepth 100000 in
set_option maxHeartbeats 4000000 in
set_option pp.deepTerms false in
set_option pp.deepTerms.threshold 4 in
theorem c_andI (w : World) (mean : ExcName → Option Value) (mg mb : Str → Option Value) (news : List (Addr × Obj)) (x y : Int) (t1 t2 : Tok) :
  ∀ (dp un : Nat) (gd : Option (List Code)) (cn : Str) (cs : Scope) (a : Addr) (ccd : Value) (cl : List (Str × Addr)) (outer : List Env) (A₀ : Around) (base h₀ : Heap) (L : Addr) (m : Str → Option Value) (s : Shared) (Q : Value → Shared → Prop) (E : Value → Shared → Prop)
  (_ : Below A₀ base outer h₀) (_ : Fr h₀ L s.heap m) (_ : (Mine.hd.heap_1 w.params).In h₀) (_ : News h₀ L s.heap news) (_ : Top Mine.hdview (looseW Mine.hdview []) mean mg mb h₀) (_ : cs.kind = .function)
  (_ : dp < recursionLimit) (_ : un + 4 < cLine) 
  (_ : ∀ (h' : Heap) (tk' : Nat) (t : Tok), Fr h₀ L h' m → News h₀ L h' news → Q (.int (Builtin.bitAnd x y) t) { s with heap := h', toks := tk' }),
  wpAny (model PySem.Challenge.rw_sw0044_01.row.prog w) (ktrTop dp un gd cn cs L a ccd cl outer) (call (.ref 49) [.int x t1, .int y t2]) Q E s := by
  k_fill
  intro dp un gd cn cs a ccd cl outer A₀ base h₀ L m s Q E kB kF kX kN kT kK kD kU  hret
  refine wpAny_call ?_
  k_dflt cell_enter
  k_with_none
  k_steps
  all_goals first
    | exact hret _ _ _ (by assumption) (by assumption)

set_option maxRecDepth 100000 in
set_option maxHeartbeats 4000000 in
set_option pp.deepTerms false in
set_option pp.deepTerms.threshold 4 in
theorem c_xorI (w : World) (mean : ExcName → Option Value) (mg mb : Str → Option Value) (news : List (Addr × Obj)) (x y : Int) (t1 t2 : Tok) :
  ∀ (dp un : Nat) (gd : Option (List Code)) (cn : Str) (cs : Scope) (a : Addr) (ccd : Value) (cl : List (Str × Addr)) (outer : List Env) (A₀ : Around) (base h₀ : Heap) (L : Addr) (m : Str → Option Value) (s : Shared) (Q : Value → Shared → Prop) (E : Value → Shared → Prop)
  (_ : Below A₀ base outer h₀) (_ : Fr h₀ L s.heap m) (_ : (Mine.hd.heap_1 w.params).In h₀) (_ : News h₀ L s.heap news) (_ : Top Mine.hdview (looseW Mine.hdview []) mean mg mb h₀) (_ : cs.kind = .function)
  (_ : dp < recursionLimit) (_ : un + 4 < cLine) 
  (_ : ∀ (h' : Heap) (tk' : Nat) (t : Tok), Fr h₀ L h' m → News h₀ L h' news → Q (.int (Builtin.bitXor x y) t) { s with heap := h', toks := tk' }),
  wpAny (model PySem.Challenge.rw_sw0044_01.row.prog w) (ktrTop dp un gd cn cs L a ccd cl outer) (call (.ref 98) [.int x t1, .int y t2]) Q E s := by
  k_fill
  intro dp un gd cn cs a ccd cl outer A₀ base h₀ L m s Q E kB kF kX kN kT kK kD kU  hret
  refine wpAny_call ?_
  k_dflt cell_enter
  k_with_none
  k_steps
  all_goals first
    | exact hret _ _ _ (by assumption) (by assumption)

set_option maxRecDepth 100000 in
set_option maxHeartbeats 4000000 in
set_option pp.deepTerms false in
set_option pp.deepTerms.threshold 4 in
theorem c_subI (w : World) (mean : ExcName → Option Value) (mg mb : Str → Option Value) (news : List (Addr × Obj)) (x y : Int) (t1 t2 : Tok) :
  ∀ (dp un : Nat) (gd : Option (List Code)) (cn : Str) (cs : Scope) (a : Addr) (ccd : Value) (cl : List (Str × Addr)) (outer : List Env) (A₀ : Around) (base h₀ : Heap) (L : Addr) (m : Str → Option Value) (s : Shared) (Q : Value → Shared → Prop) (E : Value → Shared → Prop)
  (_ : Below A₀ base outer h₀) (_ : Fr h₀ L s.heap m) (_ : (Mine.hd.heap_1 w.params).In h₀) (_ : News h₀ L s.heap news) (_ : Top Mine.hdview (looseW Mine.hdview []) mean mg mb h₀) (_ : cs.kind = .function)
  (_ : dp < recursionLimit) (_ : un + 4 < cLine) 
  (_ : ∀ (h' : Heap) (tk' : Nat) (t : Tok), Fr h₀ L h' m → News h₀ L h' news → Q (.int (x - y) t) { s with heap := h', toks := tk' }),
  wpAny (model PySem.Challenge.rw_sw0044_01.row.prog w) (ktrTop dp un gd cn cs L a ccd cl outer) (call (.ref 84) [.int x t1, .int y t2]) Q E s := by
  k_fill
  intro dp un gd cn cs a ccd cl outer A₀ base h₀ L m s Q E kB kF kX kN kT kK kD kU  hret
  refine wpAny_call ?_
  k_dflt cell_enter
  k_with_none
  k_steps
  all_goals first
    | exact hret _ _ _ (by assumption) (by assumption)

set_option maxRecDepth 100000 in
set_option maxHeartbeats 4000000 in
set_option pp.deepTerms false in
set_option pp.deepTerms.threshold 4 in
theorem c_shrI (w : World) (mean : ExcName → Option Value) (mg mb : Str → Option Value) (news : List (Addr × Obj)) (x y : Int) (t1 t2 : Tok) :
  ∀ (dp un : Nat) (gd : Option (List Code)) (cn : Str) (cs : Scope) (a : Addr) (ccd : Value) (cl : List (Str × Addr)) (outer : List Env) (A₀ : Around) (base h₀ : Heap) (L : Addr) (m : Str → Option Value) (s : Shared) (Q : Value → Shared → Prop) (E : Value → Shared → Prop)
  (_ : Below A₀ base outer h₀) (_ : Fr h₀ L s.heap m) (_ : (Mine.hd.heap_1 w.params).In h₀) (_ : News h₀ L s.heap news) (_ : Top Mine.hdview (looseW Mine.hdview []) mean mg mb h₀) (_ : cs.kind = .function)
  (_ : dp < recursionLimit) (_ : un + 4 < cLine) (_ : 0 ≤ y)
  (_ : ∀ (h' : Heap) (tk' : Nat) (t : Tok), Fr h₀ L h' m → News h₀ L h' news → Q (.int (x.fdiv (2 ^ y.toNat)) t) { s with heap := h', toks := tk' }),
  wpAny (model PySem.Challenge.rw_sw0044_01.row.prog w) (ktrTop dp un gd cn cs L a ccd cl outer) (call (.ref 77) [.int x t1, .int y t2]) Q E s := by
  k_fill
  intro dp un gd cn cs a ccd cl outer A₀ base h₀ L m s Q E kB kF kX kN kT kK kD kU hy0 hret
  refine wpAny_call ?_
  k_dflt cell_enter
  k_with_none
  k_steps
  all_goals first
    | exact hret _ _ _ (by assumption) (by assumption)

set_option maxRecDepth 100000 in
set_option maxHeartbeats 4000000 in
set_option pp.deepTerms false in
set_option pp.deepTerms.threshold 4 in
theorem c_shlI (w : World) (mean : ExcName → Option Value) (mg mb : Str → Option Value) (news : List (Addr × Obj)) (x y : Int) (t1 t2 : Tok) :
  ∀ (dp un : Nat) (gd : Option (List Code)) (cn : Str) (cs : Scope) (a : Addr) (ccd : Value) (cl : List (Str × Addr)) (outer : List Env) (A₀ : Around) (base h₀ : Heap) (L : Addr) (m : Str → Option Value) (s : Shared) (Q : Value → Shared → Prop) (E : Value → Shared → Prop)
  (_ : Below A₀ base outer h₀) (_ : Fr h₀ L s.heap m) (_ : (Mine.hd.heap_1 w.params).In h₀) (_ : News h₀ L s.heap news) (_ : Top Mine.hdview (looseW Mine.hdview []) mean mg mb h₀) (_ : cs.kind = .function)
  (_ : dp < recursionLimit) (_ : un + 4 < cLine) (_ : 0 ≤ x) (_ : x < 1000) (_ : 0 ≤ y) (_ : y < 1000)
  (_ : ∀ (h' : Heap) (tk' : Nat) (t : Tok), Fr h₀ L h' m → News h₀ L h' news → Q (.int (x * 2 ^ y.toNat) t) { s with heap := h', toks := tk' }),
  wpAny (model PySem.Challenge.rw_sw0044_01.row.prog w) (ktrTop dp un gd cn cs L a ccd cl outer) (call (.ref 56) [.int x t1, .int y t2]) Q E s := by
  k_fill
  intro dp un gd cn cs a ccd cl outer A₀ base h₀ L m s Q E kB kF kX kN kT kK kD kU hx0 hx1 hy0 hy1 hret
  refine wpAny_call ?_
  k_dflt cell_enter
  k_with_none
  k_steps
  all_goals first
    | exact hret _ _ _ (by assumption) (by assumption)

set_option maxRecDepth 100000 in
set_option maxHeartbeats 4000000 in
set_option pp.deepTerms false in
set_option pp.deepTerms.threshold 4 in
theorem c_getS (w : World) (mean : ExcName → Option Value) (mg mb : Str → Option Value) (news : List (Addr × Obj)) (x : Str) (y : Int) (t1 t2 : Tok) :
  ∀ (dp un : Nat) (gd : Option (List Code)) (cn : Str) (cs : Scope) (a : Addr) (ccd : Value) (cl : List (Str × Addr)) (outer : List Env) (A₀ : Around) (base h₀ : Heap) (L : Addr) (m : Str → Option Value) (s : Shared) (Q : Value → Shared → Prop) (E : Value → Shared → Prop)
  (_ : Below A₀ base outer h₀) (_ : Fr h₀ L s.heap m) (_ : (Mine.hd.heap_1 w.params).In h₀) (_ : News h₀ L s.heap news) (_ : Top Mine.hdview (looseW Mine.hdview []) mean mg mb h₀) (_ : cs.kind = .function)
  (_ : dp < recursionLimit) (_ : un + 4 < cLine) (_ : 0 ≤ y) (_ : y < x.length) (_ : y < 1000)
  (_ : ∀ (h' : Heap) (tk' : Nat) (t : Tok), Fr h₀ L h' m → News h₀ L h' news → Q (.str (Txt.item x y) t) { s with heap := h', toks := tk' }),
  wpAny (model PySem.Challenge.rw_sw0044_01.row.prog w) (ktrTop dp un gd cn cs L a ccd cl outer) (call (.ref 119) [.str x t1, .int y t2]) Q E s := by
  k_fill
  intro dp un gd cn cs a ccd cl outer A₀ base h₀ L m s Q E kB kF kX kN kT kK kD kU hy0 hy1 hy2 hret
  refine wpAny_call ?_
  k_dflt cell_enter
  k_with_none
  k_steps
  all_goals first
    | exact hret _ _ _ (by assumption) (by assumption)

end Mine
end
section
open PySem PySem.W PyProof.Rows
namespace Mine
theorem fold_post {α : Type} {M : Model} {A : Around} {t : Sem α} {Q : α → Shared → Prop} {E : Value → Shared → Prop} {s : Shared} (h : ∀ Q' : α → Shared → Prop, (∀ a s', Q a s' → Q' a s') → wpAny M A t Q' E s) : wpAny M A t Q E s := h Q fun _ _ q => q
theorem news_sub {h₀ h : Heap} {L : Addr} {a b : List (Addr × Obj)} (hs : b.Sublist a) (N : News h₀ L h a) : News h₀ L h b := fun p hp => N p (hs.subset hp)
theorem wpAny_upE {α : Type} {M : Model} {A : Around} {t : Sem α} {Q : α → Shared → Prop} {E : Value → Shared → Prop} {s : Shared}
    (h : wpAny M A t (fun a s' => @LE.le Nat _ s.toks s'.toks → Q a s') E s) : wpAny M A t Q E s := wpAny_up (wpAny_mono h (fun _ _ q => q) (fun _ _ e _ => e))
end Mine
end
section
open PySem PySem.W PyProof.Rows PySem.Flt
namespace Mine
theorem topOffPr : True := by
  w_top off
  trivial

noncomputable def dg (p k : Nat) : Int := ((p / 2 ^ k % 2 : Nat) : Int)
theorem dg_bd (p k : Nat) : 0 ≤ dg p k ∧ dg p k ≤ 1 := by unfold dg; omega
theorem dg_eq (p k : Nat) : Builtin.bitAnd ((((0 : Int) + (p : Int))).fdiv (2 ^ ((0 : Int) + (k : Int)).toNat)) 1 = dg p k := by
  have e1 : ((0 : Int) + (k : Int)).toNat = k := by omega
  have e2 := bitAnd_m1 ((((0 : Int) + (p : Int))).fdiv (2 ^ ((0 : Int) + (k : Int)).toNat))
  rw [e1, Int.zero_add] at *
  refine e2.trans ?_
  unfold dg
  rw [show ((2 : Int) ^ k) = ((2 ^ k : Nat) : Int) by push_cast; rfl, Int.fdiv_eq_ediv_of_nonneg _ (Int.natCast_nonneg _)]
  omega
section
variable {prog : Program} {w : World} {A : Around} {s : Shared} {env : Env} {h₀ : Heap} {E : Value → Shared → Prop} {x : Str} {body : List Stmt} {Q : Flow → Shared → Prop}
theorem rangeC {σ : Type} (stored : List Str) {news : Led} (ps : σ → List (Str × Value)) (P : Nat → σ → Nat → Prop) (c₀ : σ) {r : Addr} {a₀ b₀ : Int} {t₀ u₀ v₀ : Tok} {n : Nat} {m₀ : Loc}
    (hh : A.handled = none) (hr : IsRange s.heap r a₀ b₀ 1 t₀ u₀ v₀) (hsmall : Builtin.Range.small a₀ b₀ 1 = true) (hsz : Builtin.Range.rangeSize a₀ b₀ 1 = (n : Int)) (F : Fr h₀ env.locals s.heap m₀) (N : News h₀ env.locals s.heap news) (hk : ∀ p ∈ ps c₀, m₀ p.1 = some p.2) (hj : P 0 c₀ s.toks) (hmono : ∀ i c t t', t ≤ t' → P i c t → P i c t')
    (turn : ∀ i c t (u : Loc) h tk own, i < n → 1 ≤ tk → P i c tk → OwnOff own (news.map (·.1)) → Fr h₀ env.locals h (fun y => if y = x then some (.int (a₀ + (i : Int)) t) else kstB (fun z => if stored.contains z then u z else m₀ z) (ps c) y) → News h₀ env.locals h (news ++ own) →
      wpAny (model prog w) A (execs body env) (PostT h₀ env.locals (JG x stored m₀ (fun _ => news) ps P (i + 1)) own { s with heap := h, toks := tk } Q) E { s with heap := h, toks := tk })
    (done : ∀ c (u : Loc) h tk, P n c tk → Fr h₀ env.locals h (fun y => if y = x then u y else kstB (fun z => if stored.contains z then u z else m₀ z) (ps c) y) → News h₀ env.locals h news → Q .next { s with heap := h, toks := tk }) :
    wpAny (model prog w) A (pyIter (.ref r)) (fun it s₂ => LoopAtT prog w A h₀ env x body Q E it s₂) E s :=
  rangeG stored (fun _ => news) ps P c₀ hh hr hsmall hsz F N hk hj hmono turn done
theorem item_fn {L D : Addr} {news : Led} {ov : List Value} {o : Nat → Int} {c n : Nat} {k : Int} {u : Tok} {value slice : PySem.Expr} {Q : Value → Shared → Prop} (N : News h₀ L s.heap news) (hm : (D, listOf ov.toArray n) ∈ news) (ho : ∀ j, j < c → ∃ t, ov[j]? = some (.int (o j) t)) (h0 : 0 ≤ k) (h4 : k < c) (hf : c ≤ 1000) (h : ∀ t, Q (.int (o k.toNat) t) s)
    (hs : subscripted slice false (.ref D) (.int k u) = operate [.ref D, .int k u] (getItem (.ref D) (.int k u)) := by with_unfolding_all rfl) :
    wpAny (model prog w) A (subscriptTail value slice (.ref D) (.int k u)) Q E s := by
  have hl : s.heap.IsList D ov.toArray := ⟨_, (N _ hm).1, rfl, n, rfl⟩
  obtain ⟨t, ht⟩ := ho k.toNat (by omega)
  exact tail_any hl.typeIs slot_list_getitem.lookup (wpAny_getItem_list hl h0 (by omega) (x := .int (o k.toNat) t) (by simpa using ht) (h t)) hs
end
noncomputable def IntsF (ov : List Value) (c : Nat) (o : Nat → Int) : Prop := ov.length = c ∧ ∀ j, j < c → ∃ t, ov[j]? = some (.int (o j) t)
theorem intsF_nil (o : Nat → Int) : IntsF [] 0 o := ⟨rfl, fun _ h => absurd h (Nat.not_lt_zero _)⟩
theorem intsF_push {ov : List Value} {c : Nat} {o : Nat → Int} {x : Int} {t : Tok} (h : IntsF ov c o) (hx : x = o c) : IntsF (ov ++ [.int x t]) (c + 1) o := by
  refine ⟨by simp [h.1], fun j hj => ?_⟩
  rcases Nat.lt_or_ge j c with hl | hl
  · obtain ⟨u, hu⟩ := h.2 j hl
    exact ⟨u, by rw [List.getElem?_append_left (by rw [h.1]; exact hl)]; exact hu⟩
  · have e : j = c := by omega
    rw [e]
    exact ⟨t, by rw [List.getElem?_append_right (by rw [h.1]; exact Nat.le_refl _), h.1, hx]; simp⟩
noncomputable def oddF (o : Nat → Int) (p : Nat) : Nat → Int
  | 0 => 0
  | k + 1 => Builtin.bitXor (oddF o p k) (Builtin.bitAnd (dg p (o k).toNat) (dg p (o (k + 1)).toNat))
noncomputable def valF (wt : Nat → Int) (b : Int) (p : Nat) : Nat → Int
  | 0 => b
  | k + 1 => valF wt b p k + wt k * dg p k
noncomputable def row1 (o wt : Nat → Int) (half bg : Int) (p : Nat) : Int := valF wt (bg + half * oddF o p 3) p 4
noncomputable def row2 (o wt : Nat → Int) (half bg lift en : Int) (p : Nat) : Int := row1 o wt half bg p + lift + half * dg p en.toNat

section
variable {prog : Program} {w : World} {A : Around} {s : Shared} {env : Env} {h₀ : Heap} {E : Value → Shared → Prop} {body : List Stmt} {Q : Flow → Shared → Prop}
noncomputable abbrev PairS := (List Value × Nat) × List Value × Nat
noncomputable abbrev PairLe (la lb : Addr) (news : Led) : PairS → Led := fun c => (lb, listOf c.2.1.toArray c.2.2) :: (la, listOf c.1.1.toArray c.1.2) :: news
noncomputable abbrev PairP (r1 r2 : Nat → Int) : Nat → PairS → Nat → Prop := fun i c _ => IntsF c.1.1 i r1 ∧ IntsF c.2.1 i r2
noncomputable abbrev pairSt : List Str := [Str.ofString "digits", Str.ofString "odd", Str.ofString "k", Str.ofString "value"]
theorem pair_loop {la lb c r : Addr} {o₀ : Obj} {ov : Option Value} {news : Led} {m₀ : Loc} {t₀ u₀ v₀ : Tok} {va vb : Array Value} (r1 r2 : Nat → Int) (hh : A.handled = none) (hr : IsRange s.heap r 0 16 1 t₀ u₀ v₀) (F : Fr h₀ env.locals s.heap m₀)
    (N : News h₀ env.locals s.heap ((lb, listOf vb 0) :: (la, listOf va 0) :: (c, o₀) :: news)) (hva : va = #[]) (hvb : vb = #[]) (hd : o₀.data = .cell ov) (hb : la < lb ∧ c < lb ∧ AllLt lb news) (ha : c < la ∧ AllLt la news) (hn : ∀ p ∈ news, p.1 < c)
    (turn : ∀ i va na vb nb t o (u : Loc) h tk own, i < 16 → IntsF va i r1 → IntsF vb i r2 → o.data = .cell (some (.int ((0 : Int) + (i : Int)) t)) → OwnOff ((c, o) :: own) (lb :: la :: news.map (·.1)) →
      Fr h₀ env.locals h (fun y => if y = Str.ofString "place" then u y else if pairSt.contains y then u y else m₀ y) → News h₀ env.locals h ((c, o) :: (lb, listOf vb.toArray nb) :: (la, listOf va.toArray na) :: (news ++ own)) →
      wpAny (model prog w) A (execs body env) (PostT h₀ env.locals (JG (Str.ofString "place") pairSt m₀ (PairLe la lb news) (fun _ => []) (PairP r1 r2) (i + 1)) ((c, o) :: own) { s with heap := h, toks := tk } Q) E { s with heap := h, toks := tk })
    (done : ∀ va na vb nb (u : Loc) h tk, IntsF va 16 r1 → IntsF vb 16 r2 → Fr h₀ env.locals h (fun y => if y = Str.ofString "place" then u y else if pairSt.contains y then u y else m₀ y) → News h₀ env.locals h ((lb, listOf vb.toArray nb) :: (la, listOf va.toArray na) :: news) → Q .next { s with heap := h, toks := tk }) :
    wpAny (model prog w) A (pyIter (.ref r)) (fun it s₂ => LoopAtC prog w A h₀ env c body Q E it s₂) E s := by
  subst hva hvb
  refine rangeCC (Str.ofString "place") pairSt (PairLe la lb news) (fun _ => []) (PairP r1 r2) (([], 0), [], 0) hh hr (by decide) (by rfl) F (fun p hp => N p ?_) hd ?_ allN ⟨intsF_nil _, intsF_nil _⟩ (fun _ _ _ _ _ h => h) ?_ ?_
  · simp only [List.mem_cons] at hp ⊢
    rcases hp with h | h | h | h <;> simp [h]
  · intro p hp
    rcases List.mem_cons.mp hp with rfl | hp
    · exact Nat.ne_of_gt hb.2.1
    · rcases List.mem_cons.mp hp with rfl | hp
      · exact Nat.ne_of_gt ha.1
      · exact Nat.ne_of_lt (hn p hp)
  · rintro i ⟨⟨va, na⟩, vb, nb⟩ t o u h tk own hi hP hdo hoff F' N'
    exact turn i va na vb nb t o u h tk own hi hP.1 hP.2 hdo hoff F' (fun p hp => N' p (by simp only [List.mem_cons, List.mem_append] at hp ⊢; rcases hp with h | h | h | h | h <;> simp [h]))
  · rintro ⟨⟨va, na⟩, vb, nb⟩ u o v h tk hP hdo F' N'
    exact done va na vb nb u h tk hP.1 hP.2 F' (fun p hp => N' p (.tail _ hp))
end

theorem size_small {vs : List Value} {i : Nat} (h : vs.length = i) (hi : i ≤ 1000) : vs.toArray.size ≤ sizeLine := by rw [List.size_toArray, h, sizeLine_eq]; omega
theorem row2_of {o wt : Nat → Int} {half bg lift en vl : Int} {i : Nat} (h : vl = row1 o wt half bg i) : vl + lift + half * dg i en.toNat = row2 o wt half bg lift en i := by rw [h]; rfl
theorem bit01 {x : Int} (h : 0 ≤ x ∧ x ≤ 1) : x = 0 ∨ x = 1 := by omega
theorem and_bd {x y : Int} (hx : 0 ≤ x ∧ x ≤ 1) (hy : 0 ≤ y ∧ y ≤ 1) : 0 ≤ Builtin.bitAnd x y ∧ Builtin.bitAnd x y ≤ 1 := by
  rcases bit01 hx with rfl | rfl <;> rcases bit01 hy with rfl | rfl <;> decide
theorem xor_bd {x y : Int} (hx : 0 ≤ x ∧ x ≤ 1) (hy : 0 ≤ y ∧ y ≤ 1) : 0 ≤ Builtin.bitXor x y ∧ Builtin.bitXor x y ≤ 1 := by
  rcases bit01 hx with rfl | rfl <;> rcases bit01 hy with rfl | rfl <;> decide
theorem oddF_bd (o : Nat → Int) (p : Nat) : ∀ k, 0 ≤ oddF o p k ∧ oddF o p k ≤ 1
  | 0 => (by decide : (0 : Int) ≤ 0 ∧ (0 : Int) ≤ 1)
  | k + 1 => xor_bd (oddF_bd o p k) (and_bd (dg_bd _ _) (dg_bd _ _))
theorem odd_step {o : Nat → Int} {p k : Nat} {od : Int} (h : od = oddF o p k) : Builtin.bitXor od (Builtin.bitAnd (dg p (o ((0 : Int) + (k : Int)).toNat).toNat) (dg p (o ((0 : Int) + (k : Int) + 1).toNat).toNat)) = oddF o p (k + 1) := by
  have e1 : ((0 : Int) + (k : Int)).toNat = k := by omega
  have e2 : ((0 : Int) + (k : Int) + 1).toNat = k + 1 := by omega
  rw [e1, e2, h]; rfl
theorem val_step {wt : Nat → Int} {b : Int} {p k : Nat} {v : Int} (h : v = valF wt b p k) : v + wt ((0 : Int) + (k : Int)).toNat * dg p ((0 : Int) + (k : Int)).toNat = valF wt b p (k + 1) := by
  have e1 : ((0 : Int) + (k : Int)).toNat = k := by omega
  rw [e1, h]; rfl
theorem ncontP {l : List Str} {z a : Str} (h : l.contains z = false) (hm : a ∈ l) : z ≠ a := fun e => by
  subst e
  have : l.contains z = true := by simpa using hm
  rw [h] at this
  cases this
theorem endC1 {h₀ : Heap} {x : Str} {Q : Flow → Shared → Prop} {σ : Type} {stored : List Str} {news : Led} {ps : σ → List (Str × Value)} {P : Nat → σ → Nat → Prop} {m₀ m' : Loc} {h' : Heap} {L : Addr} {own : Led} {i : Nat} {s₁ : Shared} {tk : Nat} (c : σ) (F : Fr h₀ L h' m') (N : News h₀ L h' (news ++ own)) (hP : P (i + 1) c tk) (hoff : OwnOff own (news.map (·.1)))
    (hk : ∀ p ∈ ps c, m' p.1 = some p.2) (hr : ∀ z, z ≠ x → (∀ p ∈ ps c, z ≠ p.1) → stored.contains z = false → m' z = m₀ z) :
    PostT h₀ L (JG x stored m₀ (fun _ => news) ps P (i + 1)) own s₁ Q .next { s₁ with heap := h', toks := tk } := endG c F N hP (fun _ hp => List.mem_append_left _ hp) (fun _ hp => List.mem_append_right _ hp) hoff hk hr
theorem pair_end {h₀ h' : Heap} {L la lb c : Addr} {x : Addr × Obj} {oc : Obj} {va vb : List Value} {na nb i : Nat} {y z : Int} {t1 t2 : Tok} {news own : Led} {m₀ m' : Loc} {r1 r2 : Nat → Int} {s₁ : Shared} {tk : Nat} {Q : Flow → Shared → Prop} (F : Fr h₀ L h' m')
    (N : News h₀ L h' (x :: (c, oc) :: (lb, listOf (vb.toArray.push (.int y t2)) nb) :: (la, listOf (va.toArray.push (.int z t1)) na) :: (news ++ own))) (ha : IntsF va i r1) (hb : IntsF vb i r2) (hz : z = r1 i) (hy : y = r2 i) (hoff : OwnOff ((c, oc) :: own) (lb :: la :: news.map (·.1)))
    (hr : ∀ z, z ≠ Str.ofString "place" → pairSt.contains z = false → m' z = m₀ z) :
    PostT h₀ L (JG (Str.ofString "place") pairSt m₀ (PairLe la lb news) (fun _ => []) (PairP r1 r2) (i + 1)) ((c, oc) :: own) s₁ Q .next { s₁ with heap := h', toks := tk } := by
  have e1 : va.toArray.push (Value.int z t1) = (va ++ [Value.int z t1]).toArray := by simp
  have e2 : vb.toArray.push (Value.int y t2) = (vb ++ [Value.int y t2]).toArray := by simp
  rw [e1, e2] at N
  refine endG ((va ++ [.int z t1], na), vb ++ [.int y t2], nb) F N ⟨intsF_push ha hz, intsF_push hb hy⟩ (fun p hp => ?_) (fun p hp => ?_) hoff allN (fun z h1 _ h3 => hr z h1 h3)
  · simp only [PairLe, List.mem_cons, List.mem_append] at hp ⊢
    rcases hp with h | h | h <;> simp [h]
  · simp only [List.mem_cons, List.mem_append] at hp ⊢
    rcases hp with h | h <;> simp [h]
set_option maxRecDepth 100000 in
set_option maxHeartbeats 1000000 in
set_option pp.deepTerms false in
set_option pp.deepTerms.threshold 4 in
theorem c_pair (w : World) (mean : ExcName → Option Value) (mg mb : Str → Option Value) (news : List (Addr × Obj)) (o wt : Nat → Int) (half bg lift en : Int) (lo lw : Addr) (ov wv : List Value) (no nw : Nat) (t1 t2 t3 t4 : Tok) :
  ∀ (dp un : Nat) (gd : Option (List Code)) (cn : Str) (cs : Scope) (a : Addr) (ccd : Value) (cl : List (Str × Addr)) (outer : List Env) (A₀ : Around) (base h₀ : Heap) (L : Addr) (m : Str → Option Value) (s : Shared) (Q : Value → Shared → Prop) (E : Value → Shared → Prop)
  (_ : Below A₀ base outer h₀) (_ : Fr h₀ L s.heap m) (_ : (Mine.hd.heap_1 w.params).In h₀) (_ : News h₀ L s.heap news) (_ : Top Mine.hdview (looseW Mine.hdview []) mean mg mb h₀) (_ : cs.kind = .function)
  (_ : dp + 1 < recursionLimit) (_ : un + 8 < cLine) (_ : (lo, listOf ov.toArray no) ∈ news) (_ : (lw, listOf wv.toArray nw) ∈ news) (_ : IntsF ov 4 o) (_ : IntsF wv 4 wt) (_ : ∀ j, j < 4 → 0 ≤ o j ∧ o j < 4) (_ : ∀ j, j < 4 → 0 ≤ wt j ∧ wt j < 64) (_ : 1 ≤ half) (_ : half ≤ 4) (_ : 0 ≤ bg) (_ : bg < 64) (_ : 0 ≤ lift) (_ : lift < 64) (_ : 0 ≤ en) (_ : en < 4)
  (_ : ∀ (h' : Heap) (tk' : Nat) (l la lb : Addr) (va vb : List Value) (na nb : Nat), IntsF va 16 (row1 o wt half bg) → IntsF vb 16 (row2 o wt half bg lift en) → (∀ p ∈ news, p.1 < la) → la < lb → lb < l → Fr h₀ L h' m → News h₀ L h' ((l, listOf #[.ref la, .ref lb] 0) :: (lb, listOf vb.toArray nb) :: (la, listOf va.toArray na) :: news) → Q (.ref l) { s with heap := h', toks := tk' }),
  wpAny (model PySem.Challenge.rw_sw0044_01.row.prog w) (ktrTop dp un gd cn cs L a ccd cl outer) (call (.ref 145) [.ref lo, .int half t1, .ref lw, .int bg t2, .int lift t3, .int en t4]) Q E s := by
  k_fill
  intro dp un gd cn cs a ccd cl outer A₀ base h₀ L m s Q E kB kF kX kN kT kK kD kU hmo hmw hov hwv hob hwb h1 h2 h3 h4 h5 h6 h7 h8 hret
  refine wpAny_call ?_
  k_dflt (refine' code_defC ?k1 ?k2 ?k3 ?k4 ?k5 ?kA ?kF ?kK ?k6 ?k7 ?k8 ?k9 ?kB ?kD ?_ ?c2 ?c3 ?c4; (case kA => exact rfl); (case kF => exact rfl); (case kK => assumption); (case k1 => k_asm); (case k2 => k_asm); (case k3 => k_asm); (case k4 => k_asm); (case k5 => k_asm); (case k6 => k_is); (case k7 => k_is); (case k8 => ktr_room); (case k9 => exact BindsTo.of_eq rfl); (case kB => exact rfl); (case kD => decide +kernel); (case c2 => exact rfl); (case c3 => exact rfl); (case c4 => exact rfl); k_whole; intro g' L' h' tk' cells' FG' F' N' Y' B' X' T' l1; (try k_lt l1); k_cells Y'; (try simp only [List.cons_append, List.nil_append] at N'); (try dsimp only); (try k_lift B'); (try k_fold))
  k_with_none
  k_with "exec For Name Tuple cons nil" => ((rename Fr _ _ _ _ => lF'); (with_unfolding_all refine For_T lF' (by exact rfl) (by exact rfl) ?_); k_whole)
  k_with "exec For Name Name cons nil" => ((rename Fr _ _ _ _ => lF'); (with_unfolding_all refine For_T lF' (by exact rfl) (by exact rfl) ?_); k_whole)
  k_with "exec For Name Call cons nil" => ((rename Fr _ _ _ _ => lF'); (with_unfolding_all refine For_T lF' (by exact rfl) (by exact rfl) ?_); k_whole)
  k_with "pyIter ref" => (k_extra "my iter")
  k_with "call ref" => (k_extra "my call")
  k_with "exec Assign cons ListComp" => ((fail_if_success (with_reducible show wpAny _ _ (exec _ _) (MidQ _ _) _ _)); k_extra "my assign")
  k_with "exec Assign" => ((fail_if_success (with_reducible show wpAny _ _ (exec _ _) (MidQ _ _) _ _)); k_extra "my assign")
  k_with "subscriptTail" => (k_extra "my item")
  k_with "call builtin:list.append" => (k_extra "my append")
  k_with "CompSrc" => (k_extra "my src")
  k_with "eval Name" => (k_extra "my name")
  k_with "exec For Name Call cons nil" => (k_extra "my for")
  k_with "execs cons" => ((rename Fr _ _ _ _ => gF'); (fail_if_success (with_reducible have gK : Fr _ _ _ (kstB _ _) := gF')); (with_reducible (first | replace gF' := fr_f1 gF' | replace gF' := fr_f2 gF' | replace gF' := fr_f3 gF' | replace gF' := fr_f4 gF' | replace gF' := fr_b6 gF' | replace gF' := fr_b5 gF' | replace gF' := fr_b4 gF' | replace gF' := fr_b3 gF' | replace gF' := fr_b2 gF' | replace gF' := fr_b1 gF')))
  k_with "my for" => ((rename Fr _ _ _ _ => lF'); (with_unfolding_all refine' For_C lF' ?k1 ?k2 ?k3 ?_; (case k1 => exact rfl); (case k2 => exact rfl); (case k3 => exact rfl); k_whole))
  k_with "my iter" => ((with_reducible show wpAny _ _ _ (fun it s₂ => LoopAtC _ _ _ _ _ _ _ _ _ it s₂) _ _); (rename Fr _ _ _ _ => lF'); (rename News _ _ _ _ => lN'); (rename IsRange _ _ _ _ _ _ _ _ => rgX); (rename (_ < _ ∧ _ < _ ∧ AllLt _ _) => hlb); (rename (_ < _ ∧ AllLt _ _) => hla); (rename (Obj.data _ = Data.cell _) => hcd); (with_unfolding_all refine' pair_loop (row1 o wt half bg) (row2 o wt half bg lift en) (by rfl) rgX lF' lN' (by rfl) (by rfl) hcd hlb hla (fun p hp => Nat.lt_succ_of_lt (l1 p hp)) ?turn ?done); (case' turn => clear lF' lN' rgX hcd; intro i va na vb nb t oc u h tk own hi hPa hPb hcd hoff F' N'; have hva9 : va.length = i := hPa.1; have hvb9 : vb.length = i := hPb.1; (have hoffO : OwnOff own (_ :: _ :: news.map (·.1)) := fun p hp => hoff p (.tail _ hp)); have hMk := kstMark; refine fold_post ?_; intro Q7 hQ7); (case' done => clear lF' lN' rgX hcd; intro va na vb nb u h tk hPa hPb F' N'))
  k_with "my assign" => ((with_reducible show wpAny _ _ (exec (Stmt.Assign _ (Expr.ListComp _ _ _ _) _) _) _ _ _); k_dflt (refine LCg.Assign_ListComp_U (F₀ := by k_asm) (by rfl) (by with_unfolding_all rfl) (by with_unfolding_all rfl) (by decide) (by rfl) (by decide) (by rfl) (by rfl) (by rfl) ?_); k_dflt lcg_toSrc)
  k_with "my src" => (k_dflt (refine LCg.CompSrc.range (by rfl) (by k_asm) (by k_asm) (by assumption) (by decide) (by rfl) (by exact Nat.le_of_ble_eq_true rfl) ?_); intro g9; k_dflt (refine' comp_rest (fun k ys => IntsF ys k (dg i)) (by trivial) (intsF_nil _) ?cturn ?cfin); (case' cturn => intro k v ys I9 oI9 C9 oC9 D9 m9 h9 tk9 E9 hk9 hv9 hR9 hC9 hx9 F' N'; obtain ⟨tv9, rfl⟩ := hv9); (case' cfin => intro dv hdv; (have hdv : IntsF dv 4 (dg i) := hdv); unfold LCg.FinA; intro D9 h9 tk9 F' N' o9; simp only [LCg.Off1] at o9; obtain ⟨o91, o92, o93, o94⟩ := o9))
  k_with "my append" => ((with_reducible show wpAny _ _ (call (Value.builtin _) [Value.ref _, _]) _ _ _); k_dflt (refine' append_K ?ka1 ?ka2 ?ka3 ?_ ?kaz; (case ka1 => k_asm); (case ka2 => k_asm); (case ka3 => k_upd); (case kaz => first | exact size_small hva9 (by omega) | exact size_small hvb9 (by omega)); k_whole); intro h' F' N'; (try k_sweep))
  k_with "my name" => ((with_reducible show wpAny _ _ (eval (Expr.Name (Str.ofString "place") _) (compEnvC _ _ _ _)) _ _ _); (rename News _ _ _ _ => lN'); k_dflt (refine lcf_free lN' (by rfl) (.tail _ (.tail _ (.tail _ (.head _)))) hcd ?_ (by rfl) (by rfl)))
  k_with "my iter" => ((rename IsRange _ _ 0 3 _ _ _ _ => rgX); (rename Fr _ _ _ _ => lF'); (rename News _ _ _ _ => lN'); (with_unfolding_all refine' rangeC [] (fun (c : Int × Tok) => [(Str.ofString "odd", .int c.1 c.2)]) (fun k c _ => c.1 = oddF o i k) (0, _) (by rfl) rgX (by decide) (by rfl) lF' lN' (all1 (by rfl)) (by rfl) (fun _ _ _ _ _ h => h) ?turn2 ?done2); (case' turn2 => clear lF' lN' rgX; rintro k ⟨od, ot⟩ tx u2 h tk own2 hk htk hP hoff2 F' N'; dsimp only [List.cons_append] at hP F' N'; have hk3 : k < 3 := hk; refine fold_post ?_; intro Q8 hQ8); (case' done2 => clear lF' lN' rgX; rintro ⟨od, ot⟩ u2 h tk hP F' N'; dsimp only at hP F'; subst hP; have hob3 := oddF_bd o i 3))
  k_with "my iter" => ((rename IsRange _ _ 0 4 _ _ _ _ => rgX); (rename Fr _ _ _ _ => lF'); (rename News _ _ _ _ => lN'); (with_unfolding_all refine' rangeC [] (fun (c : Int × Tok) => [(Str.ofString "value", .int c.1 c.2)]) (fun k c _ => c.1 = valF wt (bg + half * oddF o i 3) i k) (bg + half * oddF o i 3, _) (by rfl) rgX (by decide) (by rfl) lF' lN' (all1 (by rfl)) (by rfl) (fun _ _ _ _ _ h => h) ?turn3 ?done3); (case' turn3 => clear lF' lN' rgX; rintro k ⟨vl, vt⟩ tx u2 h tk own2 hk htk hP hoff2 F' N'; dsimp only [List.cons_append] at hP F' N'; have hk4 : k < 4 := hk; have hw9 := hwb ((0 : Int) + (k : Int)).toNat (by omega); have hd9 := dg_bd i ((0 : Int) + (k : Int)).toNat; refine fold_post ?_; intro Q9 hQ9); (case' done3 => clear lF' lN' rgX; rintro ⟨vl, vt⟩ u2 h tk hP F' N'; dsimp only at hP F'; have hd9 := dg_bd i en.toNat))
  k_with "my item" => ((with_reducible show wpAny _ _ (subscriptTail _ _ (Value.ref lo) (Value.int _ _)) _ _ _); (rename News _ _ _ _ => lN'); (with_unfolding_all refine' item_fn lN' ?imlo hov.2 ?i0lo ?i4lo ?iclo ?_ ?islo); (case imlo => (repeat (first | exact hmo | apply List.mem_cons_of_mem | apply List.mem_append_left))); (case i0lo => omega); (case i4lo => omega); (case iclo => decide); (case islo => with_unfolding_all rfl); intro _)
  k_with "my item" => ((with_reducible show wpAny _ _ (subscriptTail _ _ (Value.ref lw) (Value.int _ _)) _ _ _); (rename News _ _ _ _ => lN'); (with_unfolding_all refine' item_fn lN' ?imlw hwv.2 ?i0lw ?i4lw ?iclw ?_ ?islw); (case imlw => (repeat (first | exact hmw | apply List.mem_cons_of_mem | apply List.mem_append_left))); (case i0lw => omega); (case i4lw => omega); (case iclw => decide); (case islw => with_unfolding_all rfl); intro _)
  k_with "my item" => ((with_reducible show wpAny _ _ (subscriptTail _ _ (Value.ref D9) (Value.int (o _) _)) _ _ _); (rename News _ _ _ _ => lN'); (with_unfolding_all refine' item_fn lN' (.head _) hdv.2 ?i0d ?i4d ?icd ?_ ?isd); (case i0d => exact (hob _ (by omega)).1); (case i4d => exact (hob _ (by omega)).2); (case icd => decide); (case isd => with_unfolding_all rfl); intro _)
  k_with "my item" => ((with_reducible show wpAny _ _ (subscriptTail _ _ (Value.ref D9) (Value.int _ _)) _ _ _); (rename News _ _ _ _ => lN'); (with_unfolding_all refine' item_fn lN' (.head _) hdv.2 ?i0e ?i4e ?ice ?_ ?ise); (case i0e => omega); (case i4e => omega); (case ice => decide); (case ise => with_unfolding_all rfl); intro _)
  k_with "my call" => ((with_reducible show wpAny _ _ (call (Value.ref 49) [Value.int _ _, Value.int _ _]) _ _ _); k_dflt (refine c_andI w _ _ _ _ _ _ _ _ _ _ _ _ _ _ _ _ _ _ _ _ _ _ _ _ _ (by k_asm) (by k_asm) (by k_asm) (by k_asm) (by k_asm) (by rfl) (by ktr_room) (by ktr_units) ?_); intro h9 tk9 t9 F9 N9)
  k_with "my call" => ((with_reducible show wpAny _ _ (call (Value.ref 98) [Value.int _ _, Value.int _ _]) _ _ _); k_dflt (refine c_xorI w _ _ _ _ _ _ _ _ _ _ _ _ _ _ _ _ _ _ _ _ _ _ _ _ _ (by k_asm) (by k_asm) (by k_asm) (by k_asm) (by k_asm) (by rfl) (by ktr_room) (by ktr_units) ?_); intro h9 tk9 t9 F9 N9)
  k_with "my call" => ((with_reducible show wpAny _ _ (call (Value.ref 42) [Value.int _ _, Value.int _ _]) _ _ _); k_dflt (refine c_addI w _ _ _ _ _ _ _ _ _ _ _ _ _ _ _ _ _ _ _ _ _ _ _ _ _ (by k_asm) (by k_asm) (by k_asm) (by k_asm) (by k_asm) (by rfl) (by ktr_room) (by ktr_units) ?_); intro h9 tk9 t9 F9 N9)
  k_with "my call" => ((with_reducible show wpAny _ _ (call (Value.ref 77) [Value.int _ _, Value.int _ _]) _ _ _); k_dflt (refine c_shrI w _ _ _ _ _ _ _ _ _ _ _ _ _ _ _ _ _ _ _ _ _ _ _ _ _ (by k_asm) (by k_asm) (by k_asm) (by k_asm) (by k_asm) (by rfl) (by ktr_room) (by ktr_units) (by omega) ?_); intro h9 tk9 t9 F9 N9)
  k_with "my call" => ((with_reducible show wpAny _ _ (call (Value.ref 70) [Value.int _ _, Value.int _ _]) _ _ _); k_dflt (refine c_mulI w _ _ _ _ _ _ _ _ _ _ _ _ _ _ _ _ _ _ _ _ _ _ _ _ _ (by k_asm) (by k_asm) (by k_asm) (by k_asm) (by k_asm) (by rfl) (by ktr_room) (by ktr_units) (by omega) (by omega) (by omega) (by omega) ?_); intro h9 tk9 t9 F9 N9)
  k_steps
  case' cturn => exact eltP (by assumption) (by assumption) (intsF_push hR9 (dg_eq i k))
  case' turn2 => (refine' hQ8 _ _ (endC1 (_, _) (by assumption) (by assumption) (odd_step hP) hoff2 (all1 (by rfl)) ?hz2); case hz2 => (intro z h1 h2 h3; have h4 := h2 _ (List.Mem.head _); simp only [h1, h4, if_false, kstB, List.contains_nil, Bool.false_eq_true]))
  case' turn3 => (refine' hQ9 _ _ (endC1 (_, _) (by assumption) (by assumption) (val_step hP) hoff2 (all1 (by rfl)) ?hz3); case hz3 => (intro z h1 h2 h3; have h4 := h2 _ (List.Mem.head _); simp only [h1, h4, if_false, kstB, List.contains_nil, Bool.false_eq_true]))
  case' done => ((rename (_ < _ ∧ _ < _ ∧ AllLt _ news) => ll); exact hret _ _ _ _ _ _ _ _ _ hPa hPb (kst_ltOf hla.2) hlb.1 ll.1 (by assumption) (by assumption))
  case' done3 => (refine' hQ7 _ _ (pair_end (by assumption) (by assumption) hPa hPb hP (row2_of hP) hoff ?hz4); case hz4 => (intro z h1 h3; have h4 := ncontP h3 (List.Mem.head _); have h5 := ncontP h3 (.tail _ (List.Mem.head _)); have h6 := ncontP h3 (.tail _ (.tail _ (List.Mem.head _))); have h7 := ncontP h3 (.tail _ (.tail _ (.tail _ (List.Mem.head _)))); have h8 : ([] : List Str).contains z = false := rfl; simp only [h1, h3, h4, h5, h6, h7, h8, if_false, kstB, Bool.false_eq_true]))

end Mine
end
section
open PySem PySem.W PyProof.Rows PySem.Flt
namespace Mine
theorem topOffDp : True := by
  w_top off
  trivial

noncomputable def bodyAt (K : Frag) (a : Addr) : List Stmt := match K.lookup a with
  | some ⟨_, _, .func fd, _⟩ => (match fd.body with | .stmts b => b | _ => [])
  | _ => []
noncomputable def scopeAt (K : Frag) (a : Addr) : Scope := match K.lookup a with
  | some ⟨_, _, .func fd, _⟩ => fd.scope
  | _ => default
theorem fr_kst {h₀ h : Heap} {L : Addr} {m : Loc} {ps : List (Str × Value)} (h1 : ∀ p ∈ ps, m p.1 = some p.2) (F : Fr h₀ L h m) : Fr h₀ L h (kstB m ps) := by
  have e : kstB m ps = m := by
    funext y
    exact kstB_eq h1 fun _ => rfl
  rw [e]; exact F
section
variable {prog : Program} {w : World} {A : Around} {E : Value → Shared → Prop} {s : Shared} {h₀ : Heap} {L D : Addr} {m : Str → Option Value} {news news' : List (Addr × Obj)} {its : Array Value} {n : Nat}
theorem list2 {r : Addr} {a b c : Int} {t u v : Tok} {k : Nat} {Q : Value → Shared → Prop} (hh : A.handled = none) (F : Fr h₀ L s.heap m) (N : News h₀ L s.heap news) (hr : IsRange s.heap r a b c t u v) (hsmall : Builtin.Range.small a b c = true) (hn : Builtin.Range.rangeSize a b c = (k : Int)) (hlen : k ≤ 2 ^ 24)
    (h : ∀ h' tk l (rv : List Value) nn, Fr h₀ L h' m → News h₀ L h' ((l, listOf rv.toArray nn) :: news) → (∀ p ∈ news, p.1 < l) → rv.length = k → (∀ j, j < k → ∃ t, rv[j]? = some (.int (a + (j : Int) * c) t)) → Q (.ref l) { s with heap := h', toks := tk }) :
    wpAny (model prog w) A (call (.type "list") [.ref r]) Q E s := by
  refine call_list_range hh hr hsmall hn hlen fun h' tk acc' c' hk hS' hacc => ?_
  have hz : h₀.get? s.heap.objs.size = none := next_is_new F
  have hL : s.heap.objs.size ≠ L := Nat.ne_of_gt F.ns.lt
  refine h h' tk s.heap.objs.size acc'.toList c' (F.keeps hk) (fun p hp => ?_) (fun p hp => Heap.lt_size (N p hp).1) (by simp [hacc.1]) (fun j hj => ?_)
  · rcases List.mem_cons.mp hp with rfl | hp
    · exact ⟨by simpa using hS', hL, hz⟩
    · exact ⟨hk _ _ (N p hp).1, (N p hp).2⟩
  · have hj' : j < acc'.size := by rw [hacc.1]; exact hj
    obtain ⟨t, ht⟩ := hacc.2 j acc'[j] (by simp [hj'])
    exact ⟨t, by simp [hj', ht]⟩
theorem item_some {value slice : PySem.Expr} {k : Int} {u : Tok} {v : Value} {Q : Value → Shared → Prop} (N : News h₀ L s.heap news) (hm : (D, listOf its n) ∈ news) (h0 : 0 ≤ k) (hf : k < 2 ^ 63) (hx : its.toList[k.toNat]? = some v) (h : Q v s)
    (hs : subscripted slice false (.ref D) (.int k u) = operate [.ref D, .int k u] (getItem (.ref D) (.int k u)) := by with_unfolding_all rfl) :
    wpAny (model prog w) A (subscriptTail value slice (.ref D) (.int k u)) Q E s := by
  have hl : s.heap.IsList D its := ⟨_, (N _ hm).1, rfl, n, rfl⟩
  exact tail_any hl.typeIs slot_list_getitem.lookup (wpAny_getItem_list hl h0 hf (x := v) (by simpa using hx) h) hs
theorem set_K {k : Int} {t : Tok} {v : Value} {Q : Unit → Shared → Prop} (F : Fr h₀ L s.heap m) (N : News h₀ L s.heap news) (h0 : 0 ≤ k) (hfit : k < 2 ^ 63) (hk : k < its.size) (U : Upd D (listOf its n) (listOf (its.toList.set k.toNat v).toArray n) news news')
    (h : ∀ h', Fr h₀ L h' m → News h₀ L h' news' → Q () { s with heap := h' }) : wpAny (model prog w) A (setItem (.ref D) (.int k t) v) Q E s := by
  obtain ⟨pre, post, rfl, rfl, a, b⟩ := U.split
  have z := N (D, listOf its n) (List.mem_append.mpr (.inr (.head _)))
  refine ki_setAt z.1 h0 hfit hk (h _ (F.change (Heap.SameBut.update ..) z.2.1 z.2.2) (ki_turn _ N a b ?_ ?_))
  · show its.setIfInBounds k.toNat v = _
    apply Array.toList_inj.mp
    simp
  · simp
end
theorem small2 {k : Nat} (h1 : 1 ≤ k) (h : k ≤ 4) : Builtin.Range.small 2 (2 * ((k : Int) + 1)) 2 = true ∧ Builtin.Range.rangeSize 2 (2 * ((k : Int) + 1)) 2 = (k : Int) := by
  rcases (by omega : k = 1 ∨ k = 2 ∨ k = 3 ∨ k = 4) with rfl | rfl | rfl | rfl <;> decide
noncomputable def RR (Z W : Str) (i j : Nat) : Int := 2 * (((max i j : Nat) : Int) - ((min i j : Nat) : Int)) + hU Z W (min i j)
noncomputable def P1 (Z W : Str) (i : Nat) (rv : List Value) (res : Int) : Prop := rv.length = Z.length ∧ (∀ j, j < Z.length → ∃ t, rv[j]? = some (.int (RR Z W i (j + 1)) t)) ∧ (0 < i → res = RR Z W i Z.length)
noncomputable def P2 (Z W : Str) (n i j : Nat) (rv : List Value) (dist res mini : Int) : Prop := rv.length = Z.length ∧ (∀ q, q < Z.length → ∃ t, rv[q]? = some (.int (if q < j then RR Z W (i + 1) (q + 1) else RR Z W i (q + 1)) t)) ∧ dist = RR Z W i j ∧ res = (if j = 0 then 2 * (i : Int) else RR Z W (i + 1) j) ∧ (i < j → mini ≤ n)
theorem hU_succ (Z W : Str) (i : Nat) : hU Z W (i + 1) = hU Z W i + df Z W i := rfl
theorem p1_start {Z W : Str} {rv : List Value} (h1 : rv.length = Z.length) (h2 : ∀ j, j < Z.length → ∃ t, rv[j]? = some (.int (2 + (j : Int) * 2) t)) : P1 Z W 0 rv 0 :=
  ⟨h1, fun j hj => by
    obtain ⟨t, ht⟩ := h2 j hj
    refine ⟨t, ht.trans ?_⟩
    have : RR Z W 0 (j + 1) = 2 + (j : Int) * 2 := by
      unfold RR
      have e1 : min 0 (j + 1) = 0 := by omega
      have e2 : max 0 (j + 1) = j + 1 := by omega
      rw [e1, e2]
      show _ + (0 : Int) = _
      omega
    rw [this], fun h => absurd h (Nat.lt_irrefl _)⟩
theorem p2_start {Z W : Str} {n i : Nat} {rv : List Value} {res : Int} (h : P1 Z W i rv res) : P2 Z W n i 0 rv ((0 + (i : Int)) * 2) ((0 + (i : Int)) * 2) 9223372036854775807 := by
  refine ⟨h.1, fun q hq => ?_, ?_, ?_, fun h => absurd h (Nat.not_lt_zero _)⟩
  · obtain ⟨t, ht⟩ := h.2.1 q hq
    exact ⟨t, by rw [if_neg (Nat.not_lt_zero _)]; exact ht⟩
  · unfold RR
    have e1 : min i 0 = 0 := by omega
    have e2 : max i 0 = i := by omega
    rw [e1, e2]
    show _ = _ + (0 : Int)
    omega
  · rw [if_pos rfl]; omega
theorem p2_at {Z W : Str} {n i j : Nat} {rv : List Value} {d r m : Int} (h : P2 Z W n i j rv d r m) (hj : j < Z.length) : ∃ t, rv.toArray.toList[((0 : Int) + (j : Int)).toNat]? = some (.int (RR Z W i (j + 1)) t) := by
  obtain ⟨t, ht⟩ := h.2.1 j hj
  rw [if_neg (Nat.lt_irrefl _)] at ht
  have e : ((0 : Int) + (j : Int)).toNat = j := by omega
  exact ⟨t, by rw [e]; exact ht⟩
theorem p1_len {Z W : Str} {i : Nat} {rv : List Value} {res : Int} (h : P1 Z W i rv res) : rv.length = Z.length := h.1
theorem p2_len {Z W : Str} {n i j : Nat} {rv : List Value} {d r m : Int} (h : P2 Z W n i j rv d r m) : rv.length = Z.length := h.1
theorem RR_le {Z W : Str} {i j : Nat} (h : i ≤ j) : RR Z W i j = 2 * ((j : Int) - (i : Int)) + hU Z W i := by unfold RR; rw [Nat.max_eq_right h, Nat.min_eq_left h]
theorem RR_ge {Z W : Str} {i j : Nat} (h : j ≤ i) : RR Z W i j = 2 * ((i : Int) - (j : Int)) + hU Z W j := by unfold RR; rw [Nat.max_eq_left h, Nat.min_eq_right h]
theorem lt_sub0 {i a : Nat} (h : i < ((a : Int) - 0).toNat) : i < a := by omega
theorem rr_pick {a T rs r : Int} {S : Int} (hm : rs ≤ T ∨ T < rs) (h1 : rs ≤ T → (rs + 2 ≤ a + S ∧ r = rs + 2) ∨ (a + S < rs + 2 ∧ r = a + S)) (h2 : T < rs → T + 2 ≤ a + S ∧ r = T + 2) :
    (if a + S < (if T < rs then T else rs) + 2 then a + S else (if T < rs then T else rs) + 2) = r := by
  rcases hm with h | h
  · rw [if_neg (Int.not_lt.mpr h)]
    rcases h1 h with ⟨q, e⟩ | ⟨q, e⟩
    · rw [if_neg (Int.not_lt.mpr q), e]
    · rw [if_pos q, e]
  · rw [if_pos h, if_neg (Int.not_lt.mpr (h2 h).1), (h2 h).2]
theorem rr_step {Z W : Str} {i j : Nat} {S rs : Int} (hrs : rs = (if j = 0 then 2 * (i : Int) else RR Z W (i + 1) j)) (hS : S = if i = j then df Z W i else 2) :
    (if RR Z W i j + S < (if RR Z W i (j + 1) < rs then RR Z W i (j + 1) else rs) + 2 then RR Z W i j + S else (if RR Z W i (j + 1) < rs then RR Z W i (j + 1) else rs) + 2) = RR Z W (i + 1) (j + 1) := by
  rcases Nat.lt_trichotomy i j with h | h | h
  · have d1 := df_bd Z W i
    rw [if_neg (Nat.ne_of_lt h)] at hS
    rw [if_neg (Nat.ne_of_gt (Nat.lt_of_le_of_lt (Nat.zero_le _) h)), RR_le h, hU_succ] at hrs
    rw [RR_le (Nat.le_of_lt h), RR_le (Nat.le_succ_of_le (Nat.le_of_lt h)), RR_le (Nat.succ_le_succ (Nat.le_of_lt h)), hU_succ]
    generalize hU Z W i = u at hrs ⊢
    generalize df Z W i = d at d1 hrs ⊢
    clear h
    push_cast at hrs ⊢
    subst hS hrs
    exact rr_pick (.inl (by omega)) (fun _ => .inl ⟨by omega, by omega⟩) (fun q => absurd q (by omega))
  · subst h
    have d1 := df_bd Z W i
    have s1 := (hU_bd Z W i).1
    rw [if_pos rfl] at hS
    rw [RR_le (Nat.le_refl i), RR_le (Nat.le_succ i), RR_le (Nat.le_refl (i + 1)), hU_succ]
    have hr : rs = 2 + hU Z W i ∨ rs = 0 ∧ hU Z W i = 0 := by
      rw [hrs]
      split
      · rename_i h0
        rw [h0]
        exact .inr ⟨rfl, rfl⟩
      · rw [RR_ge (Nat.le_succ i)]
        push_cast
        clear hrs hS d1 s1
        exact .inl (by omega)
    clear hrs
    subst hS
    generalize hU Z W i = u at s1 hr ⊢
    generalize df Z W i = d at d1 ⊢
    push_cast
    exact rr_pick (.inl (by omega)) (fun _ => .inr ⟨by omega, by omega⟩) (fun q => absurd q (by omega))
  · have d1 := df_bd Z W j
    rw [if_neg (Nat.ne_of_gt h)] at hS
    have hr : rs = 2 * ((i : Int) - (j : Int)) + hU Z W j ∨ rs = 2 * ((i : Int) + 1 - (j : Int)) + hU Z W j := by
      rw [hrs]
      split
      · rename_i h0
        rw [h0]
        clear hrs hS d1 h
        exact .inl (by show _ = _ + (0 : Int); omega)
      · rw [RR_ge (Nat.le_succ_of_le (Nat.le_of_lt h))]
        push_cast
        exact .inr rfl
    clear hrs
    subst hS
    rw [RR_ge (Nat.le_of_lt h), RR_ge h, RR_ge (Nat.succ_le_succ (Nat.le_of_lt h)), hU_succ]
    generalize hU Z W j = u at hr ⊢
    generalize df Z W j = d at d1 ⊢
    clear h
    push_cast
    exact rr_pick (.inr (by omega)) (fun q => absurd q (by omega)) (fun _ => ⟨by omega, by omega⟩)
theorem p2_step {Z W : Str} {n i j : Nat} {rv : List Value} {ds rs mi S r mi' : Int} {t : Tok} (h : P2 Z W n i j rv ds rs mi) (hi : i < Z.length) (hj : j < Z.length) (hn : Z.length ≤ n) (hS : S = if i = j then df Z W i else 2)
    (hr : r = if ds + S < (if RR Z W i (j + 1) < rs then RR Z W i (j + 1) else rs) + 2 then ds + S else (if RR Z W i (j + 1) < rs then RR Z W i (j + 1) else rs) + 2) (hm : mi' ≤ mi ∧ mi' ≤ r) :
    P2 Z W n i (j + 1) (rv.toArray.toList.set ((0 : Int) + (j : Int)).toNat (.int r t)) (RR Z W i (j + 1)) r mi' := by
  obtain ⟨h1, h2, h3, h4, h5⟩ := h
  have e : r = RR Z W (i + 1) (j + 1) := by rw [hr, h3]; exact rr_step h4 hS
  have ej : ((0 : Int) + (j : Int)).toNat = j := by omega
  rw [ej]
  refine ⟨by simpa using h1, fun q hq => ?_, rfl, by rw [if_neg (by omega)]; exact e, fun hij => ?_⟩
  · by_cases hqj : q = j
    · subst hqj
      refine ⟨t, ?_⟩
      rw [if_pos (by omega), ← e]
      simp [h1, hq]
    · obtain ⟨u, hu⟩ := h2 q hq
      refine ⟨u, ?_⟩
      have : (if q < j + 1 then RR Z W (i + 1) (q + 1) else RR Z W i (q + 1)) = (if q < j then RR Z W (i + 1) (q + 1) else RR Z W i (q + 1)) := by
        by_cases hlt : q < j
        · rw [if_pos hlt, if_pos (by omega)]
        · rw [if_neg hlt, if_neg (by omega)]
      rw [this, ← hu]
      simp [List.getElem?_set, Ne.symm hqj]
  · rcases (by omega : i < j ∨ i = j) with hl | hl
    · exact Int.le_trans hm.1 (h5 hl)
    · subst hl
      have a4 : RR Z W (i + 1) (i + 1) = _ := RR_le (Nat.le_refl _)
      have := hU_bd Z W (i + 1)
      have := hm.2
      omega
theorem p1_next {Z W : Str} {n i : Nat} {rv : List Value} {ds rs mi : Int} (h : P2 Z W n i ((Z.length : Int) - 0).toNat rv ds rs mi) (hk : 1 ≤ Z.length) : P1 Z W (i + 1) rv rs := by
  have e : ((Z.length : Int) - 0).toNat = Z.length := by omega
  rw [e] at h
  obtain ⟨h1, h2, h3, h4, h5⟩ := h
  refine ⟨h1, fun q hq => ?_, fun _ => ?_⟩
  · obtain ⟨t, ht⟩ := h2 q hq
    exact ⟨t, by rw [if_pos hq] at ht; exact ht⟩
  · rw [if_neg (by omega)] at h4; exact h4
theorem p2_min {Z W : Str} {n i : Nat} {rv : List Value} {ds rs mi : Int} (h : P2 Z W n i ((Z.length : Int) - 0).toNat rv ds rs mi) (hi : i < Z.length) : mi ≤ n := h.2.2.2.2 (by omega)
theorem p1_done {Z W : Str} {rv : List Value} {res : Int} (h : P1 Z W ((W.length : Int) - 0).toNat rv res) (hW : W.length = Z.length) (hk : 1 ≤ Z.length) : res = hU Z W Z.length := by
  have e : ((W.length : Int) - 0).toNat = Z.length := by omega
  rw [e] at h
  rw [h.2.2 (by omega), RR_le (Nat.le_refl _)]
  omega
theorem endG1 {h₀ : Heap} {x : Str} {Q : Flow → Shared → Prop} {σ : Type} {stored : List Str} {Le : σ → Led} {ps : σ → List (Str × Value)} {P : Nat → σ → Nat → Prop} {m₀ m' : Loc} {h' : Heap} {L : Addr} {own : Led} {i : Nat} {s₁ : Shared} {tk : Nat} (c : σ) (F : Fr h₀ L h' m') (N : News h₀ L h' (Le c ++ own)) (hP : P (i + 1) c tk) (hoff : OwnOff own ((Le c).map (·.1)))
    (hk : ∀ p ∈ ps c, m' p.1 = some p.2) (hr : ∀ z, z ≠ x → (∀ p ∈ ps c, z ≠ p.1) → stored.contains z = false → m' z = m₀ z) :
    PostT h₀ L (JG x stored m₀ Le ps P (i + 1)) own s₁ Q .next { s₁ with heap := h', toks := tk } := endG c F N hP (fun _ hp => List.mem_append_left _ hp) (fun _ hp => List.mem_append_right _ hp) hoff hk hr
theorem ncont {l : List Str} {z a : Str} (h : l.contains z = false) (hm : a ∈ l) : z ≠ a := fun e => by
  subst e
  have : l.contains z = true := by simpa using hm
  rw [h] at this
  cases this
theorem contf {l : List Str} {z : Str} (h : ∀ a ∈ l, z ≠ a) : l.contains z = false := by
  cases hc : l.contains z with
  | false => rfl
  | true => exact absurd rfl (h z (by simpa using hc))
noncomputable def Stop (P : Prop) : Prop := P
theorem stop_here {P : Prop} (h : Stop P) : P := h
set_option maxRecDepth 100000 in
set_option maxHeartbeats 4000000 in
set_option pp.deepTerms false in
set_option pp.deepTerms.threshold 4 in
theorem c_dp (w : World) (mean : ExcName → Option Value) (mg mb : Str → Option Value) (news : List (Addr × Obj)) (Z W : Str) (n : Nat) (tZ tW tn : Tok) :
  ∀ (dp un : Nat) (gd : Option (List Code)) (cl : List (Str × Addr)) (outer : List Env) (A₀ : Around) (base h₀ : Heap) (L : Addr) (m : Str → Option Value) (s : Shared) (Q : Flow → Shared → Prop) (E : Value → Shared → Prop)
  (_ : Below A₀ base outer h₀) (_ : Fr h₀ L s.heap (kstB m [(Str.ofString "a", .str Z tZ), (Str.ofString "b", .str W tW), (Str.ofString "max_cost", .int (n : Int) tn)])) (_ : (Mine.hd.heap_1 w.params).In h₀) (_ : News h₀ L s.heap news) (_ : Top Mine.hdview (looseW Mine.hdview []) mean mg mb h₀)
  (_ : dp + 1 < recursionLimit) (_ : un + 8 < cLine) (_ : W.length = Z.length) (_ : 1 ≤ Z.length) (_ : Z.length ≤ n) (_ : n ≤ 4)
  (_ : ∀ i j, i < Z.length → j < Z.length → subC (Txt.item W ((0 : Int) + (i : Int))) (Txt.item Z ((0 : Int) + (j : Int))) = if i = j then df Z W i else 2)
  (_ : PassesOwn (model PySem.Challenge.rw_sw0044_01.row.prog w) (ktrTop dp un gd (Str.ofString "_levenshtein_distance") (scopeAt (Mine.hd.heap_1 w.params) 133) L 133 (.ref 132) [] outer) (envOf (Str.ofString "_levenshtein_distance") (scopeAt (Mine.hd.heap_1 w.params) 133) L 133 (.ref 132)) E)
  (_ : ∀ (h' : Heap) (tk' : Nat) (t : Tok) (m' : Loc), Fr h₀ L h' m' → News h₀ L h' news → Q (.ret (.int (hU Z W Z.length) t)) { s with heap := h', toks := tk' }),
  wpAny (model PySem.Challenge.rw_sw0044_01.row.prog w) (ktrTop dp un gd (Str.ofString "_levenshtein_distance") (scopeAt (Mine.hd.heap_1 w.params) 133) L 133 (.ref 132) [] outer) (execs ((bodyAt (Mine.hd.heap_1 w.params) 133).drop 9) (envOf (Str.ofString "_levenshtein_distance") (scopeAt (Mine.hd.heap_1 w.params) 133) L 133 (.ref 132))) Q E s := by
  k_fill
  intro dp un gd cl outer A₀ base h₀ L m s Q E kB kF kX kN kT kD kU hW hk1 hkn hn hlet hE hret
  k_with_none
  k_with "exec For Name Tuple cons nil" => ((rename Fr _ _ _ _ => lF'); (with_unfolding_all refine For_T lF' (by exact rfl) (by exact rfl) ?_); k_whole)
  k_with "exec For Name Name cons nil" => ((rename Fr _ _ _ _ => lF'); (with_unfolding_all refine For_T lF' (by exact rfl) (by exact rfl) ?_); k_whole)
  k_with "exec For Name Call cons nil" => ((rename Fr _ _ _ _ => lF'); (with_unfolding_all refine For_T lF' (by exact rfl) (by exact rfl) ?_); k_whole)
  k_with "pyIter ref" => (k_extra "my iter")
  k_with "call type:list" => (k_extra "my list")
  k_with "call ref" => (k_extra "my call")
  k_with "setItem ref int" => (k_extra "my set")
  k_with "subscriptTail" => (k_extra "my item")
  k_with "subscriptTail Name Name str int" => (k_extra "my stritem")
  k_with "execs cons" => ((rename Fr _ _ _ _ => gF'); (fail_if_success (with_reducible have gK : Fr _ _ _ (kstB _ _) := gF')); (with_reducible (first | replace gF' := fr_f1 gF' | replace gF' := fr_f2 gF' | replace gF' := fr_f3 gF' | replace gF' := fr_f4 gF' | replace gF' := fr_b6 gF' | replace gF' := fr_b5 gF' | replace gF' := fr_b4 gF' | replace gF' := fr_b3 gF' | replace gF' := fr_b2 gF' | replace gF' := fr_b1 gF')))
  generalize hsc : scopeAt (Mine.hd.heap_1 w.params) 133 = sc at hE ⊢
  conv at hsc => lhs; whnf
  subst hsc
  conv in (List.drop _ _) => whnf
  have hMk := kstMark
  have hsm := small2 hk1 (Nat.le_trans hkn hn)
  k_with "my list" => ((rename Fr _ _ _ _ => lF'); (rename News _ _ _ _ => lN'); (rename IsRange _ _ _ _ _ _ _ _ => rgX); (k_dflt (refine list2 rfl lF' lN' rgX hsm.1 hsm.2 (by omega) ?_)); clear lF' lN' rgX; intro h' tk' l rv nn F' N' hl1 hrv hrw)
  k_with "my stritem" => (refine item_str (fitsSsize_of (N := 9223372036854775808) (by omega) (by omega) (Int.le_refl _)) (by omega) (by omega) ?_; intro hil)
  k_with "my iter" => ((rename Fr _ _ _ _ => lF'); (rename News _ _ _ _ => lN'); (rename IsRange _ _ _ _ _ _ _ _ => rgX); (with_unfolding_all refine' rangeG [Str.ofString "bchar", Str.ofString "distance", Str.ofString "minimum", Str.ofString "index", Str.ofString "substitute", Str.ofString "insert_delete"] (fun (c : List Value × Nat × Int × Tok) => (l, listOf c.1.toArray c.2.1) :: news) (fun c => [(Str.ofString "result", .int c.2.2.1 c.2.2.2)]) (fun i c _ => P1 Z W i c.1 c.2.2.1) (rv, nn, 0, _) (by rfl) rgX (small_one (by omega) (by omega) (by omega) (by omega)) (rangeSize_nat _ _) lF' lN' (all1 (by rfl)) (p1_start hrv hrw) (fun _ _ _ _ _ h => h) ?turn ?done); (case' turn => clear lF' lN' rgX hrw hrv; rintro i ⟨rx, ww, res, rt⟩ t u h tk own hi htk hP hoff F' N'; replace hi := hW ▸ lt_sub0 hi; dsimp only [List.cons_append, List.map_cons] at hP F' N' hoff; have hlen := p1_len hP); (case' done => clear lF' lN' rgX hrw hrv; rintro ⟨rx, ww, res, rt⟩ u h tk hP F' N'; dsimp only at hP F' N'))
  k_with "my iter" => ((rename P1 _ _ _ _ _ => hP); (rename Fr _ _ _ _ => lF'); (rename News _ _ _ _ => lN'); (rename IsRange _ _ _ _ _ _ _ _ => rgX); (with_unfolding_all refine' rangeG [Str.ofString "substitute", Str.ofString "insert_delete"] (fun (c : List Value × Nat × (Int × Tok) × (Int × Tok) × (Int × Tok)) => (l, listOf c.1.toArray c.2.1) :: (news ++ own)) (fun c => [(Str.ofString "distance", .int c.2.2.1.1 c.2.2.1.2), (Str.ofString "result", .int c.2.2.2.1.1 c.2.2.2.1.2), (Str.ofString "minimum", .int c.2.2.2.2.1 c.2.2.2.2.2)]) (fun j c _ => P2 Z W n i j c.1 c.2.2.1.1 c.2.2.2.1.1 c.2.2.2.2.1) (rx, ww, ((0 + (i : Int)) * 2, _), ((0 + (i : Int)) * 2, _), (9223372036854775807, _)) (by rfl) rgX (small_one (by omega) (by omega) (by omega) (by omega)) (rangeSize_nat _ _) lF' lN' (allC (by rfl) (allC (by rfl) (all1 (by rfl)))) (p2_start hP) (fun _ _ _ _ _ h => h) ?turn2 ?done2); (case' turn2 => clear lF' lN' rgX hP; rintro j ⟨rx, ww, ⟨ds, dt⟩, ⟨rs, rt⟩, ⟨mi, mt⟩⟩ t u h tk own2 hj htk hP hoff2 F' N'; replace hj := lt_sub0 hj; dsimp only [List.cons_append, List.map_cons] at hP F' N' hoff2; have hlen := p2_len hP; obtain ⟨tq, hq⟩ := p2_at hP hj); (case' done2 => clear lF' lN' rgX hP; rintro ⟨rx, ww, ⟨ds, dt⟩, ⟨rs, rt⟩, ⟨mi, mt⟩⟩ u h tk hP F' N'; dsimp only at hP F' N'))
  k_with "my item" => (refine' item_some ?N ?m ?h0 ?hf hq ?_ ?hs; (case N => k_asm); (case m => k_mem); (case h0 => omega); (case hf => omega); (case hs => with_unfolding_all rfl); k_whole)
  k_with "my set" => (refine' set_K ?F ?N ?h0 ?hf ?hk ?U ?_; (case F => k_asm); (case N => k_asm); (case U => k_upd); (case h0 => omega); (case hf => omega); (case hk => (simp only [List.size_toArray]; omega)); k_whole; intro h' F' N')
  k_with "my call" => (k_dflt (refine' c_sub w _ _ _ _ _ _ _ _ _ _ _ _ _ _ _ _ _ _ _ _ _ _ _ _ _ ?kB ?kF ?kX ?kN ?kT ?kK ?kD ?kU ?h1 ?h2 ?kR); (case kB => k_asm); (case kF => k_dflt k_asm); (case kX => k_asm); (case kN => k_dflt k_asm); (case kT => k_asm); (case kK => exact rfl); (case kD => ktr_room); (case kU => ktr_units); (case h1 => exact len_item _ _); (case h2 => exact len_item _ _); intro h9 tk9 t9 F9 N9)
  k_steps
  case' done => (have e9 := p1_done hP hW hk1; subst e9; exact hret _ _ _ _ F' (fun p hp => N' p (List.mem_cons_of_mem _ hp)))
  all_goals first
    | (refine' endG1 (_, _, (_, _), (_, _), (_, _)) (by assumption) (by assumption) (p2_step hP hi hj hkn (hlet i j hi hj) rfl ?hm9) hoff2 (allC (by rfl) (allC (by rfl) (all1 (by rfl)))) ?hz9
       case hm9 => first | exact ⟨Int.le_of_lt (by assumption), Int.le_refl _⟩ | exact ⟨Int.le_refl _, Int.not_lt.mp (by assumption)⟩
       case hz9 => (intro z h1 h2 h3; have h4 := h2 _ (List.Mem.head _); have h5 := h2 _ (.tail _ (List.Mem.head _)); have h6 := h2 _ (.tail _ (.tail _ (List.Mem.head _))); have h7 := ncont h3 (List.Mem.head _); have h8 := ncont h3 (.tail _ (List.Mem.head _)); simp only [h1, h4, h5, h6, h7, h8, h3, if_false, kstB, Bool.false_eq_true]))
    | (refine' endG1 (_, _, _, _) F' N' (p1_next hP hk1) hoff (all1 (by rfl)) ?hz8
       case hz8 => (intro z h1 h2 h3; have h4 := h2 _ (List.Mem.head _); have h5 := ncont h3 (List.Mem.head _); have h6 := ncont h3 (.tail _ (List.Mem.head _)); have h7 := ncont h3 (.tail _ (.tail _ (List.Mem.head _))); have h8 := ncont h3 (.tail _ (.tail _ (.tail _ (List.Mem.head _)))); have h9 := ncont h3 (.tail _ (.tail _ (.tail _ (.tail _ (List.Mem.head _))))); have h10 := ncont h3 (.tail _ (.tail _ (.tail _ (.tail _ (.tail _ (List.Mem.head _)))))); have h11 : [Str.ofString "substitute", Str.ofString "insert_delete"].contains z = false := contf (allC h9 (all1 h10)); simp only [h1, h4, h5, h6, h7, h8, h11, h3, if_false, kstB, Bool.false_eq_true]))
    | (exfalso; have hm9 := p2_min hP hi; omega)
    | (exfalso; omega)
end Mine
end
section
open PySem PySem.W PyProof.Rows PySem.Flt
namespace Mine
theorem topOffLv : True := by
  w_top off
  trivial

theorem pre_lt {x y : Str} {n pre i0 : Nat} (hpn : pre ≤ n) (hpe : ∀ i, i < pre → ch x i = ch y i) (hi0 : i0 < n) (hi0e : ch x i0 ≠ ch y i0) : pre < n :=
  Nat.lt_of_le_of_ne hpn fun e => hi0e (hpe i0 (by omega))
theorem ne_at {x y : Str} {n : Nat} (hx : x.length = n) (hy : y.length = n) (hb : (x == y) = false) : ∃ i, i < n ∧ ch x i ≠ ch y i := by
  refine Classical.byContradiction fun hno => ?_
  have e : x = y := ext_ch (hy.trans hx.symm) fun i hi => Classical.byContradiction fun hc => hno ⟨i, hx ▸ hi, hc⟩
  rw [e] at hb
  simp at hb
theorem w1_step {x y : Str} {n pre : Nat} (hx : x.length = n) (hy : y.length = n) (hpl : pre < n) (hpe : ∀ i, i < pre → ch x i = ch y i) (he : (Txt.item x (pre : Int) == Txt.item y (pre : Int)) = true) : pre + 1 ≤ n ∧ ∀ i, i < pre + 1 → ch x i = ch y i := by
  rw [item_ch (by omega), item_ch (by omega)] at he
  refine ⟨hpl, fun i hi => ?_⟩
  rcases Nat.lt_or_ge i pre with h | h
  · exact hpe i h
  · have : i = pre := by omega
    rw [this]; exact one_inj he
theorem w1_exit {x y : Str} {n pre : Nat} (hx : x.length = n) (hy : y.length = n) (hpl : pre < n) (hpe : ∀ i, i < pre → ch x i = ch y i) (he : (Txt.item x (pre : Int) == Txt.item y (pre : Int)) = false) : pre < n ∧ (∀ i, i < pre → ch x i = ch y i) ∧ ch x pre ≠ ch y pre := by
  rw [item_ch (by omega), item_ch (by omega)] at he
  exact ⟨hpl, hpe, one_ne he⟩
noncomputable def PB (X Y : Str) (k : Nat) (p : Int) : Prop := p ≤ 0 ∧ -p < k ∧ ∀ q : Nat, 1 ≤ q → (q : Int) ≤ -p → ch X (k - q) = ch Y (k - q)
theorem pb_neg {X : Str} {k : Nat} {p : Int} (h1 : p ≤ 0) (h2 : -p < k) (hX : X.length = k) : Txt.item X (p - 1) = ⟨#[ch X (k - (1 - p).toNat)]⟩ := by
  have e : p - 1 = -(((1 - p).toNat : Nat) : Int) := by omega
  rw [e, item_neg (by omega) (by omega), hX]
theorem w2_step {X Y : Str} {k : Nat} {p : Int} (hX : X.length = k) (hY : Y.length = k) (h0 : ch X 0 ≠ ch Y 0) (hP : PB X Y k p) (he : (Txt.item X (p - 1) == Txt.item Y (p - 1)) = true) : PB X Y k (p - 1) := by
  obtain ⟨h1, h2, h3⟩ := hP
  rw [pb_neg h1 h2 hX, pb_neg h1 h2 hY] at he
  have he' := one_inj he
  refine ⟨by omega, ?_, fun q hq1 hq2 => ?_⟩
  · rcases (by omega : -(p - 1) < (k : Int) ∨ (1 - p).toNat = k) with h | h
    · exact h
    · rw [h, Nat.sub_self] at he'; exact absurd he' h0
  · rcases (by omega : (q : Int) ≤ -p ∨ q = (1 - p).toNat) with h | h
    · exact h3 q hq1 h
    · rw [h]; exact he'
theorem w2_exit {X Y : Str} {k : Nat} {p : Int} (hX : X.length = k) (hY : Y.length = k) (hP : PB X Y k p) (he : (Txt.item X (p - 1) == Txt.item Y (p - 1)) = false) : PB X Y k p ∧ ch X (k - (1 - p).toNat) ≠ ch Y (k - (1 - p).toNat) := by
  have hP' := hP
  obtain ⟨h1, h2, h3⟩ := hP
  rw [pb_neg h1 h2 hX, pb_neg h1 h2 hY] at he
  exact ⟨hP', one_ne he⟩
noncomputable def cutP (X : Str) (p : Int) : Str := if p = 0 then X else Txt.slice X none (some p)
theorem cut0 {X : Str} {p : Int} (h : p = 0) : Txt.slice X none none = cutP X p := by unfold cutP; rw [if_pos h, slice_nn]
theorem cut1 {X : Str} {p : Int} (h : p ≠ 0) : Txt.slice X none (some p) = cutP X p := by unfold cutP; rw [if_neg h]
theorem cut_len {X : Str} {k : Nat} {p : Int} (hX : X.length = k) (h1 : p ≤ 0) (h2 : -p < k) : (cutP X p).length = (k + p).toNat ∧ ∀ j : Nat, j < (k + p).toNat → ch (cutP X p) j = ch X j := by
  unfold cutP
  split
  · rename_i h; subst h; exact ⟨by omega, fun _ _ => rfl⟩
  · rename_i h
    have e : p = -((((-p).toNat : Nat)) : Int) := by omega
    rw [e]
    obtain ⟨a, b⟩ := slice_neg (x := X) (q := (-p).toNat) (by omega) (by omega)
    refine ⟨by rw [a]; omega, fun j hj => b j (by omega)⟩
theorem sl_len {X : Str} {k : Nat} {p : Int} (hX : X.length = k) (h1 : p ≤ 0) (h2 : -p < k) : (Txt.slice X none none).length = k ∧ (p ≠ 0 → (Txt.slice X none (some p)).length = (k + p).toNat) := by
  refine ⟨by rw [slice_nn]; exact hX, fun h => ?_⟩
  rw [cut1 h]; exact (cut_len hX h1 h2).1
theorem pd0 {x y : Str} {n pre : Nat} (hx : x.length = n) (hy : y.length = n) (hpl : pre < n) (hpd : ch x pre ≠ ch y pre) : ch (Txt.slice x (some (pre : Int)) none) 0 ≠ ch (Txt.slice y (some (pre : Int)) none) 0 := by
  rw [(slice_from (x := x) (i := pre) (by omega)).2 0 (by omega), (slice_from (x := y) (i := pre) (by omega)).2 0 (by omega)]
  exact hpd
theorem pb1 {X Y : Str} {k : Nat} {p : Int} (h : PB X Y k p) : p ≤ 0 := h.1
theorem pb2 {X Y : Str} {k : Nat} {p : Int} (h : PB X Y k p) : -p < k := h.2.1
theorem pb_start {X Y : Str} {k : Nat} (h : 0 < k) : PB X Y k 0 := ⟨Int.le_refl _, by omega, fun q h1 h2 => by omega⟩

theorem truthy_nz {prog : Program} {w : World} {A : Around} {E : Value → Shared → Prop} {s : Shared} {Q : Bool → Shared → Prop} {a : Int} {t : Tok} (h0 : a ≠ 0) (h : Q true s) : wpAny (model prog w) A (truthy (.int a t)) Q E s :=
  PyProof.Rows.truthy_int (by have e : (a != 0) = true := (by simpa using h0); rw [e]; exact h)
theorem truthy_z {prog : Program} {w : World} {A : Around} {E : Value → Shared → Prop} {s : Shared} {Q : Bool → Shared → Prop} {a : Int} {t : Tok} (h0 : a = 0) (h : Q false s) : wpAny (model prog w) A (truthy (.int a t)) Q E s :=
  PyProof.Rows.truthy_int (by have e : (a != 0) = false := (by simpa using h0); rw [e]; exact h)

theorem lev_val {x y : Str} {n pre : Nat} {post : Int} (hx : x.length = n) (hy : y.length = n) (hpl : pre < n) (hpe : ∀ i, i < pre → ch x i = ch y i) (hP : PB (Txt.slice x (some (pre : Int)) none) (Txt.slice y (some (pre : Int)) none) (n - pre) post) :
    (cutP (Txt.slice x (some (pre : Int)) none) post).length = ((n - pre : Nat) + post).toNat ∧ (cutP (Txt.slice y (some (pre : Int)) none) post).length = ((n - pre : Nat) + post).toNat ∧ (∀ j, j < ((n - pre : Nat) + post).toNat → ch (cutP (Txt.slice x (some (pre : Int)) none) post) j = ch x (pre + j) ∧ ch (cutP (Txt.slice y (some (pre : Int)) none) post) j = ch y (pre + j)) ∧
    hU (cutP (Txt.slice x (some (pre : Int)) none) post) (cutP (Txt.slice y (some (pre : Int)) none) post) (cutP (Txt.slice x (some (pre : Int)) none) post).length = hU x y n := by
  obtain ⟨h1, h2, h3⟩ := hP
  obtain ⟨a1, a2⟩ := slice_from (x := x) (i := pre) (by rw [hx]; exact Nat.le_of_lt hpl)
  obtain ⟨b1, b2⟩ := slice_from (x := y) (i := pre) (by rw [hy]; exact Nat.le_of_lt hpl)
  rw [hx] at a1 a2
  rw [hy] at b1 b2
  clear hx hy
  obtain ⟨c1, c2⟩ := cut_len a1 h1 h2
  obtain ⟨d1, d2⟩ := cut_len b1 h1 h2
  clear a1 b1
  obtain ⟨q, rfl⟩ : ∃ q : Nat, post = -(q : Int) := ⟨(-post).toNat, by clear c1 c2 d1 d2; omega⟩
  obtain ⟨k, rfl⟩ : ∃ k, n = pre + k + q := ⟨n - pre - q, by clear c1 c2 d1 d2; omega⟩
  have e0 : pre + k + q - pre = k + q := by rw [Nat.add_assoc, Nat.add_sub_cancel_left]
  have e1 : (((k + q : Nat) : Int) + -(q : Int)).toNat = k := by clear c1 c2 d1 d2; omega
  rw [e0] at a2 b2 h3 h2 ⊢
  rw [e0, e1] at c1 c2 d1 d2
  rw [e1]
  have hj : ∀ j, j < k → ch (cutP (Txt.slice x (some (pre : Int)) none) (-(q : Int))) j = ch x (pre + j) ∧ ch (cutP (Txt.slice y (some (pre : Int)) none) (-(q : Int))) j = ch y (pre + j) := fun j hj => ⟨(c2 j hj).trans (a2 j (Nat.lt_of_lt_of_le hj (Nat.le_add_right _ _))), (d2 j hj).trans (b2 j (Nat.lt_of_lt_of_le hj (Nat.le_add_right _ _)))⟩
  refine ⟨c1, d1, hj, ?_⟩
  rw [c1, hU_shift hj, hU_zero hpe]
  clear hj c1 c2 d1 d2 e0 e1 hpl
  have hc := hU_const (x := x) (y := y) (i := pre + k) (k := q) (fun j h4 h5 => by
    obtain ⟨r, rfl⟩ : ∃ r, j = pre + k + r := ⟨j - (pre + k), by omega⟩
    have h6 : r < q := Nat.lt_of_add_lt_add_left h5
    have := h3 (q - r) (by omega) (by omega)
    have e : k + q - (q - r) = k + r := by omega
    rw [e, a2 _ (Nat.add_lt_add_left h6 k), b2 _ (Nat.add_lt_add_left h6 k), ← Nat.add_assoc] at this
    exact this)
  rw [hc]
  omega
theorem hU_same {x y : Str} {n : Nat} (h : (x == y) = true) : hU x y n = 0 := by
  rw [beq_iff_eq.mp h]
  exact hU_zero fun _ _ => rfl
theorem lev_let {x y X Y : Str} {n pre k : Nat} (hX : X.length = k) (hY : Y.length = k) (hk : pre + k ≤ n) (hc : ∀ j, j < k → ch X j = ch x (pre + j) ∧ ch Y j = ch y (pre + j)) (hl : ∀ i j, i < n → j < n → subC ⟨#[ch y i]⟩ ⟨#[ch x j]⟩ = if i = j then df x y i else 2) :
    ∀ i j, i < X.length → j < X.length → subC (Txt.item Y ((0 : Int) + (i : Int))) (Txt.item X ((0 : Int) + (j : Int))) = if i = j then df X Y i else 2 := by
  intro i j hi hj
  rw [hX] at hi hj
  rw [Int.zero_add, Int.zero_add, item_ch (by omega), item_ch (by omega), (hc i hi).2, (hc j hj).1, hl (pre + i) (pre + j) (by omega) (by omega)]
  by_cases h : i = j
  · rw [if_pos h, if_pos (by omega)]
    unfold df
    rw [(hc i hi).1, (hc i hi).2]
  · rw [if_neg h, if_neg (by omega)]
set_option maxRecDepth 100000 in
set_option maxHeartbeats 4000000 in
set_option pp.deepTerms false in
set_option pp.deepTerms.threshold 4 in
theorem c_lev (w : World) (mean : ExcName → Option Value) (mg mb : Str → Option Value) (news : List (Addr × Obj)) (x y : Str) (n : Nat) (t1 t2 t3 : Tok) :
  ∀ (dp un : Nat) (gd : Option (List Code)) (cn : Str) (cs : Scope) (a : Addr) (ccd : Value) (cl : List (Str × Addr)) (outer : List Env) (A₀ : Around) (base h₀ : Heap) (L : Addr) (m : Str → Option Value) (s : Shared) (Q : Value → Shared → Prop) (E : Value → Shared → Prop)
  (_ : Below A₀ base outer h₀) (_ : Fr h₀ L s.heap m) (_ : (Mine.hd.heap_1 w.params).In h₀) (_ : News h₀ L s.heap news) (_ : Top Mine.hdview (looseW Mine.hdview []) mean mg mb h₀) (_ : cs.kind = .function)
  (_ : dp + 5 < recursionLimit) (_ : un + 30 < cLine) (_ : x.length = n) (_ : y.length = n) (_ : n ≤ 4) (_ : ∀ i j, i < n → j < n → subC ⟨#[ch y i]⟩ ⟨#[ch x j]⟩ = if i = j then df x y i else 2)
  (_ : ∀ (h' : Heap) (tk' : Nat) (t : Tok), Fr h₀ L h' m → News h₀ L h' news → Q (.int (hU x y n) t) { s with heap := h', toks := tk' }),
  wpAny (model PySem.Challenge.rw_sw0044_01.row.prog w) (ktrTop dp un gd cn cs L a ccd cl outer) (call (.ref 133) [.str x t1, .str y t2, .int (n : Int) t3]) Q E s := by
  k_fill
  intro dp un gd cn cs a ccd cl outer A₀ base h₀ L m s Q E kB kF kX kN kT kK kD kU hx hy hn hlt hret
  refine wpAny_call ?_
  k_dflt cell_enter
  k_with_none
  k_with "exec For Name Tuple cons nil" => ((rename Fr _ _ _ _ => lF'); (with_unfolding_all refine For_T lF' (by exact rfl) (by exact rfl) ?_); k_whole)
  k_with "exec For Name Name cons nil" => ((rename Fr _ _ _ _ => lF'); (with_unfolding_all refine For_T lF' (by exact rfl) (by exact rfl) ?_); k_whole)
  k_with "exec For Name Call cons nil" => ((rename Fr _ _ _ _ => lF'); (with_unfolding_all refine For_T lF' (by exact rfl) (by exact rfl) ?_); k_whole)
  k_with "pyIter ref" => (k_extra "my iter")
  k_with "exec While BoolOp cons nil" => (first | k_extra "my while" | refine stop_here ?_)
  k_with "truthy int" => (first | (with_reducible refine truthy_nz (by assumption) ?_) | (with_reducible refine truthy_z (by assumption) ?_))
  k_with "subscriptTail Name Slice str ref" => ((with_reducible show wpAny _ _ (subscriptTail _ (Expr.Slice none (some _) none _) _ _) _ _ _); (with_reducible rename Fr _ _ _ _ => F'); (with_reducible rename News _ _ _ _ => N'); (refine slice_strN_nn (hsz := by size_fits) (s := ⟨_, _, _, _, _⟩) F' N' ?_); intro _ _ _ _ _)
  k_with "execs cons" => ((with_reducible show wpAny _ _ (execs (List.cons (Stmt.If (Expr.BoolOp _ _ _) _ _ _) _) _) _ _ _); k_extra "my dp")
  k_with "exec Assign" => ((fail_if_success (with_reducible show wpAny _ _ (exec _ _) (MidQ _ _) _ _)); k_extra "my assign")
  k_with "execs cons" => ((rename Fr _ _ _ _ => gF'); (fail_if_success (with_reducible have gK : Fr _ _ _ (kstB _ _) := gF')); (with_reducible (first | replace gF' := fr_f1 gF' | replace gF' := fr_f2 gF' | replace gF' := fr_f3 gF' | replace gF' := fr_f4 gF' | replace gF' := fr_b6 gF' | replace gF' := fr_b5 gF' | replace gF' := fr_b4 gF' | replace gF' := fr_b3 gF' | replace gF' := fr_b2 gF' | replace gF' := fr_b1 gF')))
  k_with "my while" => ((rename Fr _ _ _ _ => lF'); (rename News _ _ _ _ => lN'); (rename (_ == _) = false => hxy); (with_unfolding_all refine' while_mid (fun (_ : Nat × Tok) => news) (fun c => [(Str.ofString "pre", .int (c.1 : Int) c.2)]) [] (fun c => c.1 ≤ n ∧ ∀ i, i < c.1 → ch x i = ch y i) (fun c => n - c.1) (fun c => c.1 < n ∧ (∀ i, i < c.1 → ch x i = ch y i) ∧ ch x c.1 ≠ ch y c.1) (0, _) lF' lN' (all1 (by rfl)) ⟨Nat.zero_le _, fun _ h => absurd h (Nat.not_lt_zero _)⟩ ?turn ?done); (case' turn => clear lF' lN'; rintro ⟨pre, tp⟩ u h tk hP F' N'; dsimp only at hP F' N'; obtain ⟨hpn, hpe⟩ := hP; obtain ⟨i0, hi0, hi0e⟩ := ne_at hx hy hxy; have hpl := pre_lt hpn hpe hi0 hi0e; obtain ⟨hsx, hsx2⟩ := slice_from (x := x) (i := pre) (by omega); obtain ⟨hsy, hsy2⟩ := slice_from (x := y) (i := pre) (by omega); have hMk := kstMark); (case' done => clear lF' lN'; rintro ⟨pre, tp⟩ u h tk hP F' N'; dsimp only at hP F' N'; obtain ⟨hpl, hpe, hpd⟩ := hP; obtain ⟨hsx, hsx2⟩ := slice_from (x := x) (i := pre) (by omega); obtain ⟨hsy, hsy2⟩ := slice_from (x := y) (i := pre) (by omega); have hMk := kstMark))
  k_with "KswEnd" => ((with_reducible show KswEnd _ _ _ _ (fun c => [(Str.ofString "pre", _)]) _ _ _ _ _ _ _); k_dflt (exact ksw_end (pre + 1, _) (by assumption) (by assumption) (fun p hp => hp) trivial (all1 (by rfl)) (by intro z h2 h3; have h4 : z ≠ Str.ofString "pre" := h2 _ (List.Mem.head _); simp only [h4, if_false, kstB, List.contains_nil, Bool.false_eq_true]) (w1_step hx hy hpl hpe (by assumption)) (by show n - (pre + 1) < n - pre; omega)))
  k_with "ExitW" => (exfalso; (try first | replace hL1 := hL1.2 (by assumption) | replace hL1 := hL1.1); (try first | replace hL2 := hL2.2 (by assumption) | replace hL2 := hL2.1); (repeat (rename ((_ → _ → _) ∧ (_ → _)) => hz; clear hz)); omega)
  k_with "ExitW" => ((with_reducible show ExitW _ _ _ _ (fun c => [(Str.ofString "pre", _)]) _ _ _ _); k_dflt (exact exitW (pre, _) (by assumption) (by assumption) (fun p hp => hp) (all1 (by rfl)) (by intro z h2 h3; have h4 : z ≠ Str.ofString "pre" := h2 _ (List.Mem.head _); simp only [h4, if_false, kstB, List.contains_nil, Bool.false_eq_true]) (w1_exit hx hy hpl hpe (by assumption))))
  k_with "my while" => ((rename (ch _ _ ≠ ch _ _) => hpd); (rename Fr _ _ _ _ => lF'); (rename News _ _ _ _ => lN'); (have hX0 := pd0 (x := x) (y := y) (n := n) (pre := pre) hx hy hpl hpd); (with_unfolding_all refine' while_mid (fun (_ : Int × Tok) => news) (fun c => [(Str.ofString "post", .int c.1 c.2)]) [] (fun c => PB (Txt.slice x (some (pre : Int)) none) (Txt.slice y (some (pre : Int)) none) (n - pre) c.1) (fun c => (((n - pre : Nat) : Int) + c.1).toNat) (fun c => PB (Txt.slice x (some (pre : Int)) none) (Txt.slice y (some (pre : Int)) none) (n - pre) c.1 ∧ ch (Txt.slice x (some (pre : Int)) none) ((n - pre) - (1 - c.1).toNat) ≠ ch (Txt.slice y (some (pre : Int)) none) ((n - pre) - (1 - c.1).toNat)) (0, _) lF' lN' (all1 (by rfl)) (pb_start (Nat.sub_pos_of_lt hpl)) ?turn2 ?done2); (case' turn2 => clear lF' lN'; rintro ⟨post, tq⟩ u h tk hP F' N'; dsimp only at hP F' N'; have hp1 := pb1 hP; have hp2 := pb2 hP; have hlx : (Txt.slice x (some (pre : Int)) none).length = n - pre := (by rw [hsx, hx]); have hly : (Txt.slice y (some (pre : Int)) none).length = n - pre := (by rw [hsy, hy]); have hL1 := sl_len hlx hp1 hp2; have hL2 := sl_len hly hp1 hp2); (case' done2 => clear lF' lN'; rintro ⟨post, tq⟩ u h tk hR F' N'; dsimp only at hR F' N'; have hp1 := pb1 hR.1; have hp2 := pb2 hR.1; have hlx : (Txt.slice x (some (pre : Int)) none).length = n - pre := (by rw [hsx, hx]); have hly : (Txt.slice y (some (pre : Int)) none).length = n - pre := (by rw [hsy, hy]); clear hsx hsy hX0))
  k_with "KswEnd" => ((with_reducible show KswEnd _ _ _ _ (fun c => [(Str.ofString "post", _)]) _ _ _ _ _ _ _); k_dflt (exact ksw_end (post - 1, _) (by assumption) (by assumption) (fun p hp => hp) trivial (all1 (by rfl)) (by intro z h2 h3; have h4 : z ≠ Str.ofString "post" := h2 _ (List.Mem.head _); simp only [h4, if_false, kstB, List.contains_nil, Bool.false_eq_true]) (w2_step hlx hly hX0 hP (by assumption)) (by show (((n - pre : Nat) : Int) + (post - 1)).toNat < (((n - pre : Nat) : Int) + post).toNat; omega)))
  k_with "ExitW" => ((with_reducible show ExitW _ _ _ _ (fun c => [(Str.ofString "post", _)]) _ _ _ _); k_dflt (exact exitW (post, _) (by assumption) (by assumption) (fun p hp => hp) (all1 (by rfl)) (by intro z h2 h3; have h4 : z ≠ Str.ofString "post" := h2 _ (List.Mem.head _); simp only [h4, if_false, kstB, List.contains_nil, Bool.false_eq_true]) (w2_exit hlx hly hP (by assumption))))
  k_with "my assign" => ((with_reducible show wpAny _ _ (exec (Stmt.Assign _ (Expr.Subscript (Expr.Name (Str.ofString "a") _) (Expr.Slice none (some (Expr.BoolOp _ _ _)) none _) _) _) _) _ _ _); (rename Fr _ _ _ _ => lF'); (rename News _ _ _ _ => lN'); (with_unfolding_all refine' set_mid (x := Str.ofString "a") (fun v nw => nw = [] ∧ ∃ t, v = .str (cutP (Txt.slice x (some (pre : Int)) none) post) t) lF' lN' ?asg3 ?done3); (case' done3 => clear lF' lN'; rintro v nw h tk ⟨rfl, ta, rfl⟩ F' N'; dsimp only [List.nil_append] at N'))
  k_with "my assign" => ((with_reducible show wpAny _ _ (exec (Stmt.Assign _ (Expr.Subscript (Expr.Name (Str.ofString "b") _) (Expr.Slice none (some (Expr.BoolOp _ _ _)) none _) _) _) _) _ _ _); (rename Fr _ _ _ _ => lF'); (rename News _ _ _ _ => lN'); (with_unfolding_all refine' set_mid (x := Str.ofString "b") (fun v nw => nw = [] ∧ ∃ t, v = .str (cutP (Txt.slice y (some (pre : Int)) none) post) t) lF' lN' ?asg4 ?done4); (case' done4 => clear lF' lN'; rintro v nw h tk ⟨rfl, tb, rfl⟩ F' N'; dsimp only [List.nil_append] at N'))
  k_with "MidQ" => (dsimp only [MidQ]; first | ((rename (post = 0) => hz0); k_dflt (exact setW _ [] (by assumption) (by assumption) (fun p hp => hp) (by rfl) (by intro z hz; simp only [hz, if_false]) ⟨rfl, _, congrArg (Value.str · _) (cut0 hz0)⟩)) | ((rename (post ≠ 0) => hz0); k_dflt (exact setW _ [] (by assumption) (by assumption) (fun p hp => hp) (by rfl) (by intro z hz; simp only [hz, if_false]) ⟨rfl, _, congrArg (Value.str · _) (cut1 hz0)⟩)))
  k_with "my dp" => ((rename Fr _ _ _ _ => lF'); (rename News _ _ _ _ => lN'); (obtain ⟨v1, v2, v3, v4⟩ := lev_val hx hy hpl hpe hR.1); (k_dflt (refine' c_dp w _ _ _ news (cutP (Txt.slice x (some (pre : Int)) none) post) (cutP (Txt.slice y (some (pre : Int)) none) post) n _ _ _ _ _ _ [] _ _ _ _ _ _ _ _ _ ?dB ?dF ?dX ?dN ?dT ?dD ?dU ?dW ?d1 ?d2 ?d3 ?dL ?dE ?dR)); (case dB => k_dflt k_asm); (case dF => (k_dflt (refine' fr_kst ?_ lF'; exact allC (by rfl) (allC (by rfl) (all1 (by rfl)))))); (case dX => k_dflt k_asm); (case dN => k_dflt (exact lN')); (case dT => k_dflt k_asm); (case dD => ktr_room); (case dU => ktr_units); (case dW => exact v2.trans v1.symm); (case d1 => (rw [v1]; omega)); (case d2 => (rw [v1]; omega)); (case d3 => exact hn); (case dL => exact lev_let v1 v2 (by omega) v3 hlt); (case dE => k_dflt passes_own); clear lF' lN'; intro h9 tk9 t9 m9 F9 N9; rw [v4])
  k_steps
  all_goals first
    | exact hret _ _ _ (by assumption) (by assumption)
    | (rw [hU_same (n := n) (by assumption)] at hret; exact hret _ _ _ (by assumption) (by assumption))

end Mine
end
section
open PySem PySem.W PyProof.Rows PySem.Flt
namespace Mine
theorem topOffWd : True := by
  w_top off
  trivial

noncomputable def gE (hue half : Int) : Int := Builtin.bitXor (Builtin.bitAnd (1 * 2 ^ hue.toNat - 1) (1 * 2 ^ half.toNat - 1)) ((1 * 2 ^ hue.toNat - 1 : Int).fdiv (2 ^ half.toNat))
noncomputable def wP (g : Int) : Nat → Str
  | 0 => Str.ofString ""
  | i + 1 => wP g i ++ Txt.item (if Builtin.bitAnd (g.fdiv (2 ^ ((0 : Int) + (i : Int)).toNat)) 1 = 0 then Str.ofString "abcd" else Str.ofString "ABCD") (0 + (i : Int))
theorem wP_step0 {g : Int} {i : Nat} {wd : Str} (hP : wd = wP g i) (hb : Builtin.bitAnd (g.fdiv (2 ^ ((0 : Int) + (i : Int)).toNat)) 1 = 0) : wd ++ Txt.item (Str.ofString "abcd") (0 + (i : Int)) = wP g (i + 1) := by
  rw [wP, if_pos hb, hP]
theorem wP_step1 {g : Int} {i : Nat} {wd : Str} (hP : wd = wP g i) (hb : Builtin.bitAnd (g.fdiv (2 ^ ((0 : Int) + (i : Int)).toNat)) 1 = 1) : wd ++ Txt.item (Str.ofString "ABCD") (0 + (i : Int)) = wP g (i + 1) := by
  rw [wP, if_neg (by rw [hb]; decide), hP]
theorem wP_len (g : Int) : ∀ i, (wP g i).length = i
  | 0 => rfl
  | i + 1 => by
    rw [wP, Str.length_append, wP_len g i, len_item]

theorem item_bit {prog : Program} {w : World} {A : Around} {E : Value → Shared → Prop} {s : Shared} {value slice : PySem.Expr} {D : Addr} {x : Int} {t : Tok} {Q : Value → Shared → Prop} 
    (h0 : Builtin.bitAnd x 1 = 0 → wpAny (model prog w) A (subscriptTail value slice (.ref D) (.int 0 t)) Q E s)
    (h1 : Builtin.bitAnd x 1 = 1 → wpAny (model prog w) A (subscriptTail value slice (.ref D) (.int 1 t)) Q E s) : wpAny (model prog w) A (subscriptTail value slice (.ref D) (.int (Builtin.bitAnd x 1) t)) Q E s := by
  have e : Builtin.bitAnd x 1 = x % 2 := bitAnd_m1 x
  rcases (by omega : x % 2 = 0 ∨ x % 2 = 1) with h | h
  · have e0 : Builtin.bitAnd x 1 = 0 := e.trans h
    rw [e0]; exact h0 e0
  · have e0 : Builtin.bitAnd x 1 = 1 := e.trans h
    rw [e0]; exact h1 e0
set_option maxRecDepth 100000 in
set_option maxHeartbeats 4000000 in
set_option pp.deepTerms false in
set_option pp.deepTerms.threshold 4 in
theorem c_word (w : World) (mean : ExcName → Option Value) (mg mb : Str → Option Value) (news : List (Addr × Obj)) (hue half : Int) (t1 t2 : Tok) :
  ∀ (dp un : Nat) (gd : Option (List Code)) (cn : Str) (cs : Scope) (a : Addr) (ccd : Value) (cl : List (Str × Addr)) (outer : List Env) (A₀ : Around) (base h₀ : Heap) (L : Addr) (m : Str → Option Value) (s : Shared) (Q : Value → Shared → Prop) (E : Value → Shared → Prop)
  (_ : Below A₀ base outer h₀) (_ : Fr h₀ L s.heap m) (_ : (Mine.hd.heap_1 w.params).In h₀) (_ : News h₀ L s.heap news) (_ : Top Mine.hdview (looseW Mine.hdview []) mean mg mb h₀) (_ : cs.kind = .function)
  (_ : dp + 1 < recursionLimit) (_ : un + 8 < cLine) (_ : 0 ≤ hue) (_ : hue < 8) (_ : 0 < half) (_ : half ≤ 4)
  (_ : ∀ (h' : Heap) (tk' : Nat) (t : Tok), Fr h₀ L h' m → News h₀ L h' news → Q (.str (wP (gE hue half) half.toNat) t) { s with heap := h', toks := tk' }),
  wpAny (model PySem.Challenge.rw_sw0044_01.row.prog w) (ktrTop dp un gd cn cs L a ccd cl outer) (call (.ref 152) [.int hue t1, .int half t2]) Q E s := by
  k_fill
  intro dp un gd cn cs a ccd cl outer A₀ base h₀ L m s Q E kB kF kX kN kT kK kD kU h0 h1 h2 h3 hret
  refine wpAny_call ?_
  k_dflt cell_enter
  k_with_none
  k_with "exec For Name Tuple cons nil" => ((rename Fr _ _ _ _ => lF'); (with_unfolding_all refine For_T lF' (by exact rfl) (by exact rfl) ?_); k_whole)
  k_with "exec For Name Name cons nil" => ((rename Fr _ _ _ _ => lF'); (with_unfolding_all refine For_T lF' (by exact rfl) (by exact rfl) ?_); k_whole)
  k_with "exec For Name Call cons nil" => ((rename Fr _ _ _ _ => lF'); (with_unfolding_all refine For_T lF' (by exact rfl) (by exact rfl) ?_); k_whole)
  k_with "pyIter ref" => (k_extra "my iter")
  k_with "call ref" => (k_extra "my call")
  k_with "subscriptTail" => (k_extra "my item")
  k_with "subscriptTail Name Name str int" => (k_extra "my stritem")
  k_with "binaryOp Add str str" => (k_extra "my add")
  k_with "execs cons" => ((rename Fr _ _ _ _ => gF'); (fail_if_success (with_reducible have gK : Fr _ _ _ (kstB _ _) := gF')); (with_reducible (first | replace gF' := fr_f1 gF' | replace gF' := fr_f2 gF' | replace gF' := fr_f3 gF' | replace gF' := fr_f4 gF' | replace gF' := fr_b6 gF' | replace gF' := fr_b5 gF' | replace gF' := fr_b4 gF' | replace gF' := fr_b3 gF' | replace gF' := fr_b2 gF' | replace gF' := fr_b1 gF')))
  k_with "my iter" => ((rename Fr _ _ _ _ => lF'); (rename News _ _ _ _ => lN'); (rename IsRange _ _ _ _ _ _ _ _ => rgX); (with_unfolding_all refine' rangeG [] (fun (_ : Str × Tok) => news) (fun c => [(Str.ofString "word", .str c.1 c.2)]) (fun i c _ => c.1 = wP (gE hue half) i) (Str.ofString "", _) (by rfl) rgX (small_one (by omega) (by omega) (by omega) (by omega)) (rangeSize_nat _ _) lF' lN' (all1 (by rfl)) (by rfl) (fun _ _ _ _ _ h => h) ?turn ?done); (case' turn => clear lF' lN' rgX; rintro i ⟨wd, tw⟩ t u h tk own hi htk hP hoff F' N'; dsimp only at hP F' N' hoff; have hwl := wP_len (gE hue half) i; rw [← hP] at hwl; have hMk := kstMark; refine fold_post ?_; intro Q9 hQ9))
  k_with "my item" => ((with_reducible show wpAny _ _ (subscriptTail _ _ (Value.ref _) (Value.int (Builtin.bitAnd _ 1) _)) _ _ _); refine' item_bit ?_ ?_; all_goals intro hbit)
  have la : (Str.ofString "abcd").length = 4 := by decide
  have lA : (Str.ofString "ABCD").length = 4 := by decide
  k_with "my stritem" => (refine item_str (fitsSsize_of (N := 9223372036854775808) (by omega) (by omega) (Int.le_refl _)) (by omega) (by omega) ?_; intro hil)
  k_with "my add" => (refine' PyProof.Rows.add_str ?_ ?hz; (case hz => (rw [len_item, sizeLine_eq]; omega)); intro _ _)
  k_with "my call" => ((with_reducible show wpAny _ _ (call (Value.ref 49) [Value.int _ _, Value.int _ _]) _ _ _); k_dflt (refine c_andI w _ _ _ _ _ _ _ _ _ _ _ _ _ _ _ _ _ _ _ _ _ _ _ _ _ (by k_asm) (by k_asm) (by k_asm) (by k_asm) (by k_asm) (by rfl) (by ktr_room) (by ktr_units) ?_); intro h9 tk9 t9 F9 N9)
  k_with "my call" => ((with_reducible show wpAny _ _ (call (Value.ref 98) [Value.int _ _, Value.int _ _]) _ _ _); k_dflt (refine c_xorI w _ _ _ _ _ _ _ _ _ _ _ _ _ _ _ _ _ _ _ _ _ _ _ _ _ (by k_asm) (by k_asm) (by k_asm) (by k_asm) (by k_asm) (by rfl) (by ktr_room) (by ktr_units) ?_); intro h9 tk9 t9 F9 N9)
  k_with "my call" => ((with_reducible show wpAny _ _ (call (Value.ref 84) [Value.int _ _, Value.int _ _]) _ _ _); k_dflt (refine c_subI w _ _ _ _ _ _ _ _ _ _ _ _ _ _ _ _ _ _ _ _ _ _ _ _ _ (by k_asm) (by k_asm) (by k_asm) (by k_asm) (by k_asm) (by rfl) (by ktr_room) (by ktr_units) ?_); intro h9 tk9 t9 F9 N9)
  k_with "my call" => ((with_reducible show wpAny _ _ (call (Value.ref 77) [Value.int _ _, Value.int _ _]) _ _ _); k_dflt (refine c_shrI w _ _ _ _ _ _ _ _ _ _ _ _ _ _ _ _ _ _ _ _ _ _ _ _ _ (by k_asm) (by k_asm) (by k_asm) (by k_asm) (by k_asm) (by rfl) (by ktr_room) (by ktr_units) (by omega) ?_); intro h9 tk9 t9 F9 N9)
  k_with "my call" => ((with_reducible show wpAny _ _ (call (Value.ref 56) [Value.int _ _, Value.int _ _]) _ _ _); k_dflt (refine c_shlI w _ _ _ _ _ _ _ _ _ _ _ _ _ _ _ _ _ _ _ _ _ _ _ _ _ (by k_asm) (by k_asm) (by k_asm) (by k_asm) (by k_asm) (by rfl) (by ktr_room) (by ktr_units) (by omega) (by omega) (by omega) (by omega) ?_); intro h9 tk9 t9 F9 N9)
  k_with "my call" => ((with_reducible show wpAny _ _ (call (Value.ref 119) [Value.str _ _, Value.int _ _]) _ _ _); k_dflt (refine c_getS w _ _ _ _ _ _ _ _ _ _ _ _ _ _ _ _ _ _ _ _ _ _ _ _ _ (by k_asm) (by k_asm) (by k_asm) (by k_asm) (by k_asm) (by rfl) (by ktr_room) (by ktr_units) (by omega) (by omega) (by omega) ?_); intro h9 tk9 t9 F9 N9)
  k_steps
  case' done => (rename (_ = wP _ _) => hd1; rw [hd1, Int.sub_zero]; exact hret _ _ _ (by assumption) (by assumption))
  all_goals refine' hQ9 _ _ (endG (_, _) (by assumption) (by assumption) ?_ (fun p hp => by simp only [List.mem_cons, List.mem_append]; simp [hp]) (fun p hp => by simp only [List.mem_cons, List.mem_append]; simp [hp]) hoff (all1 (by rfl)) ?_)
  all_goals first
    | (intro z h1 h2 h3; have h4 : z ≠ Str.ofString "word" := h2 _ (List.Mem.head _); simp only [h1, h4, if_false, kstB, List.contains_nil, Bool.false_eq_true]; done)
    | exact wP_step0 hP hbit
    | exact wP_step1 hP hbit

end Mine
end
section
open PySem PySem.W PyProof.Rows PySem.Spec PySem.Calls
namespace Mine
section
variable {prog : Program} {w : World} {A : Around} {E : Value → Shared → Prop} {s : Shared} {h₀ : Heap} {L : Addr} {m : Str → Option Value} {news : List (Addr × Obj)}
theorem subTail_go {value slice : Expr} {o i : Value} {T id : String} {ops : List Value} {Q : Value → Shared → Prop} (hT : s.TypeIs o T)
    (hl : typeLookup (.type T) "__getitem__" = pure (some (.builtin id))) (h : wpAny (model prog w) A (getItem o i) Q E s)
    (hs : subscripted slice false o i = operate ops (getItem o i)) :
    wpAny (model prog w) A (subscriptTail value slice o i) Q E s := by
  unfold subscriptTail
  refine wpAny_bind ?_
  rw [getitemInPython_of_ne hT.not_modules]
  refine wpAny_bind (wpAny_specialOf hT hl ?_)
  have fin : wpAny (model prog w) A (subscripted slice false o i) (fun r s₃ => wpAny (model prog w) A (letTemporaryGo value o r >>= fun _ => pure r) Q E s₃) E s := by
    rw [hs]
    exact wpAny_operating (wpAny_mono h (fun r s₃ h₃ => wpAny_bind (wpAny_letTemporaryGo (wpAny_pure h₃))) fun _ _ x => x)
  first
    | exact wpAny_pure (wpAny_bind fin)
    | exact wpAny_bind (wpAny_pure (wpAny_bind fin))
    | exact wpAny_bind fin
theorem slice_go {value slice : Expr} {l : Addr} {vs : List Value} {ms : List Int} {vl vu : Value} {lo hi : Option Int} {Q : Value → Shared → Prop}
    (F : Fr h₀ L s.heap m) (N : News h₀ L s.heap news) (hl : s.heap.IsList l vs.toArray) (pl : IsPart vl lo) (pu : IsPart vu hi) (hm : IntsAre (slicePick vs.toArray lo hi none).toList ms)
    (h : ∀ D ws h', Fr h₀ L h' m → News h₀ L h' ((D, listOf (List.toArray ws) 0) :: news) → (∀ p ∈ news, p.1 < D) → IntsAre ws ms → Q (.ref D) { s with heap := h' })
    (hs : subscripted slice false (.ref l) (.ref s.heap.objs.size) = operate [.ref s.heap.objs.size, .ref l] (getItem (.ref l) (.ref s.heap.objs.size)))
    (hsz : vs.toArray.size ≤ sizeLine) :
    wpAny (model prog w) A (subscriptTail value slice (.ref l) (.ref s.heap.objs.size)) Q E { s with heap := s.heap.push { cls := .type "slice", data := .fields #[vl, vu, .none] } } := by
  refine subTail_go (Heap.IsList.typeIs (s := { s with heap := s.heap.push { cls := .type "slice", data := .fields #[vl, vu, .none] } }) (hl.push _)) list_getitem_lookup
    (wpAny_getItem_list_slice (hl.push _) (Heap.IsSliceOf.new ..) pl pu .none (by simp) ?_ hsz) hs
  have N1 := News.push (F.push { cls := .type "slice", data := .fields #[vl, vu, .none] }) (N.grown fun _ _ e => Heap.get?_push_of_some _ e) { cls := .type "list", data := .seq (slicePick vs.toArray lo hi none) }
  rw [Heap.size_push] at N1
  show Q (.ref (s.heap.push _).objs.size) _
  rw [Heap.size_push]
  refine h _ (slicePick vs.toArray lo hi none).toList _ ((F.push _).push _) ?_ (fun p hp => Nat.lt_succ_of_lt (Heap.lt_size (N p hp).1)) hm
  rw [Array.toArray_toList]
  exact N1
end
end Mine
end
section
open PySem PySem.W PyProof.Rows PySem.Flt
namespace Mine
theorem topOffMd : True := by
  w_top off
  trivial
noncomputable def ordF (k : Int) (j : Nat) : Int := match (oT [.int 0 0, .int 1 0, .int 2 0, .int 3 0] k 4).getD j .none with
  | .int x _ => x
  | _ => 0
theorem ints_at : ∀ {xs : List Value} {ms : List Int}, IntsAre xs ms → ∀ j, j < ms.length → ∃ t, xs[j]? = some (.int (ms.getD j 0) t)
  | _, _, .cons n t h, 0, _ => ⟨t, rfl⟩
  | _, _, .cons n t h, j + 1, hj => by
    obtain ⟨u, hu⟩ := ints_at h j (by simpa using hj)
    exact ⟨u, by simpa using hu⟩
theorem ints_F {xs : List Value} {ms : List Int} {c : Nat} (h : IntsAre xs ms) (hc : ms.length = c) : IntsF xs c (fun i => ms.getD i 0) :=
  ⟨h.length.trans hc, fun j hj => ints_at h j (by omega)⟩
theorem wts_at {ws : List Value} {ms : List Int} {k : Nat} {v : Value} {c : Nat} (h : IntsAre ws (List.take c (List.drop (Int.toNat 3) ms))) (hl : ms.length = 10) (hv : ws.toArray[k]? = some v) : ∃ t, v = .int (ms.getD (k + 3) 0) t := by
  have hv' : ws[k]? = some v := by simpa using hv
  have hk : k < ws.length := (List.getElem?_eq_some_iff.mp hv').1
  have hlt : k < (List.take c (List.drop (Int.toNat 3) ms)).length := by rw [← h.length]; exact hk
  obtain ⟨t, ht⟩ := ints_at h k hlt
  rw [hv'] at ht
  refine ⟨t, (Option.some.inj ht).trans ?_⟩
  have e3 : Int.toNat 3 = 3 := rfl
  rw [e3] at hlt ⊢
  simp only [List.length_take, List.length_drop] at hlt
  congr 1
  simp [List.getD_eq_getElem?_getD, List.getElem?_take, show k < c by omega, Nat.add_comm]
theorem wts_n {ws dv : List Value} {ms : List Int} {c : Nat} {f : Nat → Int} (h : IntsAre ws (List.take (min (Int.toNat 7) c - Int.toNat 3) (List.drop (Int.toNat 3) ms))) (hl : ms.length = 10) (hd : IntsF dv ws.toArray.size f) (hc : c = ms.length := by rfl) : IntsF dv 4 f := by
  have e : ws.toArray.size = 4 := by
    rw [List.size_toArray, h.length, List.length_take, List.length_drop, hc, hl]; rfl
  rw [e] at hd
  exact hd
theorem led16 {h₀ h : Heap} {L : Addr} {a1 a2 a3 a4 a5 a6 a7 a8 x1 x2 x3 x4 c1 c2 c3 c4 : Addr × Obj} (N : News h₀ L h [a1, a2, a3, a4, a5, a6, a7, a8, x1, x2, x3, x4, c1, c2, c3, c4]) : News h₀ L h [a1, a2, a3, a4, a5, a6, a7, a8, c1, c2, c3, c4] := news_sub (.cons₂ _ (.cons₂ _ (.cons₂ _ (.cons₂ _ (.cons₂ _ (.cons₂ _ (.cons₂ _ (.cons₂ _ (.cons _ (.cons _ (.cons _ (.cons _ (.refl _))))))))))))) N
noncomputable def Once (_ : Nat) : Prop := True
theorem half_bd (x : Int) : 1 ≤ (2 : Int) ^ (Int.fmod x 3).toNat ∧ (2 : Int) ^ (Int.fmod x 3).toNat ≤ 4 := by
  have h1 := Int.fmod_nonneg_of_pos x (show (0:Int) < 3 by decide)
  have h2 := Int.fmod_lt_of_pos x (show (0:Int) < 3 by decide)
  generalize Int.fmod x 3 = y at *
  rcases (by omega : y = 0 ∨ y = 1 ∨ y = 2) with rfl | rfl | rfl <;> decide
theorem end_nat (x : Int) : (Int.fmod x 2 * 3).toNat < 4 := by
  have h1 := Int.fmod_nonneg_of_pos x (show (0:Int) < 2 by decide)
  have h2 := Int.fmod_lt_of_pos x (show (0:Int) < 2 by decide)
  omega
theorem fmod4 (x : Int) : 0 ≤ 1 + Int.fmod x 4 ∧ 1 + Int.fmod x 4 < 1000000 := by
  have h1 := Int.fmod_nonneg_of_pos x (show (0:Int) < 4 by decide)
  have h2 := Int.fmod_lt_of_pos x (show (0:Int) < 4 by decide)
  omega
theorem end_bd (x : Int) : 0 ≤ Int.fmod x 2 * 3 ∧ Int.fmod x 2 * 3 < 4 := by
  have h1 := Int.fmod_nonneg_of_pos x (show (0:Int) < 2 by decide)
  have h2 := Int.fmod_lt_of_pos x (show (0:Int) < 2 by decide)
  omega
theorem order_F {k : Int} {t0 t1 t2 t3 : Tok} (h0 : 0 ≤ k) (h1 : k < 24) : IntsF (oT [.int 0 t0, .int 1 t1, .int 2 t2, .int 3 t3] k 4) 4 (ordF k) := by
  have key : ∀ n : Nat, n < 24 → IntsF (oT [.int 0 t0, .int 1 t1, .int 2 t2, .int 3 t3] (n : Int) 4) 4 (ordF (n : Int)) := by
    intro n hn
    refine ⟨oT_len, fun j hj => ?_⟩
    match n, hn with
    | 0, _ => match j, hj with
      | 0, _ => exact ⟨_, rfl⟩
      | 1, _ => exact ⟨_, rfl⟩
      | 2, _ => exact ⟨_, rfl⟩
      | 3, _ => exact ⟨_, rfl⟩
      | j + 4, hj => omega
    | 1, _ => match j, hj with
      | 0, _ => exact ⟨_, rfl⟩
      | 1, _ => exact ⟨_, rfl⟩
      | 2, _ => exact ⟨_, rfl⟩
      | 3, _ => exact ⟨_, rfl⟩
      | j + 4, hj => omega
    | 2, _ => match j, hj with
      | 0, _ => exact ⟨_, rfl⟩
      | 1, _ => exact ⟨_, rfl⟩
      | 2, _ => exact ⟨_, rfl⟩
      | 3, _ => exact ⟨_, rfl⟩
      | j + 4, hj => omega
    | 3, _ => match j, hj with
      | 0, _ => exact ⟨_, rfl⟩
      | 1, _ => exact ⟨_, rfl⟩
      | 2, _ => exact ⟨_, rfl⟩
      | 3, _ => exact ⟨_, rfl⟩
      | j + 4, hj => omega
    | 4, _ => match j, hj with
      | 0, _ => exact ⟨_, rfl⟩
      | 1, _ => exact ⟨_, rfl⟩
      | 2, _ => exact ⟨_, rfl⟩
      | 3, _ => exact ⟨_, rfl⟩
      | j + 4, hj => omega
    | 5, _ => match j, hj with
      | 0, _ => exact ⟨_, rfl⟩
      | 1, _ => exact ⟨_, rfl⟩
      | 2, _ => exact ⟨_, rfl⟩
      | 3, _ => exact ⟨_, rfl⟩
      | j + 4, hj => omega
    | 6, _ => match j, hj with
      | 0, _ => exact ⟨_, rfl⟩
      | 1, _ => exact ⟨_, rfl⟩
      | 2, _ => exact ⟨_, rfl⟩
      | 3, _ => exact ⟨_, rfl⟩
      | j + 4, hj => omega
    | 7, _ => match j, hj with
      | 0, _ => exact ⟨_, rfl⟩
      | 1, _ => exact ⟨_, rfl⟩
      | 2, _ => exact ⟨_, rfl⟩
      | 3, _ => exact ⟨_, rfl⟩
      | j + 4, hj => omega
    | 8, _ => match j, hj with
      | 0, _ => exact ⟨_, rfl⟩
      | 1, _ => exact ⟨_, rfl⟩
      | 2, _ => exact ⟨_, rfl⟩
      | 3, _ => exact ⟨_, rfl⟩
      | j + 4, hj => omega
    | 9, _ => match j, hj with
      | 0, _ => exact ⟨_, rfl⟩
      | 1, _ => exact ⟨_, rfl⟩
      | 2, _ => exact ⟨_, rfl⟩
      | 3, _ => exact ⟨_, rfl⟩
      | j + 4, hj => omega
    | 10, _ => match j, hj with
      | 0, _ => exact ⟨_, rfl⟩
      | 1, _ => exact ⟨_, rfl⟩
      | 2, _ => exact ⟨_, rfl⟩
      | 3, _ => exact ⟨_, rfl⟩
      | j + 4, hj => omega
    | 11, _ => match j, hj with
      | 0, _ => exact ⟨_, rfl⟩
      | 1, _ => exact ⟨_, rfl⟩
      | 2, _ => exact ⟨_, rfl⟩
      | 3, _ => exact ⟨_, rfl⟩
      | j + 4, hj => omega
    | 12, _ => match j, hj with
      | 0, _ => exact ⟨_, rfl⟩
      | 1, _ => exact ⟨_, rfl⟩
      | 2, _ => exact ⟨_, rfl⟩
      | 3, _ => exact ⟨_, rfl⟩
      | j + 4, hj => omega
    | 13, _ => match j, hj with
      | 0, _ => exact ⟨_, rfl⟩
      | 1, _ => exact ⟨_, rfl⟩
      | 2, _ => exact ⟨_, rfl⟩
      | 3, _ => exact ⟨_, rfl⟩
      | j + 4, hj => omega
    | 14, _ => match j, hj with
      | 0, _ => exact ⟨_, rfl⟩
      | 1, _ => exact ⟨_, rfl⟩
      | 2, _ => exact ⟨_, rfl⟩
      | 3, _ => exact ⟨_, rfl⟩
      | j + 4, hj => omega
    | 15, _ => match j, hj with
      | 0, _ => exact ⟨_, rfl⟩
      | 1, _ => exact ⟨_, rfl⟩
      | 2, _ => exact ⟨_, rfl⟩
      | 3, _ => exact ⟨_, rfl⟩
      | j + 4, hj => omega
    | 16, _ => match j, hj with
      | 0, _ => exact ⟨_, rfl⟩
      | 1, _ => exact ⟨_, rfl⟩
      | 2, _ => exact ⟨_, rfl⟩
      | 3, _ => exact ⟨_, rfl⟩
      | j + 4, hj => omega
    | 17, _ => match j, hj with
      | 0, _ => exact ⟨_, rfl⟩
      | 1, _ => exact ⟨_, rfl⟩
      | 2, _ => exact ⟨_, rfl⟩
      | 3, _ => exact ⟨_, rfl⟩
      | j + 4, hj => omega
    | 18, _ => match j, hj with
      | 0, _ => exact ⟨_, rfl⟩
      | 1, _ => exact ⟨_, rfl⟩
      | 2, _ => exact ⟨_, rfl⟩
      | 3, _ => exact ⟨_, rfl⟩
      | j + 4, hj => omega
    | 19, _ => match j, hj with
      | 0, _ => exact ⟨_, rfl⟩
      | 1, _ => exact ⟨_, rfl⟩
      | 2, _ => exact ⟨_, rfl⟩
      | 3, _ => exact ⟨_, rfl⟩
      | j + 4, hj => omega
    | 20, _ => match j, hj with
      | 0, _ => exact ⟨_, rfl⟩
      | 1, _ => exact ⟨_, rfl⟩
      | 2, _ => exact ⟨_, rfl⟩
      | 3, _ => exact ⟨_, rfl⟩
      | j + 4, hj => omega
    | 21, _ => match j, hj with
      | 0, _ => exact ⟨_, rfl⟩
      | 1, _ => exact ⟨_, rfl⟩
      | 2, _ => exact ⟨_, rfl⟩
      | 3, _ => exact ⟨_, rfl⟩
      | j + 4, hj => omega
    | 22, _ => match j, hj with
      | 0, _ => exact ⟨_, rfl⟩
      | 1, _ => exact ⟨_, rfl⟩
      | 2, _ => exact ⟨_, rfl⟩
      | 3, _ => exact ⟨_, rfl⟩
      | j + 4, hj => omega
    | 23, _ => match j, hj with
      | 0, _ => exact ⟨_, rfl⟩
      | 1, _ => exact ⟨_, rfl⟩
      | 2, _ => exact ⟨_, rfl⟩
      | 3, _ => exact ⟨_, rfl⟩
      | j + 4, hj => omega
    | n + 24, hn => omega
  have e : k = (k.toNat : Int) := by omega
  rw [e]
  exact key k.toNat (by omega)
section
variable {prog : Program} {w : World} {A : Around} {E : Value → Shared → Prop} {s : Shared} {Q : Value → Shared → Prop}
theorem div_small {a b : Int} {t u : Tok} (hA : A.handled = none) (ha : 0 ≤ a) (hb : 0 < b) (hfit : a < 1000000) (h : Q (.float (Float64.ofFrac false a.natAbs b.natAbs) s.toks) { s with toks := s.toks + 1 }) : wpAny (model prog w) A (binaryOp .Div (.int a t) (.int b u)) Q E s := by
  have h2 : a.natAbs < 2 ^ 1023 := Nat.lt_of_lt_of_le (show a.natAbs < 1000000 by omega) (by decide +kernel)
  refine PySem.Flt.div_ii_fits hA h2 (fun h0 => absurd h0 (by omega)) (fun _ _ => ?_)
  have e1 : decide (a < 0) = false := decide_eq_false (by omega)
  have e2 : decide (b < 0) = false := decide_eq_false (by omega)
  rw [e1, e2]
  exact h
end
theorem ord_bd {k : Int} (h0 : 0 ≤ k) (h1 : k < 24) : ∀ j, j < 4 → 0 ≤ ordF k j ∧ ordF k j < 4 := by
  have key : ∀ n : Nat, n < 24 → ∀ j, j < 4 → 0 ≤ ordF (n : Int) j ∧ ordF (n : Int) j < 4 := by decide +kernel
  have e : k = (k.toNat : Int) := by omega
  rw [e]
  exact key k.toNat (by omega)
noncomputable def WordsF (ys : List Value) (c : Nat) (half : Int) : Prop := ys.length = c ∧ ∀ j, j < c → ∃ t, ys[j]? = some (.str (wP (gE (j : Int) half) half.toNat) t)
theorem words_nil (half : Int) : WordsF [] 0 half := ⟨rfl, fun _ h => absurd h (Nat.not_lt_zero _)⟩
theorem words_push {ov : List Value} {c : Nat} {half : Int} {t : Tok} (h : WordsF ov c half) : WordsF (ov ++ [.str (wP (gE ((0 : Int) + (c : Int)) half) half.toNat) t]) (c + 1) half := by
  have e0 : (0 : Int) + (c : Int) = (c : Int) := by omega
  rw [e0]
  refine ⟨by simp [h.1], fun j hj => ?_⟩
  rcases Nat.lt_or_ge j c with hl | hl
  · obtain ⟨u, hu⟩ := h.2 j hl
    exact ⟨u, by rw [List.getElem?_append_left (by rw [h.1]; exact hl)]; exact hu⟩
  · have e : j = c := by omega
    rw [e]
    exact ⟨t, by rw [List.getElem?_append_right (by rw [h.1]; exact Nat.le_refl _), h.1]; simp⟩
set_option maxRecDepth 100000 in
set_option maxHeartbeats 1000000 in
set_option pp.deepTerms false in
set_option pp.deepTerms.threshold 5 in
theorem c_mid (w : World) (mean : ExcName → Option Value) (mg mb : Str → Option Value) (ln : Addr) (kn : Nat) (xs : List Value) (ms : List Int) (oU oS oW oH : Obj) (vU vS vW vH : Option Value) :
  ∀ (dp un : Nat) (gd : Option (List Code)) (outer : List Env) (A₀ : Around) (base h₀ : Heap) (L fa : Addr) (cd : Value) (m : Str → Option Value) (s : Shared) (Q : Flow → Shared → Prop) (E : Value → Shared → Prop)
  (_ : Below A₀ base outer h₀) (_ : Fr h₀ L s.heap (kstB m [(Str.ofString "numbers", .ref ln)])) (_ : (Mine.hd.heap_1 w.params).In h₀) (_ : News h₀ L s.heap [(ln, listOf xs.toArray kn), (L + 1 + 1 + 1 + 1, oU), (L + 1 + 1 + 1, oS), (L + 1 + 1, oW), (L + 1, oH)]) (_ : Top Mine.hdview (looseW Mine.hdview []) mean mg mb h₀)
  (_ : dp + 20 < recursionLimit) (_ : un + 100 < cLine) (_ : @LT.lt Nat _ (L + 1 + 1 + 1 + 1) ln) (_ : IntsAre xs ms) (_ : ms.length = 10) (_ : oU.data = .cell vU) (_ : oS.data = .cell vS) (_ : oW.data = .cell vW) (_ : oH.data = .cell vH)
  (_ : PassesOwn (model PySem.Challenge.rw_sw0044_01.row.prog w) (ktrTop dp un gd (Str.ofString "law") (scopeAt (Mine.hd.heap_1 w.params) 157) L fa cd (cellsFrom (L + 1) (scopeAt (Mine.hd.heap_1 w.params) 157).names []) outer) (envOfC (Str.ofString "law") (scopeAt (Mine.hd.heap_1 w.params) 157) L fa cd) E)
  (_ : ∀ (h' : Heap) (tk' : Nat) (m' : Loc) (hn : Nat) (lr la lb lws lt ld lf lm : Addr) (va vb wv : List Value) (na nb nw : Nat) (oU' oS' oW' oH' : Obj) (uv : Option Value) (tS tW tH ts tl ta f1 f2 f3 : Tok),
    (hn : Int) = (2 : Int) ^ (Int.fmod (ms.getD 1 0) 3).toNat → IntsF va 16 (row1 (ordF (Int.fmod (ms.getD 0 0) 24)) (fun i => Int.fmod (ms.getD (i + 3) 0) 64) (hn : Int) (Int.fmod (ms.getD 7 0) 64)) → IntsF vb 16 (row2 (ordF (Int.fmod (ms.getD 0 0) 24)) (fun i => Int.fmod (ms.getD (i + 3) 0) 64) (hn : Int) (Int.fmod (ms.getD 7 0) 64) (Int.fmod (ms.getD 8 0) 64) (ordF (Int.fmod (ms.getD 0 0) 24) (Int.fmod (ms.getD 9 0) 2 * 3).toNat)) → WordsF wv (2 * (hn : Int)).toNat (hn : Int) →
    oU'.data = .cell uv → oS'.data = .cell (some (.int (1 + Int.fmod (ms.getD 2 0) 15) tS)) → oW'.data = .cell (some (.int (2 * (hn : Int)) tW)) → oH'.data = .cell (some (.int (hn : Int) tH)) →
    @LT.lt Nat _ (L + 1 + 1 + 1 + 1) la → @LT.lt Nat _ la lb → @LT.lt Nat _ lb lr → @LT.lt Nat _ lr lt → @LT.lt Nat _ lws lt → @LT.lt Nat _ lt ld → @LT.lt Nat _ ld lf → @LT.lt Nat _ lf lm → 1 ≤ tk' → @LT.lt Nat _ 0 ts → @LT.lt Nat _ 0 tl →
    Fr h₀ L h' (kstB m' [(Str.ofString "rows", .ref lr), (Str.ofString "words", .ref lws), (Str.ofString "share", .float (Float64.ofFrac false (1 + Int.fmod (Int.fdiv (ms.getD 1 0) 3) 4).natAbs 4) ts), (Str.ofString "level", .float (Float64.ofFrac false (1 + Int.fmod (Int.fdiv (ms.getD 1 0) 12) 4).natAbs 4) tl), (Str.ofString "turns", .ref lt), (Str.ofString "told", .ref ld), (Str.ofString "fars", .ref lf), (Str.ofString "mixed", .ref lm), (Str.ofString "apart", .int 0 ta)]) →
    News h₀ L h' [(lm, listOf #[.float 0 f1, .float 0 f2, .float 0 f3] 0), (lf, listOf #[] 0), (ld, listOf #[] 0), (lt, listOf #[] 0), (lws, listOf wv.toArray nw), (lr, listOf #[.ref la, .ref lb] 0), (lb, listOf vb.toArray nb), (la, listOf va.toArray na), ((L + 1 + 1 + 1 + 1), oU'), (L + 1 + 1 + 1, oS'), (L + 1 + 1, oW'), (L + 1, oH')] →
    wpAny (model PySem.Challenge.rw_sw0044_01.row.prog w) (ktrTop dp un gd (Str.ofString "law") (scopeAt (Mine.hd.heap_1 w.params) 157) L fa cd (cellsFrom (L + 1) (scopeAt (Mine.hd.heap_1 w.params) 157).names []) outer) (execs ((bodyAt (Mine.hd.heap_1 w.params) 157).drop 16) (envOfC (Str.ofString "law") (scopeAt (Mine.hd.heap_1 w.params) 157) L fa cd)) Q E { s with heap := h', toks := tk' }),
  wpAny (model PySem.Challenge.rw_sw0044_01.row.prog w) (ktrTop dp un gd (Str.ofString "law") (scopeAt (Mine.hd.heap_1 w.params) 157) L fa cd (cellsFrom (L + 1) (scopeAt (Mine.hd.heap_1 w.params) 157).names []) outer) (execs ((bodyAt (Mine.hd.heap_1 w.params) 157).drop 2) (envOfC (Str.ofString "law") (scopeAt (Mine.hd.heap_1 w.params) 157) L fa cd)) Q E s := by
  k_fill
  intro dp un gd outer A₀ base h₀ L fa cd m s Q E kB kF kX kN kT kD kU hln hI hlen hdU hdS hdW hdH hE hnext
  k_with_none
  k_with "call ref" => (k_extra "my call")
  k_with "binaryOp Div int int" => (k_extra "my div")
  k_with "storeName" => (k_extra "my store")
  k_with "execs cons" => (k_extra "my stop")
  k_with "subscriptTail" => (k_extra "my item")
  k_with "CompSrc" => (k_extra "my src")
  k_with "execs cons" => (k_gentoks; (try dsimp only))
  k_with "execs cons" => ((rename Fr _ _ _ _ => gF'); (fail_if_success (with_reducible have gK : Fr _ _ _ (kstB _ _) := gF')); (with_reducible (first | replace gF' := fr_f1 gF' | replace gF' := fr_f2 gF' | replace gF' := fr_f3 gF' | replace gF' := fr_f4 gF' | replace gF' := fr_b6 gF' | replace gF' := fr_b5 gF' | replace gF' := fr_b4 gF' | replace gF' := fr_b3 gF' | replace gF' := fr_b2 gF' | replace gF' := fr_b1 gF')))
  generalize hsc : scopeAt (Mine.hd.heap_1 w.params) 157 = sc at hE hnext ⊢
  conv at hsc => lhs; whnf
  subst hsc
  conv in (List.drop _ _) => whnf
  have hMk := kstMark
  have hF : IntsF xs 10 (fun i => ms.getD i 0) := ints_F hI hlen
  have on1 : Once 1 := trivial
  k_with "my call" => (refine stop_here ?_)
  k_with "my src" => (refine stop_here ?_)
  k_with "my stop" => ((with_reducible show wpAny _ _ (execs (List.cons (Stmt.For _ _ _ _ _) _) _) _ _ _); refine stop_here ?_)
  k_with "my stop" => ((with_reducible show wpAny _ _ (execs (List.cons (Stmt.Assign [Expr.Name (Str.ofString "wheel") _] _ _) _) _) _ _ _); clear on1; (have hhf := half_bd (ms.getD (Int.toNat 1) 0)); (generalize hhalf : (2 : Int) ^ (Int.fmod (ms.getD (Int.toNat 1) 0) 3).toNat = half at *))
  k_with "my item" => ((with_reducible show wpAny _ _ (subscriptTail _ _ (Value.ref ln) (Value.int _ _)) _ _ _); (rename News _ _ _ _ => lN'); (with_unfolding_all refine' item_fn lN' ?imn hF.2 ?i0n ?i4n ?icn ?_ ?isn); (case imn => k_mem); (case i0n => omega); (case i4n => omega); (case icn => decide); (case isn => with_unfolding_all rfl); intro _)
  k_with "my item" => ((with_reducible show wpAny _ _ (subscriptTail _ _ (Value.ref lo) (Value.int _ _)) _ _ _); (rename News _ _ _ _ => lN'); (with_unfolding_all refine' item_fn lN' ?imo hO.2 ?i0o ?i4o ?ico ?_ ?iso); (case imo => k_dflt (repeat (first | exact List.Mem.head _ | apply List.Mem.tail))); (case i0o => k_dflt (exact (end_bd _).1)); (case i4o => k_dflt (exact (end_bd _).2)); (case ico => decide); (case iso => with_unfolding_all rfl); intro _)
  k_with "my call" => ((with_reducible show wpAny _ _ (call (Value.ref 140) _) _ _ _); k_dflt (refine' c_order w _ _ _ _ _ _ _ _ _ _ _ _ _ _ _ _ _ _ _ _ _ _ _ ?oB ?oF ?oX ?oN ?oT ?oK ?oD ?oU ?o0 ?o1 ?oR); (case oB => k_dflt k_asm); (case oF => k_dflt k_asm); (case oX => k_dflt k_asm); (case oN => k_dflt k_asm); (case oT => k_dflt k_asm); (case oK => exact rfl); (case oD => ktr_room); (case oU => ktr_units); (case o0 => exact Int.fmod_nonneg_of_pos _ (by decide)); (case o1 => exact Int.fmod_lt_of_pos _ (by decide)); intro h9 tk9 lo ot0 ot1 ot2 ot3 F9 N9 hlo; have hO := order_F (t0 := ot0) (t1 := ot1) (t2 := ot2) (t3 := ot3) (Int.fmod_nonneg_of_pos (ms.getD (Int.toNat 0) 0) (by decide : (0:Int) < 24)) (Int.fmod_lt_of_pos (ms.getD (Int.toNat 0) 0) (by decide : (0:Int) < 24)); (try k_lt hlo))
  k_with "my div" => ((with_reducible show wpAny _ _ (binaryOp _ (Value.int _ _) (Value.int 4 _)) _ _ _); (with_unfolding_all refine' div_small ?vA ?va ?vb ?vf ?_); (case vA => rfl); (case va => exact (fmod4 _).1); (case vb => decide); (case vf => exact (fmod4 _).2))
  k_with "my call" => ((with_reducible show wpAny _ _ (call (Value.ref 145) _) _ _ _); k_dflt (refine' c_pair w _ _ _ _ (ordF ((ms.getD (Int.toNat 0) 0).fmod 24)) (fun i => (ms.getD (i + 3) 0).fmod 64) half _ _ _ lo lw _ dv _ _ _ _ _ _ _ _ _ _ _ _ _ _ _ _ _ _ _ _ _ _ _ ?pB ?pF ?pX ?pN ?pT ?pK ?pD ?pU ?p1 ?p2 ?p3 ?p4 ?p5 ?p6 ?p7 ?p8 ?p9 ?p10 ?p11 ?p12 ?p13 ?p14 ?pR); (case pB => k_dflt k_asm); (case pF => k_dflt k_asm); (case pX => k_dflt k_asm); (case pN => k_dflt k_asm); (case pT => k_dflt k_asm); (case pK => exact rfl); (case pD => ktr_room); (case pU => ktr_units); (case p1 => k_dflt (repeat (first | exact List.Mem.head _ | apply List.Mem.tail))); (case p2 => k_dflt (repeat (first | exact List.Mem.head _ | apply List.Mem.tail))); (case p3 => exact hO); (case p4 => exact hdv); (case p5 => exact ord_bd (Int.fmod_nonneg_of_pos _ (by decide)) (Int.fmod_lt_of_pos _ (by decide))); (case p6 => exact fun j _ => ⟨Int.fmod_nonneg_of_pos _ (by decide), Int.fmod_lt_of_pos _ (by decide)⟩); (case p7 => exact hhf.1); (case p8 => exact hhf.2); (case p9 => exact Int.fmod_nonneg_of_pos _ (by decide)); (case p10 => exact Int.fmod_lt_of_pos _ (by decide)); (case p11 => exact Int.fmod_nonneg_of_pos _ (by decide)); (case p12 => exact Int.fmod_lt_of_pos _ (by decide)); (case p13 => exact (ord_bd (Int.fmod_nonneg_of_pos _ (by decide)) (Int.fmod_lt_of_pos _ (by decide)) _ (end_nat _)).1); (case p14 => exact (ord_bd (Int.fmod_nonneg_of_pos _ (by decide)) (Int.fmod_lt_of_pos _ (by decide)) _ (end_nat _)).2); intro h9 tk9 lr la lb va vb na nb hra hrb q1 q2 q3 F9 N9; (have q2 : @LT.lt Nat _ la lb := q2); (have q3 : @LT.lt Nat _ lb lr := q3); (try k_lt q1))
  k_with "my call" => ((with_reducible show wpAny _ _ (call (Value.ref 152) _) _ _ _); k_dflt (refine' c_word w _ _ _ _ _ half _ _ _ _ _ _ _ _ _ _ _ _ _ _ _ _ _ _ _ ?wB ?wF ?wX ?wN ?wT ?wK ?wD ?wU ?w1 ?w2 ?w3 ?w4 ?wR); (case wB => k_dflt k_asm); (case wF => k_dflt k_asm); (case wX => k_dflt k_asm); (case wN => k_dflt k_asm); (case wT => k_dflt k_asm); (case wK => exact rfl); (case wD => ktr_room); (case wU => ktr_units); (case w1 => omega); (case w2 => omega); (case w3 => omega); (case w4 => omega); intro h9 tk9 t9 F9 N9)
  k_with "my src" => ((with_reducible show LCg.CompSrc _ _ _ _ _ _ _ _ (Str.ofString "hue") _ _ _ _ _); (rename IsRange _ _ _ _ _ _ _ _ => rgX); k_dflt (refine LCg.CompSrc.range (by rfl) (by k_asm) (by k_asm) rgX (small_one (by omega) (by omega) (by omega) (by omega)) (rangeSize_nat _ _) (by rw [sizeLine_eq]; omega) ?_); intro g9; k_dflt (refine' comp_rest (fun k ys => WordsF ys k half) (by trivial) (words_nil _) ?hturn ?hfin); (case' hturn => intro k v ys I9 oI9 C9 oC9 D9 m9 h9 tk9 E9 hk9 hv9 hR9 hC9 hx9 F' N'; obtain ⟨tv9, rfl⟩ := hv9); (case' hfin => intro wv hwv; unfold LCg.FinA; intro lws h9 tk9 F' N' o9; simp only [LCg.Off1] at o9))
  k_with "my store" => ((first | (with_reducible show wpAny _ _ (storeName _ (Str.ofString "half") _) _ _ _) | (with_reducible show wpAny _ _ (storeName _ (Str.ofString "wheel") _) _ _ _) | (with_reducible show wpAny _ _ (storeName _ (Str.ofString "shift") _) _ _ _)); k_dflt (refine' storeX_C ?cF ?cN ?cc ?cU ?cd ?_ ?ca ?cb); (case ca => rfl); (case cb => k_dflt rfl); (case cF => k_asm); (case cN => k_asm); (case cc => k_dflt rfl); (case cU => k_dflt k_updF); (case cd => k_asm); intro h' o' F' N' d'; (try dsimp only at N'))
  k_with "my src" => ((with_reducible show LCg.CompSrc _ _ _ _ _ _ _ _ (Str.ofString "x") _ _ _ _ _); (rename IntsAre _ (List.take _ _) => hws); (have hwl := hws.length); k_dflt (refine LCg.CompSrc.ledger (by rfl) (by k_asm) (by k_asm) (by k_mem) (by exact size_small hwl (by simp [hlen])) ?_); intro g9; k_dflt (refine' comp_rest (fun k ys => IntsF ys k (fun i => (ms.getD (i + 3) 0).fmod 64)) ?srcS (intsF_nil _) ?wturn ?wfin); (case srcS => k_dflt (exact Or.inr ⟨_, by k_mem, rfl, _, rfl⟩)); (case' wturn => intro k v ys I9 oI9 C9 oC9 D9 m9 h9 tk9 E9 hk9 hv9 hR9 hC9 hx9 F' N'; obtain ⟨tv9, rfl⟩ := wts_at hws hlen hv9); (case' wfin => intro dv hdv; (have hdv : IntsF dv 4 (fun i => (ms.getD (i + 3) 0).fmod 64) := wts_n hws hlen hdv); unfold LCg.FinA; intro lw h9 tk9 F' N' o9; simp only [LCg.Off1] at o9))
  k_steps
  case' hfin =>
    unfold Stop
    obtain ⟨hn, rfl⟩ : ∃ hn : Nat, half = (hn : Int) := ⟨half.toNat, by omega⟩
    rename Fr _ _ _ _ => lF'
    rename News _ _ _ _ => lN'
    refine' hnext _ _ _ hn lr la lb lws _ _ _ _ va vb wv _ _ _ _ _ _ _ _ _ _ _ _ _ _ _ _ _ hhalf.symm hra hrb hwv ?dU ?dS ?dW ?dH ?a1 q2 q3 ?a4 ?a5 ?a6 ?a7 ?a8 ?tk ?ts0 ?tl0 ?F (led16 lN')
    case F => (refine' fr_kst ?_ lF'; exact allC (by rfl) (allC (by rfl) (allC (by rfl) (allC (by rfl) (allC (by rfl) (allC (by rfl) (allC (by rfl) (allC (by rfl) (all1 (by rfl)))))))))) 
    case tk => exact Nat.succ_le_succ (Nat.zero_le _)
    case ts0 => exact Nat.succ_pos _
    case tl0 => exact Nat.succ_pos _
    case dU => assumption
    case dS => assumption
    case dW => assumption
    case dH => assumption
    all_goals first | assumption | omega
  all_goals first
    | exact eltP (by assumption) (by assumption) (intsF_push hR9 rfl)
    | exact eltP (by assumption) (by assumption) (words_push hR9)

end Mine
end
section
open PySem PySem.W PyProof.Rows PySem.Flt
namespace Mine
noncomputable def far (wh t : Int) : Int := min t (wh - t)
noncomputable def tnF (wh : Int) (sh : Nat) (r : Nat → Int) (i : Nat) : Int := (r i - r (i + sh)).fmod wh
noncomputable def rowT (wh : Int) (sh : Nat) (r : Nat → Int) (n : Nat) : List Int := (List.range n).map (tnF wh sh r)
theorem rowT_succ (wh : Int) (sh : Nat) (r : Nat → Int) (n : Nat) : rowT wh sh r (n + 1) = rowT wh sh r n ++ [tnF wh sh r n] := by
  unfold rowT; rw [List.range_succ, List.map_append]; rfl
theorem rowT_len (wh : Int) (sh : Nat) (r : Nat → Int) (n : Nat) : (rowT wh sh r n).length = n := by unfold rowT; simp
noncomputable def rsel (r1 r2 : Nat → Int) : Nat → Nat → Int
  | 0 => r1
  | _ => r2
noncomputable def preT (wh : Int) (sh : Nat) (r1 r2 : Nat → Int) (n : Nat) : Nat → List Int
  | 0 => []
  | i + 1 => preT wh sh r1 r2 n i ++ rowT wh sh (rsel r1 r2 i) n
noncomputable def ToldA (H : Int → UInt64) (vs : List Value) (T : List Int) (tk : Nat) : Prop :=
  vs.length = T.length ∧ ∀ j, j < T.length → ∃ t : Tok, vs[j]? = some (.float (H (T.getD j 0)) t) ∧ @LT.lt Nat _ 0 t ∧ @LT.lt Nat _ t tk
theorem toldA_nil (H : Int → UInt64) (tk : Nat) : ToldA H [] [] tk := ⟨rfl, fun _ h => absurd h (Nat.not_lt_zero _)⟩
theorem toldA_mono {H : Int → UInt64} {vs : List Value} {T : List Int} {tk tk' : Nat} (h : ToldA H vs T tk) (hle : tk ≤ tk') : ToldA H vs T tk' :=
  ⟨h.1, fun j hj => let ⟨t, a, b, c⟩ := h.2 j hj; ⟨t, a, b, Nat.lt_of_lt_of_le c hle⟩⟩
theorem toldA_push {H : Int → UInt64} {vs : List Value} {T : List Int} {tk tk' : Nat} {x : Int} {t : Tok} (h : ToldA H vs T tk) (hle : tk ≤ tk') (h0 : @LT.lt Nat _ 0 t) (h1 : @LT.lt Nat _ t tk') : ToldA H (vs ++ [.float (H x) t]) (T ++ [x]) tk' := by
  refine ⟨by simp [h.1], fun j hj => ?_⟩
  rcases Nat.lt_or_ge j T.length with hl | hl
  · obtain ⟨u, a, b, c⟩ := h.2 j hl
    refine ⟨u, ?_, b, Nat.lt_of_lt_of_le c hle⟩
    rw [List.getElem?_append_left (by rw [h.1]; exact hl), a]
    simp [List.getD_eq_getElem?_getD, List.getElem?_append_left hl]
  · have e : j = T.length := by simp at hj; omega
    subst e
    refine ⟨t, ?_, h0, h1⟩
    rw [List.getElem?_append_right (by rw [h.1]; exact Nat.le_refl _), h.1]
    simp
theorem intsAre_push : ∀ {vs : List Value} {T : List Int} {x : Int} {t : Tok}, IntsAre vs T → IntsAre (vs ++ [.int x t]) (T ++ [x])
  | _, _, x, t, .nil => .cons x t .nil
  | _, _, _, _, .cons n u h => .cons n u (intsAre_push h)
structure LSt where
  tv : List Value
  tn : Nat
  dv : List Value
  dn : Nat
  fv : List Value
  fn : Nat
  lm : Addr
  x : UInt64
  y : UInt64
  z : UInt64
  tx : Tok
  ty : Tok
  tz : Tok
  ap : Int
  apt : Tok
noncomputable abbrev foldF (R : Int → UInt64) (T : List Int) : UInt64 := T.foldl (fun a t => Float64.add a (R t)) 0
noncomputable abbrev foldI (wh : Int) (T : List Int) : Int := T.foldl (fun a t => a + far wh t) 0
structure LP (wh : Int) (H RX RY RZ : Int → UInt64) (lf : Addr) (T : List Int) (c : LSt) (tk : Nat) : Prop where
  turns : IntsAre c.tv T
  told : ToldA H c.dv T tk
  fars : IntsAre c.fv (T.map (far wh))
  hx : c.x = foldF RX T
  hy : c.y = foldF RY T
  hz : c.z = foldF RZ T
  ap : c.ap = foldI wh T
  len : T.length ≤ 30
  ord : @LT.lt Nat _ lf c.lm
theorem LP.mono {wh : Int} {H RX RY RZ : Int → UInt64} {lf : Addr} {T : List Int} {c : LSt} {tk tk' : Nat} (hle : tk ≤ tk') (h : LP wh H RX RY RZ lf T c tk) : LP wh H RX RY RZ lf T c tk' :=
  { h with told := toldA_mono h.told hle }
theorem LP.step {wh : Int} {H RX RY RZ : Int → UInt64} {lf lm' : Addr} {T : List Int} {c : LSt} {tk tk' tn' dn' fn' : Nat} {x : Int} {t1 t2 t3 tx ty tz ta : Tok} {far' : Int} (h : LP wh H RX RY RZ lf T c tk) (hle : tk ≤ tk') (h0 : @LT.lt Nat _ 0 t2) (h1 : @LT.lt Nat _ t2 tk') (hf : far' = far wh x) (hl : T.length + 1 ≤ 30) (ho : @LT.lt Nat _ lf lm') :
    LP wh H RX RY RZ lf (T ++ [x]) ⟨c.tv ++ [.int x t1], tn', c.dv ++ [.float (H x) t2], dn', c.fv ++ [.int far' t3], fn', lm', Float64.add c.x (RX x), Float64.add c.y (RY x), Float64.add c.z (RZ x), tx, ty, tz, c.ap + far', ta⟩ tk' where
  turns := intsAre_push h.turns
  told := toldA_push h.told hle h0 h1
  fars := by rw [List.map_append]; subst hf; exact intsAre_push h.fars
  hx := by show Float64.add c.x _ = _; rw [h.hx]; simp [foldF]
  hy := by show Float64.add c.y _ = _; rw [h.hy]; simp [foldF]
  hz := by show Float64.add c.z _ = _; rw [h.hz]; simp [foldF]
  ap := by show c.ap + far' = _; rw [h.ap, hf]; simp [foldI]
  len := by simpa using hl
  ord := ho
structure Col (wh : Int) (S V : UInt64) (H RX RY RZ : Int → UInt64) (a b : Int) : Prop where
  nan : Float64.isNaN (Float64.mul (Float64.ofFrac false (a + (wh - 1) * b).natAbs wh.natAbs) 0x4018000000000000) = false
  inf : Float64.isInf (Float64.mul (Float64.ofFrac false (a + (wh - 1) * b).natAbs wh.natAbs) 0x4018000000000000) = false
  kk : ∃ k : Int, toInt Float64.truncOf (Float64.mul (Float64.ofFrac false (a + (wh - 1) * b).natAbs wh.natAbs) 0x4018000000000000) = k ∧ 0 ≤ k ∧ k < 1000000 ∧ rgbF (k.fmod 6) (Float64.sub (Float64.mul (Float64.ofFrac false (a + (wh - 1) * b).natAbs wh.natAbs) 0x4018000000000000) (Float64.ofInt k)) S V = some (RX ((a - b).fmod wh), RY ((a - b).fmod wh), RZ ((a - b).fmod wh))
  ne : (Float64.cmp (mn3 (RX ((a - b).fmod wh)) (RY ((a - b).fmod wh)) (RZ ((a - b).fmod wh))) (mx3 (RX ((a - b).fmod wh)) (RY ((a - b).fmod wh)) (RZ ((a - b).fmod wh))) == some .eq) = false
  hsv : hsvF (RX ((a - b).fmod wh)) (RY ((a - b).fmod wh)) (RZ ((a - b).fmod wh)) = some (H ((a - b).fmod wh), S, V)
  told : H ((a - b).fmod wh) = Float64.ofFrac false ((a - b).fmod wh).natAbs wh.natAbs
  same : (Float64.cmp (H ((a - b).fmod wh)) (H ((a - b).fmod wh)) == some .eq) = true
structure LevOk (wh : Int) (hn : Nat) (W : Nat → Str) (a b : Int) : Prop where
  lx : (W (a.fmod wh).toNat).length = hn
  ly : (W (b.fmod wh).toNat).length = hn
  letters : ∀ i j, i < hn → j < hn → subC ⟨#[ch (W (b.fmod wh).toNat) i]⟩ ⟨#[ch (W (a.fmod wh).toNat) j]⟩ = if i = j then df (W (a.fmod wh).toNat) (W (b.fmod wh).toNat) i else 2
  val : hU (W (a.fmod wh).toNat) (W (b.fmod wh).toNat) hn = far wh ((a - b).fmod wh)
noncomputable def WordsW (ys : List Value) (c : Nat) (W : Nat → Str) : Prop := ys.length = c ∧ ∀ j, j < c → ∃ t, ys[j]? = some (.str (W j) t)
section
variable {prog : Program} {w : World} {A : Around} {E : Value → Shared → Prop} {s : Shared} {h₀ : Heap} {L D : Addr} {news : Led} {value slice : PySem.Expr} {Q : Value → Shared → Prop}
theorem item_at {ov : List Value} {o : Nat → Int} {c n j : Nat} {k : Int} {u : Tok} (N : News h₀ L s.heap news) (hm : (D, listOf ov.toArray n) ∈ news) (ho : IntsF ov c o) (h0 : 0 ≤ k) (hj : k.toNat = j) (h4 : j < c) (hf : c ≤ 1000) (h : ∀ t, Q (.int (o j) t) s)
    (hs : subscripted slice false (.ref D) (.int k u) = operate [.ref D, .int k u] (getItem (.ref D) (.int k u)) := by with_unfolding_all rfl) :
    wpAny (model prog w) A (subscriptTail value slice (.ref D) (.int k u)) Q E s := by
  subst hj
  exact item_fn N hm ho.2 h0 (by omega) hf h hs
theorem item_word {ov : List Value} {W : Nat → Str} {c n : Nat} {k : Int} {u : Tok} (N : News h₀ L s.heap news) (hm : (D, listOf ov.toArray n) ∈ news) (ho : WordsW ov c W) (h0 : 0 ≤ k) (h4 : k < c) (hf : c ≤ 1000) (h : ∀ t, Q (.str (W k.toNat) t) s)
    (hs : subscripted slice false (.ref D) (.int k u) = operate [.ref D, .int k u] (getItem (.ref D) (.int k u)) := by with_unfolding_all rfl) :
    wpAny (model prog w) A (subscriptTail value slice (.ref D) (.int k u)) Q E s := by
  have hl : s.heap.IsList D ov.toArray := ⟨_, (N _ hm).1, rfl, n, rfl⟩
  obtain ⟨t, ht⟩ := ho.2 k.toNat (by omega)
  exact tail_any hl.typeIs slot_list_getitem.lookup (wpAny_getItem_list hl h0 (by omega) (x := .str (W k.toNat) t) (by simpa using ht) (h t)) hs
end
end Mine
end
section
open PySem PySem.W PyProof.Rows PySem.Spec PySem.Calls PySem.SeqAt
namespace Mine
theorem isSame_ff {prog : Program} {w : World} {A : Around} {E : Value → Shared → Prop} {s : Shared} {Q : Bool → Shared → Prop} {K : Frag} {p : UInt64} {t u : Tok} (X : K.In s.heap) (e : nsIn K cStatics sharingNotToldKey = some none) (ht : @LT.lt Nat _ 0 t) (hu : @LT.lt Nat _ 0 u)
    (hQ : ∀ r : Bool, Q r s) : wpAny (model prog w) A (isSame (.float p t) (.float p u)) Q E s := by
  show wpAny (model prog w) A (isSame.created (p == p && !Float64.isNaN p) t u) _ E s
  unfold isSame.created
  have h1 : t ≠ 0 := fun q => absurd ht (by rw [q]; exact Nat.lt_irrefl 0)
  have h2 : u ≠ 0 := fun q => absurd hu (by rw [q]; exact Nat.lt_irrefl 0)
  have e1 : (t == 0 || u == 0) = false := by simp [h1, h2]
  rw [e1]
  simp only [Bool.false_eq_true, if_false]
  cases htu : (t == u) with
  | true => simp only [if_true]; exact wpAny_pure (hQ true)
  | false =>
    simp only [Bool.false_eq_true, if_false]
    cases hc : (p == p && !Float64.isNaN p) with
    | false => simp only [Bool.not_false, if_true]; exact wpAny_pure (hQ false)
    | true =>
      simp only [Bool.not_true, Bool.false_eq_true, if_false]
      have told : ∀ (x : Tok) (R : Bool → Shared → Prop), R false s → wpAny (model prog w) A (sharingNotTold x) R E s := fun x R hR => by
        unfold sharingNotTold
        refine wpAny_bind ((looks_nsIn X e).here ?_)
        exact wpAny_pure hR
      refine wpAny_bind (told t _ ?_)
      simp only [Bool.false_eq_true, if_false]
      refine wpAny_bind (told u _ ?_)
      simp only [Bool.false_eq_true, if_false]
      refine wpAny_bind (wpAny_rule ?_)
      refine wpAny_bind (wpAny_askSetting ?_)
      exact wpAny_pure (hQ _)
theorem eqAt_ff {A : Around} {s : Shared} {K : Frag} {p : UInt64} {t u : Tok} (X : K.In s.heap) (e : nsIn K cStatics sharingNotToldKey = some none) (ht : @LT.lt Nat _ 0 t) (hu : @LT.lt Nat _ 0 u) (hc : (Float64.cmp p p == some .eq) = true) : EqAt A s (.float p t) (.float p u) true := fun prog w E Q h => by
  unfold eqBool
  refine wpAny_holding ?_
  refine wpAny_ite_split (fun _ => wpAny_bind (wpAny_rule (wpAny_pure h))) (fun hab => ?_)
  refine wpAny_bind (isSame_ff X e ht hu fun r => ?_)
  cases r with
  | true => exact wpAny_pure h
  | false => exact wpAny_bind (AutoFloatOps.eq_0 (by rw [hc]; exact wpAny_truthy_bool h))
theorem ne_tup3 {prog : Program} {w : World} {A : Around} {E : Value → Shared → Prop} {s : Shared} {Q : Value → Shared → Prop} {K : Frag} {h₀ : Heap} {L l b : Addr} {news : List (Addr × Obj)} {p1 p2 p3 : UInt64} {t1 t2 t3 u1 u2 u3 : Tok} {n n2 : Nat} (X : K.In s.heap) (e : nsIn K cStatics sharingNotToldKey = some none) (N : News h₀ L s.heap news)
    (hl : (l, ({ cls := .type "tuple", data := .seq #[.float p1 t1, .float p2 t2, .float p3 t3] n } : Obj)) ∈ news) (hb : (b, ({ cls := .type "tuple", data := .seq #[.float p1 u1, .float p2 u2, .float p3 u3] n2 } : Obj)) ∈ news)
    (h1 : @LT.lt Nat _ 0 t1) (h2 : @LT.lt Nat _ 0 t2) (h3 : @LT.lt Nat _ 0 t3) (g1 : @LT.lt Nat _ 0 u1) (g2 : @LT.lt Nat _ 0 u2) (g3 : @LT.lt Nat _ 0 u3) (c1 : (Float64.cmp p1 p1 == some .eq) = true) (c2 : (Float64.cmp p2 p2 == some .eq) = true) (c3 : (Float64.cmp p3 p3 == some .eq) = true) (hu : A.units < cLine)
    (h : Q (.bool false) s) : wpAny (model prog w) A (compareOp .NotEq (.ref l) (.ref b)) Q E s := by
  have Hl : s.heap.IsTuple l #[.float p1 t1, .float p2 t2, .float p3 t3] := ⟨_, (N _ hl).1, rfl, n, rfl⟩
  have Hb : s.heap.IsTuple b #[.float p1 u1, .float p2 u2, .float p3 u3] := ⟨_, (N _ hb).1, rfl, n2, rfl⟩
  refine RcNeAt.tuples (e := fun _ => true) Hl Hb hu (fun j a1 a2 => ?_) prog w E Q h
  match j, a1 with
  | 0, _ => exact eqAt_ff X e h1 g1 c1
  | 1, _ => exact eqAt_ff X e h2 g2 c2
  | 2, _ => exact eqAt_ff X e h3 g3 c3
  | j + 3, a1 => exact absurd a1 (by simp)
end Mine
end
section
open PySem PySem.W PyProof.Rows PySem.Flt
namespace Mine
theorem topOffOp2 : True := by
  w_top off
  trivial
set_option maxRecDepth 100000 in
set_option maxHeartbeats 4000000 in
set_option pp.deepTerms false in
set_option pp.deepTerms.threshold 4 in
theorem c_divII (w : World) (mean : ExcName → Option Value) (mg mb : Str → Option Value) (news : List (Addr × Obj)) (x y : Int) (t1 t2 : Tok) :
  ∀ (dp un : Nat) (gd : Option (List Code)) (cn : Str) (cs : Scope) (a : Addr) (ccd : Value) (cl : List (Str × Addr)) (outer : List Env) (A₀ : Around) (base h₀ : Heap) (L : Addr) (m : Str → Option Value) (s : Shared) (Q : Value → Shared → Prop) (E : Value → Shared → Prop)
  (_ : Below A₀ base outer h₀) (_ : Fr h₀ L s.heap m) (_ : (Mine.hd.heap_1 w.params).In h₀) (_ : News h₀ L s.heap news) (_ : Top Mine.hdview (looseW Mine.hdview []) mean mg mb h₀) (_ : cs.kind = .function)
  (_ : dp < recursionLimit) (_ : un + 4 < cLine) (_ : 0 ≤ x) (_ : x < 1000000) (_ : 0 < y)
  (_ : ∀ (h' : Heap) (tk' : Nat) (t : Tok), Fr h₀ L h' m → News h₀ L h' news → Q (.float (Float64.ofFrac false x.natAbs y.natAbs) t) { s with heap := h', toks := tk' }),
  wpAny (model PySem.Challenge.rw_sw0044_01.row.prog w) (ktrTop dp un gd cn cs L a ccd cl outer) (call (.ref 91) [.int x t1, .int y t2]) Q E s := by
  k_fill
  intro dp un gd cn cs a ccd cl outer A₀ base h₀ L m s Q E kB kF kX kN kT kK kD kU hx0 hx1 hy0 hret
  refine wpAny_call ?_
  k_dflt cell_enter
  k_with_none
  k_with "binaryOp Div int int" => (k_extra "my div")
  k_with "my div" => (k_dflt (refine' div_small ?vA ?va ?vb ?vf ?_); (case vA => k_dflt rfl); (case va => exact hx0); (case vb => exact hy0); (case vf => exact hx1))
  k_steps
  all_goals exact hret _ _ _ (by assumption) (by assumption)

end Mine
end
section
open PySem PySem.W PyProof.Rows PySem.Flt
namespace Mine
theorem topOffLo : True := by
  w_top off
  trivial
theorem K_bd {a b h : Int} (ha : 0 ≤ a ∧ a < 500) (hb : 0 ≤ b ∧ b < 500) (h1 : 2 ≤ h ∧ h ≤ 8) : 0 ≤ a + (h - 1) * b ∧ a + (h - 1) * b < 1000000 := by
  have p1 : 0 ≤ (h - 1) * b := Int.mul_nonneg (by omega) hb.1
  have p2 : (h - 1) * b ≤ 7 * 500 := Int.mul_le_mul (by omega) (by omega) hb.1 (by omega)
  omega
theorem t_bd {a h : Int} (h1 : 2 ≤ h ∧ h ≤ 8) : 0 ≤ a.fmod h ∧ a.fmod h < h ∧ a.fmod h < 1000000 := by
  have p1 := Int.fmod_nonneg_of_pos a (show 0 < h by omega)
  have p2 := Int.fmod_lt_of_pos a (show 0 < h by omega)
  omega
theorem toldA_len {H : Int → UInt64} {vs : List Value} {T : List Int} {tk : Nat} (h : ToldA H vs T tk) : vs.length = T.length := h.1
theorem fars_len {vs : List Value} {T : List Int} {wh : Int} (h : IntsAre vs (T.map (far wh))) : vs.length = T.length := by rw [h.length, List.length_map]
theorem item_last {prog : Program} {w : World} {A : Around} {E : Value → Shared → Prop} {s : Shared} {h₀ : Heap} {L D : Addr} {news : Led} {value slice : PySem.Expr} {Q : Value → Shared → Prop} {a : Array Value} {v : Value} {n : Nat} {u : Tok} (N : News h₀ L s.heap news) (hm : (D, listOf (a.push v) n) ∈ news) (h : Q v s)
    (hs : subscripted slice false (.ref D) (.int (-1) u) = operate [.ref D, .int (-1) u] (getItem (.ref D) (.int (-1) u)) := by with_unfolding_all rfl) :
    wpAny (model prog w) A (subscriptTail value slice (.ref D) (.int (-1) u)) Q E s := by
  have hl : s.heap.IsList D (a.push v) := ⟨_, (N _ hm).1, rfl, n, rfl⟩
  have e : (-1 + ((a.push v).size : Int)).toNat = a.size := by rw [Array.size_push]; omega
  exact tail_any hl.typeIs slot_list_getitem.lookup (wpAny_getItem_list_neg hl (by decide) (by rw [Array.size_push]; omega) (by decide) (x := v) (by rw [e]; simp) h) hs
theorem preT_len (wh : Int) (sh : Nat) (r1 r2 : Nat → Int) (n : Nat) : ∀ i, (preT wh sh r1 r2 n i).length = i * n
  | 0 => by simp [preT]
  | i + 1 => by rw [preT, List.length_append, preT_len wh sh r1 r2 n i, rowT_len, Nat.succ_mul]
theorem len_bd {wh wh' : Int} {sh i j : Nat} {r1 r2 r : Nat → Int} (hi : i < 2) (hj : j + sh < 16) (hs : 1 ≤ sh) : (preT wh sh r1 r2 (16 - sh) i ++ rowT wh' sh r j).length + 1 ≤ 30 := by
  rw [List.length_append, preT_len, rowT_len]
  rcases (by omega : i = 0 ∨ i = 1) with rfl | rfl <;> omega
theorem lp_pos {wh : Int} {H RX RY RZ : Int → UInt64} {lf : Addr} {T : List Int} {c : LSt} {tk : Nat} (h : LP wh H RX RY RZ lf T c tk) (hT : 0 < T.length) : 1 ≤ tk := by
  obtain ⟨t, _, h1, h2⟩ := h.told.2 0 hT
  have h1 : @LT.lt Nat _ 0 t := h1
  have h2 : @LT.lt Nat _ t tk := h2
  omega
theorem pre2_pos {wh : Int} {sh : Nat} {r1 r2 : Nat → Int} (h : sh ≤ 15) : 0 < (preT wh sh r1 r2 (16 - sh) 2).length := by rw [preT_len]; omega
theorem led17 {h₀ h : Heap} {L : Addr} {a1 a2 a3 a4 x1 x2 x3 x4 c1 c2 c3 c4 : Addr × Obj} (N : News h₀ L h [a1, a2, a3, a4, x1, x2, x3, x4, c1, c2, c3, c4]) : News h₀ L h [a1, a2, a3, a4, c1, c2, c3, c4] := news_sub (.cons₂ _ (.cons₂ _ (.cons₂ _ (.cons₂ _ (.cons _ (.cons _ (.cons _ (.cons _ (.cons₂ _ (.cons₂ _ (.cons₂ _ (.cons₂ _ (.refl _))))))))))))) N
theorem allLt_mem {d : Nat} : ∀ {l : Led}, AllLt d l → ∀ p ∈ l, @LT.lt Nat _ p.1 d
  | [], _, _, hp => nomatch hp
  | a :: l, h, p, hp => by
    cases hp with
    | head => exact h.1
    | tail _ hp => exact allLt_mem h.2 p hp
theorem off_all {l' : Addr} {own own2 : Led} (h : AllLt l' (own ++ own2)) : (∀ p ∈ own, p.1 ≠ l') ∧ ∀ p ∈ own2, p.1 ≠ l' :=
  ⟨fun p hp => Nat.ne_of_lt (allLt_mem h p (List.mem_append_left _ hp)), fun p hp => Nat.ne_of_lt (allLt_mem h p (List.mem_append_right _ hp))⟩
theorem off_new {own : Led} {a b : Addr} {adr : List Addr} (h : OwnOff own (a :: adr)) (h2 : ∀ p ∈ own, p.1 ≠ b) : OwnOff own (b :: adr) := fun p hp c hc => by
  rcases List.mem_cons.mp hc with rfl | hc
  · exact h2 p hp
  · exact h p hp c (.tail _ hc)
theorem off_head {own : Led} {a : Addr} {adr : List Addr} (h : OwnOff own (a :: adr)) : ∀ p ∈ own, p.1 ≠ a := fun p hp => h p hp a (.head _)
theorem lp_zero {wh : Int} {H RX RY RZ : Int → UInt64} {lf : Addr} {T : List Int} {c : LSt} {tk sh : Nat} {r : Nat → Int} {wh' : Int} (h : LP wh H RX RY RZ lf T c tk) : LP wh H RX RY RZ lf (T ++ rowT wh' sh r 0) c tk := by
  show LP wh H RX RY RZ lf (T ++ []) c tk
  rw [List.append_nil]; exact h
theorem wh_lt {x : Int} {hn : Nat} (h : x < 2 * (hn : Int)) : x < ((2 * hn : Nat) : Int) := by omega
theorem row_at {la lb : Addr} {va vb : List Value} {na nb i : Nat} {v : Value} {r1 r2 : Nat → Int} (h : [Value.ref la, Value.ref lb][i]? = some v) (h1 : IntsF va 16 r1) (h2 : IntsF vb 16 r2) (b1 : ∀ i, i < 16 → 0 ≤ r1 i ∧ r1 i < 500) (b2 : ∀ i, i < 16 → 0 ≤ r2 i ∧ r2 i < 500) :
    i < 2 ∧ ∃ (lrow : Addr) (vrow : List Value) (nrow : Nat), v = .ref lrow ∧ IntsF vrow 16 (rsel r1 r2 i) ∧ (∀ j, j < 16 → 0 ≤ rsel r1 r2 i j ∧ rsel r1 r2 i j < 500) ∧ ∀ X : Led, (lb, listOf vb.toArray nb) ∈ X → (la, listOf va.toArray na) ∈ X → (lrow, listOf vrow.toArray nrow) ∈ X := by
  match i, h with
  | 0, h => exact ⟨by omega, la, va, na, (Option.some.inj h).symm, h1, b1, fun X _ h => h⟩
  | 1, h => exact ⟨by omega, lb, vb, nb, (Option.some.inj h).symm, h2, b2, fun X h _ => h⟩
  | i + 2, h => simp at h
set_option maxRecDepth 100000 in
set_option maxHeartbeats 1000000 in
set_option pp.deepTerms false in
set_option pp.deepTerms.threshold 5 in
theorem c_loop (w : World) (mean : ExcName → Option Value) (mg mb : Str → Option Value) (hn sh : Nat) (r1 r2 : Nat → Int) (S V : UInt64) (H RX RY RZ : Int → UInt64) (W : Nat → Str) (lr la lb lws lt ld lf lm : Addr) (va vb wv : List Value) (na nb nw : Nat) (oU oS oW oH : Obj) (uv : Option Value) (tS tW tH ts tl ta f1 f2 f3 : Tok) :
  ∀ (dp un : Nat) (gd : Option (List Code)) (outer : List Env) (A₀ : Around) (base h₀ : Heap) (L fa : Addr) (cd : Value) (m : Str → Option Value) (s : Shared) (Q : Flow → Shared → Prop) (E : Value → Shared → Prop)
  (_ : Below A₀ base outer h₀) (_ : Fr h₀ L s.heap (kstB m [(Str.ofString "rows", .ref lr), (Str.ofString "words", .ref lws), (Str.ofString "share", .float S ts), (Str.ofString "level", .float V tl), (Str.ofString "turns", .ref lt), (Str.ofString "told", .ref ld), (Str.ofString "fars", .ref lf), (Str.ofString "mixed", .ref lm), (Str.ofString "apart", .int 0 ta)])) (_ : (Mine.hd.heap_1 w.params).In h₀) (_ : News h₀ L s.heap [(lm, listOf #[.float 0 f1, .float 0 f2, .float 0 f3] 0), (lf, listOf #[] 0), (ld, listOf #[] 0), (lt, listOf #[] 0), (lws, listOf wv.toArray nw), (lr, listOf #[.ref la, .ref lb] 0), (lb, listOf vb.toArray nb), (la, listOf va.toArray na), (L + 1 + 1 + 1 + 1, oU), (L + 1 + 1 + 1, oS), (L + 1 + 1, oW), (L + 1, oH)]) (_ : Top Mine.hdview (looseW Mine.hdview []) mean mg mb h₀)
  (_ : dp + 20 < recursionLimit) (_ : un + 100 < cLine) (_ : 1 ≤ hn) (_ : hn ≤ 4) (_ : 1 ≤ sh) (_ : sh ≤ 15) (_ : IntsF va 16 r1) (_ : IntsF vb 16 r2) (_ : ∀ i, i < 16 → 0 ≤ r1 i ∧ r1 i < 500) (_ : ∀ i, i < 16 → 0 ≤ r2 i ∧ r2 i < 500) (_ : WordsW wv (2 * hn) W) (_ : oU.data = .cell uv) (_ : oS.data = .cell (some (.int (sh : Int) tS))) (_ : oW.data = .cell (some (.int (2 * (hn : Int)) tW))) (_ : oH.data = .cell (some (.int (hn : Int) tH))) (_ : @LT.lt Nat _ (L + 1 + 1 + 1 + 1) la) (_ : @LT.lt Nat _ la lb) (_ : @LT.lt Nat _ lb lr) (_ : @LT.lt Nat _ lr lt) (_ : @LT.lt Nat _ lws lt) (_ : @LT.lt Nat _ lt ld) (_ : @LT.lt Nat _ ld lf) (_ : @LT.lt Nat _ lf lm) (_ : 1 ≤ s.toks) (_ : @LT.lt Nat _ 0 ts) (_ : @LT.lt Nat _ 0 tl) (_ : ∀ a b : Int, 0 ≤ a → a < 500 → 0 ≤ b → b < 500 → Col (2 * (hn : Int)) S V H RX RY RZ a b) (_ : ∀ a b : Int, 0 ≤ a → 0 ≤ b → LevOk (2 * (hn : Int)) hn W a b) (_ : (Float64.cmp S 0 == some .eq) = false) (_ : (Float64.cmp S S == some .eq) = true) (_ : (Float64.cmp V V == some .eq) = true)
  (_ : PassesOwn (model PySem.Challenge.rw_sw0044_01.row.prog w) (ktrTop dp un gd (Str.ofString "law") (scopeAt (Mine.hd.heap_1 w.params) 157) L fa cd (cellsFrom (L + 1) (scopeAt (Mine.hd.heap_1 w.params) 157).names []) outer) (envOfC (Str.ofString "law") (scopeAt (Mine.hd.heap_1 w.params) 157) L fa cd) E)
  (_ : ∀ (h' : Heap) (tk' : Nat) (m' : Loc) (c : LSt), LP (2 * (hn : Int)) H RX RY RZ lf (preT (2 * (hn : Int)) sh r1 r2 (16 - sh) 2) c tk' → 1 ≤ tk' →
    Fr h₀ L h' (kstB m' [(Str.ofString "share", .float S ts), (Str.ofString "level", .float V tl), (Str.ofString "turns", .ref lt), (Str.ofString "told", .ref ld), (Str.ofString "fars", .ref lf), (Str.ofString "mixed", .ref c.lm), (Str.ofString "apart", .int c.ap c.apt)]) →
    News h₀ L h' [(c.lm, listOf #[.float c.x c.tx, .float c.y c.ty, .float c.z c.tz] 0), (lf, listOf c.fv.toArray c.fn), (ld, listOf c.dv.toArray c.dn), (lt, listOf c.tv.toArray c.tn), (L + 1 + 1 + 1 + 1, oU), (L + 1 + 1 + 1, oS), (L + 1 + 1, oW), (L + 1, oH)] →
    wpAny (model PySem.Challenge.rw_sw0044_01.row.prog w) (ktrTop dp un gd (Str.ofString "law") (scopeAt (Mine.hd.heap_1 w.params) 157) L fa cd (cellsFrom (L + 1) (scopeAt (Mine.hd.heap_1 w.params) 157).names []) outer) (execs ((bodyAt (Mine.hd.heap_1 w.params) 157).drop 17) (envOfC (Str.ofString "law") (scopeAt (Mine.hd.heap_1 w.params) 157) L fa cd)) Q E { s with heap := h', toks := tk' }),
  wpAny (model PySem.Challenge.rw_sw0044_01.row.prog w) (ktrTop dp un gd (Str.ofString "law") (scopeAt (Mine.hd.heap_1 w.params) 157) L fa cd (cellsFrom (L + 1) (scopeAt (Mine.hd.heap_1 w.params) 157).names []) outer) (execs ((bodyAt (Mine.hd.heap_1 w.params) 157).drop 16) (envOfC (Str.ofString "law") (scopeAt (Mine.hd.heap_1 w.params) 157) L fa cd)) Q E s := by
  k_fill
  intro dp un gd outer A₀ base h₀ L fa cd m s Q E kB kF kX kN kT kD kU hn1 hn4 hs1 hs15 hIa hIb hba hbb hWw hdU hdS hdW hdH hLa hab hbr0 hrt hwt htd hdf hfm htk0 hts0 htl0 hcol hlev hS0 hSS hVV hE hnext
  k_with_none
  k_with "exec For Name Tuple cons nil" => ((rename Fr _ _ _ _ => lF'); (with_unfolding_all refine For_T lF' (by exact rfl) (by exact rfl) ?_); k_whole)
  k_with "exec For Name Name cons nil" => ((rename Fr _ _ _ _ => lF'); (with_unfolding_all refine For_T lF' (by exact rfl) (by exact rfl) ?_); k_whole)
  k_with "exec For Name Call cons nil" => ((rename Fr _ _ _ _ => lF'); (with_unfolding_all refine For_T lF' (by exact rfl) (by exact rfl) ?_); k_whole)
  k_with "pyIter ref" => (k_extra "my iter")
  k_with "call ref" => (k_extra "my call")
  k_with "execs cons" => (k_extra "my stop")
  k_with "call type:range" => ((rename Fr _ _ _ _ => F'); (rename News _ _ _ _ => N'); (with_unfolding_all refine wpAny_up (range1_rows F' N' ?_)); intro _ _ _ _ _ _ _ _ _ hupR; dsimp only at hupR)
  k_with "subscriptTail" => (k_extra "my item")
  k_with "binaryOp Div int int" => (k_extra "my div")
  k_with "call builtin:list.append" => (k_extra "my append")
  k_with "compareOp NotEq ref ref" => (k_extra "my cmp")
  k_with "execs cons" => ((fail_if_success (fail_if_success k_gentoks)); refine gen_toks ?_; intro tkN htkN; dsimp only at htkN; (try dsimp only))
  k_with "execs nil" => ((fail_if_success (fail_if_success k_gentoks)); refine gen_toks ?_; intro tkN htkN; dsimp only at htkN; (try dsimp only))
  k_with "execs cons" => ((rename Fr _ _ _ _ => gF'); (fail_if_success (with_reducible have gK : Fr _ _ _ (kstB _ _) := gF')); (with_reducible (first | replace gF' := fr_f1 gF' | replace gF' := fr_f2 gF' | replace gF' := fr_f3 gF' | replace gF' := fr_f4 gF' | replace gF' := fr_b6 gF' | replace gF' := fr_b5 gF' | replace gF' := fr_b4 gF' | replace gF' := fr_b3 gF' | replace gF' := fr_b2 gF' | replace gF' := fr_b1 gF')))
  generalize hsc : scopeAt (Mine.hd.heap_1 w.params) 157 = sc at hE hnext ⊢
  conv at hsc => lhs; whnf
  subst hsc
  conv in (List.drop _ _) => whnf
  have hMk := kstMark
  have hwh : (2 : Int) ≤ 2 * (hn : Int) ∧ 2 * (hn : Int) ≤ 8 := by omega
  k_with "my stop" => ((with_reducible show wpAny _ _ (execs (List.cons (Stmt.Assign [Expr.Tuple _ _ _] (Expr.ListComp _ _ _ _) _) _) _) _ _ _); refine stop_here ?_)
  k_with "my call" => ((with_reducible show wpAny _ _ (call (Value.ref 35) _) _ _ _); refine stop_here ?_)
  k_with "my call" => ((with_reducible show wpAny _ _ (call (Value.ref 28) _) _ _ _); refine stop_here ?_)
  k_with "my call" => ((with_reducible show wpAny _ _ (call (Value.ref 133) _) _ _ _); refine stop_here ?_)
  k_with "my call" => ((with_reducible show wpAny _ _ (call (Value.ref 35) _) _ _ _); k_dflt (refine' wpAny_up (c_rgbT w _ _ _ _ _ S V (RX ((rsel r1 r2 i j - rsel r1 r2 i (j + sh)).fmod (2 * (hn : Int)))) (RY ((rsel r1 r2 i j - rsel r1 r2 i (j + sh)).fmod (2 * (hn : Int)))) (RZ ((rsel r1 r2 i j - rsel r1 r2 i (j + sh)).fmod (2 * (hn : Int)))) kk _ _ _ _ _ _ _ _ _ _ _ _ _ _ _ _ _ _ _ _ ?rB ?rF ?rX ?rN ?rT ?rK ?rD ?rU ?r0 ?rv hS0 hcolx.nan hcolx.inf hk1 hk2 hk3 hk4 ?rR)); (case rB => k_dflt k_asm); (case rF => k_dflt k_asm); (case rX => k_dflt k_asm); (case rN => k_dflt k_asm); (case rT => k_dflt k_asm); (case rK => exact rfl); (case rD => ktr_room); (case rU => ktr_units); (case r0 => ((try dsimp only); omega)); (case rv => exact htl0); intro h9 tk9 l9 tr9 tg9 tb9 htr9 htg9 htb9 F9 N9 hl9 hup9; (try k_lt hl9); dsimp only at hup9)
  k_with "my call" => ((with_reducible show wpAny _ _ (call (Value.ref 28) _) _ _ _); k_dflt (refine' wpAny_up (c_hsvT w _ _ _ _ _ _ _ (H ((rsel r1 r2 i j - rsel r1 r2 i (j + sh)).fmod (2 * (hn : Int)))) S V _ _ _ _ _ _ _ _ _ _ _ _ _ _ _ _ _ _ _ _ ?vB ?vF ?vX ?vN ?vT ?vK ?vD ?vU ?v0 htr9 htg9 htb9 hcolx.ne hcolx.hsv ?vR)); (case vB => k_dflt k_asm); (case vF => k_dflt k_asm); (case vX => k_dflt k_asm); (case vN => k_dflt k_asm); (case vT => k_dflt k_asm); (case vK => exact rfl); (case vD => ktr_room); (case vU => ktr_units); (case v0 => ((try dsimp only); omega)); intro h9 tk9 l9 t19 t29 t39 htlt ht19 ht29 ht39 F9 N9 hl9 hup9; (try k_lt hl9); dsimp only at hup9)
  k_with "my call" => ((with_reducible show wpAny _ _ (call (Value.ref 133) _) _ _ _); k_dflt (refine' wpAny_up (c_lev w _ _ _ _ _ _ hn _ _ _ _ _ _ _ _ _ _ _ _ _ _ _ _ _ _ _ _ ?lB ?lF ?lX ?lN ?lT ?lK ?lD ?lU hlevx.lx hlevx.ly hn4 hlevx.letters ?lR)); (case lB => k_dflt k_asm); (case lF => k_dflt k_asm); (case lX => k_dflt k_asm); (case lN => k_dflt k_asm); (case lT => k_dflt k_asm); (case lK => exact rfl); (case lD => ktr_room); (case lU => ktr_units); intro h9 tk9 t9 F9 N9 hup9; dsimp only at hup9; rw [hlevx.val])
  k_with "my cmp" => (refine stop_here ?_)
  k_with "my cmp" => ((with_reducible show wpAny _ _ (compareOp _ (Value.ref l9) (Value.ref _)) _ _ _); (rename News _ _ _ _ => lN'); k_dflt (refine' ne_tup3 ?nX ?ne lN' ?n1 ?n2 ht19 ht29 ht39 ?g1 ?g2 ?g3 hcolx.same hSS hVV ?nu ?_); (case nX => ((rename Fr _ _ _ _ => lF'); k_dflt (exact Frag.In.keeps kX lF'.keep))); (case ne => k_dflt k_is); (case n1 => k_dflt (repeat (first | exact List.Mem.head _ | apply List.Mem.tail))); (case n2 => k_dflt (repeat (first | exact List.Mem.head _ | apply List.Mem.tail))); (case g1 => ((try dsimp only); omega)); (case g2 => exact hts0); (case g3 => exact htl0); (case nu => ktr_units))
  k_with "my div" => ((with_reducible show wpAny _ _ (binaryOp _ (Value.int _ _) (Value.int _ _)) _ _ _); k_dflt (refine' div_small ?vA ?va ?vb ?vf ?_); (case vA => k_dflt rfl); (case va => first | exact hK.1 | exact htb.1); (case vb => omega); (case vf => first | exact hK.2 | exact htb.2.2); (try rw [← hcolx.told]))
  k_with "my call" => ((with_reducible show wpAny _ _ (call (Value.ref 91) [Value.int _ _, Value.int _ _]) _ _ _); k_dflt (refine wpAny_up (c_divII w _ _ _ _ _ _ _ _ _ _ _ _ _ _ _ _ _ _ _ _ _ _ _ _ _ (by k_asm) (by k_asm) (by k_asm) (by k_asm) (by k_asm) (by rfl) (by ktr_room) (by ktr_units) (by exact hK.1) (by exact hK.2) (by omega) ?_)); intro h9 tk9 t9 F9 N9 hup9; dsimp only at hup9)
  k_with "my append" => ((with_reducible show wpAny _ _ (call (Value.builtin _) [Value.ref _, _]) _ _ _); k_dflt (refine' append_K ?ka1 ?ka2 ?ka3 ?_ ?kaz; (case ka1 => k_asm); (case ka2 => k_asm); (case ka3 => k_upd); (case kaz => first | exact size_small htvl (by omega) | exact size_small hdvl (by omega) | exact size_small hfvl (by omega)); k_whole); intro h' F' N'; (try k_sweep))
  k_with "my item" => ((with_reducible show wpAny _ _ (subscriptTail _ _ (Value.ref lrow) (Value.int _ _)) _ _ _); (rename News _ _ _ _ => lN'); (with_unfolding_all refine' item_at (j := j) lN' (hmr _ ?m1a ?m2a) hIr ?i0a ?ija ?i4a ?ica ?_ ?isa); (case m1a => k_dflt (repeat (first | exact List.Mem.head _ | apply List.Mem.tail))); (case m2a => k_dflt (repeat (first | exact List.Mem.head _ | apply List.Mem.tail))); (case i0a => omega); (case ija => omega); (case i4a => omega); (case ica => decide); (case isa => with_unfolding_all rfl); intro _)
  k_with "my item" => ((with_reducible show wpAny _ _ (subscriptTail _ _ (Value.ref lrow) (Value.int _ _)) _ _ _); (rename News _ _ _ _ => lN'); (with_unfolding_all refine' item_at (j := j + sh) lN' (hmr _ ?m1b ?m2b) hIr ?i0b ?ijb ?i4b ?icb ?_ ?isb); (case m1b => k_dflt (repeat (first | exact List.Mem.head _ | apply List.Mem.tail))); (case m2b => k_dflt (repeat (first | exact List.Mem.head _ | apply List.Mem.tail))); (case i0b => omega); (case ijb => omega); (case i4b => omega); (case icb => decide); (case isb => with_unfolding_all rfl); intro _)
  k_with "my item" => ((with_reducible show wpAny _ _ (subscriptTail _ _ (Value.ref lws) (Value.int _ _)) _ _ _); (rename News _ _ _ _ => lN'); (with_unfolding_all refine' item_word lN' ?m1c hWw ?i0c ?i4c ?icc ?_ ?isc); (case m1c => k_dflt (repeat (first | exact List.Mem.head _ | apply List.Mem.tail))); (case i0c => exact (t_bd hwh).1); (case i4c => exact wh_lt (t_bd hwh).2.1); (case icc => omega); (case isc => with_unfolding_all rfl); intro _)
  k_with "my item" => ((with_reducible show wpAny _ _ (subscriptTail _ _ (Value.ref lf) (Value.int _ _)) _ _ _); (rename News _ _ _ _ => lN'); (with_unfolding_all refine' item_last lN' ?m1d ?_ ?isd); (case m1d => k_dflt (repeat (first | exact List.Mem.head _ | apply List.Mem.tail))); (case isd => with_unfolding_all rfl))
  k_with "my item" => ((with_reducible show wpAny _ _ (subscriptTail _ _ (Value.ref lmx) (Value.int _ _)) _ _ _); (rename News _ _ _ _ => lN'); k_dflt (refine' item_some lN' ?m1m ?i0m ?ifm ?hxm ?_ ?ism); (case m1m => k_dflt (repeat (first | exact List.Mem.head _ | apply List.Mem.tail))); (case i0m => decide); (case ifm => decide); (case hxm => k_dflt (exact rfl)); (case ism => with_unfolding_all rfl))
  k_with "my iter" => ((with_reducible show wpAny _ _ (pyIter (Value.ref lr)) _ _ _); (rename Fr _ _ _ _ => lF'); (rename News _ _ _ _ => lN'); (with_unfolding_all refine' lstG [Str.ofString "place", Str.ofString "here", Str.ofString "there", Str.ofString "turn", Str.ofString "red", Str.ofString "green", Str.ofString "blue", Str.ofString "colour"] (fun (c : LSt) => (c.lm, listOf #[.float c.x c.tx, .float c.y c.ty, .float c.z c.tz] 0) :: (lf, listOf c.fv.toArray c.fn) :: (ld, listOf c.dv.toArray c.dn) :: (lt, listOf c.tv.toArray c.tn) :: (lws, listOf wv.toArray nw) :: (lr, listOf #[.ref la, .ref lb] 0) :: (lb, listOf vb.toArray nb) :: (la, listOf va.toArray na) :: (L + 1 + 1 + 1 + 1, oU) :: (L + 1 + 1 + 1, oS) :: (L + 1 + 1, oW) :: (L + 1, oH) :: []) (fun (c : LSt) => [(Str.ofString "mixed", .ref c.lm), (Str.ofString "apart", .int c.ap c.apt)]) (fun i c tk => LP (2 * (hn : Int)) H RX RY RZ lf (preT (2 * (hn : Int)) sh r1 r2 (16 - sh) i) c tk) ⟨[], 0, [], 0, [], 0, lm, 0, 0, 0, f1, f2, f3, 0, ta⟩ (vs := [.ref la, .ref lb]) (by rfl) (fun c => .tail _ (.tail _ (.tail _ (.tail _ (.tail _ (List.Mem.head _)))))) lF' lN' (allC (by rfl) (all1 (by rfl))) ⟨.nil, toldA_nil _ _, .nil, rfl, rfl, rfl, rfl, Nat.zero_le _, hfm⟩ (fun _ _ _ _ hle h => LP.mono hle h) ?turn ?done); (case' turn => clear lF' lN'; rintro i v ⟨tv, tn, dv, dn, fv, fn, lmx, mx, my, mz, tx, ty, tz, ap, apt⟩ u h tk own hv htk1 hP hoff F' N'; dsimp only [List.cons_append, List.nil_append, List.map_cons] at hP F' N' hoff; obtain ⟨hi2, lrow, vrow, nrow, rfl, hIr, hbr, hmr⟩ := row_at (na := na) (nb := nb) hv hIa hIb hba hbb; refine fold_post ?_; intro Q7 hQ7); (case' done => clear lF' lN'; rintro ⟨tv, tn, dv, dn, fv, fn, lmx, mx, my, mz, tx, ty, tz, ap, apt⟩ u h tk hP F' N'; dsimp only at hP F' N'))
  k_with "my iter" => ((rename IsRange _ _ 0 (16 - _) _ _ _ _ => rgX); (rename LP _ _ _ _ _ _ _ _ _ => hP); (rename Fr _ _ _ _ => lF'); (rename News _ _ _ _ => lN'); (with_unfolding_all refine' rangeG [Str.ofString "here", Str.ofString "there", Str.ofString "turn", Str.ofString "red", Str.ofString "green", Str.ofString "blue", Str.ofString "colour"] (fun (c : LSt) => (c.lm, listOf #[.float c.x c.tx, .float c.y c.ty, .float c.z c.tz] 0) :: (lf, listOf c.fv.toArray c.fn) :: (ld, listOf c.dv.toArray c.dn) :: (lt, listOf c.tv.toArray c.tn) :: (lws, listOf wv.toArray nw) :: (lr, listOf #[.ref la, .ref lb] 0) :: (lb, listOf vb.toArray nb) :: (la, listOf va.toArray na) :: (L + 1 + 1 + 1 + 1, oU) :: (L + 1 + 1 + 1, oS) :: (L + 1 + 1, oW) :: (L + 1, oH) :: own) (fun (c : LSt) => [(Str.ofString "mixed", .ref c.lm), (Str.ofString "apart", .int c.ap c.apt)]) (fun j c tk => LP (2 * (hn : Int)) H RX RY RZ lf (preT (2 * (hn : Int)) sh r1 r2 (16 - sh) i ++ rowT (2 * (hn : Int)) sh (rsel r1 r2 i) j) c tk ∧ ∀ p ∈ own, p.1 ≠ c.lm) ⟨tv, tn, dv, dn, fv, fn, lmx, mx, my, mz, tx, ty, tz, ap, apt⟩ (by rfl) rgX (small_one (by omega) (by omega) (by omega) (by omega)) (rangeSize_nat _ _) lF' lN' (allC (by rfl) (all1 (by rfl))) ⟨LP.mono (by dsimp only; omega) (lp_zero hP), off_head hoff⟩ (fun _ _ _ _ hle h => ⟨LP.mono hle h.1, h.2⟩) ?turn2 ?done2); (case' turn2 => clear lF' lN' rgX hP; rintro j ⟨tv, tn, dv, dn, fv, fn, lmx, mx, my, mz, tx, ty, tz, ap, apt⟩ tp9 u2 h tk2 own2 hj htk2 ⟨hP2, hoO⟩ hoff2 F' N'; dsimp only [List.cons_append, List.nil_append, List.map_cons] at hP2 hoO F' N' hoff2; have hj16 : j + sh < 16 := (by omega); have hb1 := hbr j (by omega); have hb2 := hbr (j + sh) (by omega); have hcolx := hcol _ _ hb1.1 hb1.2 hb2.1 hb2.2; have hlevx := hlev (rsel r1 r2 i j) (rsel r1 r2 i (j + sh)) hb1.1 hb2.1; obtain ⟨kk, hk1, hk2, hk3, hk4⟩ := hcolx.kk; have hK := K_bd hb1 hb2 hwh; have htb := t_bd (a := rsel r1 r2 i j - rsel r1 r2 i (j + sh)) hwh; have htl := hP2.len; have htvl := hP2.turns.length; have hdvl := toldA_len hP2.told; have hfvl := fars_len hP2.fars; have hord : @LT.lt Nat _ lf lmx := hP2.ord; refine wpAny_upE ?_; refine fold_post ?_; intro Q8 hQ8); (case' done2 => clear lF' lN' rgX hP; rintro ⟨tv, tn, dv, dn, fv, fn, lmx, mx, my, mz, tx, ty, tz, ap, apt⟩ u2 h tk2 ⟨hP2, hoO⟩ F' N'; dsimp only at hP2 hoO F' N'))
  k_with "my call" => ((with_reducible show wpAny _ _ (call (Value.ref 42) [Value.float _ _, Value.float _ _]) _ _ _); k_dflt (refine' wpAny_up (c_addF w _ _ _ _ _ _ _ _ _ _ _ _ _ _ _ _ _ _ _ _ _ _ _ _ _ ?yB ?yF ?yX ?yN ?yT ?yK ?yD ?yU ?yR)); (case yB => k_dflt k_asm); (case yF => k_dflt k_asm); (case yX => k_dflt k_asm); (case yN => k_dflt k_asm); (case yT => k_dflt k_asm); (case yK => exact rfl); (case yD => ktr_room); (case yU => ktr_units); intro h9 tk9 t9 F9 N9 hup9; dsimp only at hup9)
  k_with "my call" => ((with_reducible show wpAny _ _ (call (Value.ref 42) [Value.int _ _, Value.int _ _]) _ _ _); k_dflt (refine' wpAny_up (c_addI w _ _ _ _ _ _ _ _ _ _ _ _ _ _ _ _ _ _ _ _ _ _ _ _ _ ?zB ?zF ?zX ?zN ?zT ?zK ?zD ?zU ?zR)); (case zB => k_dflt k_asm); (case zF => k_dflt k_asm); (case zX => k_dflt k_asm); (case zN => k_dflt k_asm); (case zT => k_dflt k_asm); (case zK => exact rfl); (case zD => ktr_room); (case zU => ktr_units); intro h9 tk9 t9 F9 N9 hup9; dsimp only at hup9)
  k_with "my call" => ((with_reducible show wpAny _ _ (call (Value.ref 70) [Value.int _ _, Value.int _ _]) _ _ _); k_dflt (refine' wpAny_up (c_mulI w _ _ _ _ _ _ _ _ _ _ _ _ _ _ _ _ _ _ _ _ _ _ _ _ _ ?xB ?xF ?xX ?xN ?xT ?xK ?xD ?xU ?x0 ?x1 ?x2 ?x3 ?xR)); (case xB => k_dflt k_asm); (case xF => k_dflt k_asm); (case xX => k_dflt k_asm); (case xN => k_dflt k_asm); (case xT => k_dflt k_asm); (case xK => exact rfl); (case xD => ktr_room); (case xU => ktr_units); (case x0 => omega); (case x1 => omega); (case x2 => omega); (case x3 => omega); intro h9 tk9 t9 F9 N9 hup9; dsimp only at hup9)
  k_with "my call" => ((with_reducible show wpAny _ _ (call (Value.ref 63) [Value.int _ _, Value.int _ _]) _ _ _); k_dflt (refine' wpAny_up (c_modI w _ _ _ _ _ _ _ _ _ _ _ _ _ _ _ _ _ _ _ _ _ _ _ _ _ ?uB ?uF ?uX ?uN ?uT ?uK ?uD ?uU ?u0 ?uR)); (case uB => k_dflt k_asm); (case uF => k_dflt k_asm); (case uX => k_dflt k_asm); (case uN => k_dflt k_asm); (case uT => k_dflt k_asm); (case uK => exact rfl); (case uD => ktr_room); (case uU => ktr_units); (case u0 => omega); intro h9 tk9 t9 F9 N9 hup9; dsimp only at hup9)
  k_steps
  case' done =>
    unfold Stop
    refine' hnext _ _ _ ⟨tv, tn, dv, dn, fv, fn, lmx, mx, my, mz, tx, ty, tz, ap, apt⟩ hP (lp_pos hP (pre2_pos hs15)) ?F (led17 N')
    case F => (refine' fr_kst ?_ F'; exact allC (by rfl) (allC (by rfl) (allC (by rfl) (allC (by rfl) (allC (by rfl) (allC (by rfl) (all1 (by rfl)))))))) 
  case' done2 =>
    refine' hQ7 _ _ (endG ⟨tv, tn, dv, dn, fv, fn, lmx, mx, my, mz, tx, ty, tz, ap, apt⟩ F' N' ?oP (fun p hp => by have q := List.mem_append_left own hp; exact q) (fun p hp => by repeat (first | exact hp | apply List.Mem.tail)) (off_new hoff hoO) (allC (by rfl) (all1 (by rfl))) ?oR)
    case oP => (have e9 : ((16 : Int) - (sh : Int) - 0).toNat = 16 - sh := by omega); rw [e9] at hP2; exact hP2
    case oR => (intro z h1 h2 h3; have h4 := h2 _ (List.Mem.head _); have h5 := h2 _ (.tail _ (List.Mem.head _)); have q0 := ncont h3 (List.Mem.head _); have q1 := ncont h3 (.tail _ (List.Mem.head _)); have q2 := ncont h3 (.tail _ (.tail _ (List.Mem.head _))); have q3 := ncont h3 (.tail _ (.tail _ (.tail _ (List.Mem.head _)))); have q4 := ncont h3 (.tail _ (.tail _ (.tail _ (.tail _ (List.Mem.head _))))); have q5 := ncont h3 (.tail _ (.tail _ (.tail _ (.tail _ (.tail _ (List.Mem.head _)))))); have q6 := ncont h3 (.tail _ (.tail _ (.tail _ (.tail _ (.tail _ (.tail _ (List.Mem.head _))))))); have q7 := ncont h3 (.tail _ (.tail _ (.tail _ (.tail _ (.tail _ (.tail _ (.tail _ (List.Mem.head _)))))))); have q8 : [Str.ofString "here", Str.ofString "there", Str.ofString "turn", Str.ofString "red", Str.ofString "green", Str.ofString "blue", Str.ofString "colour"].contains z = false := contf (allC q1 (allC q2 (allC q3 (allC q4 (allC q5 (allC q6 (all1 q7))))))); (repeat (first | refine (if_neg (by assumption)).trans ?_ | refine (if_neg (by rw [q8]; exact Bool.false_ne_true)).trans ?_)); exact if_neg (by rw [h3]; exact Bool.false_ne_true))
  all_goals (rename Fr _ _ _ _ => lF'); (rename News _ _ _ _ => lN'); (simp only [List.push_toArray] at lN')
  all_goals first
    | (rename @LT.lt Nat _ _ _ ∧ @LT.lt Nat _ _ _ ∧ @LT.lt Nat _ _ _ ∧ @LT.lt Nat _ _ _ ∧ @LT.lt Nat _ _ _ ∧ @LT.lt Nat _ _ _ ∧ @LT.lt Nat _ _ _ ∧ @LT.lt Nat _ _ _ ∧ @LT.lt Nat _ _ _ ∧ @LT.lt Nat _ _ _ ∧ @LT.lt Nat _ _ _ ∧ @LT.lt Nat _ _ _ ∧ @LT.lt Nat _ _ _ ∧ @LT.lt Nat _ _ _ ∧ @LT.lt Nat _ _ _ ∧ AllLt _ (own ++ own2) => l1)
  all_goals
    have hoA := off_all l1.2.2.2.2.2.2.2.2.2.2.2.2.2.2.2
    refine' hQ8 _ _ (fun hupE => endG ⟨tv ++ [.int _ _], _, dv ++ [.float (H ((rsel r1 r2 i j - rsel r1 r2 i (j + sh)).fmod (2 * (hn : Int)))) t19], _, fv ++ [.int _ _], _, _, Float64.add mx (RX ((rsel r1 r2 i j - rsel r1 r2 i (j + sh)).fmod (2 * (hn : Int)))), Float64.add my (RY ((rsel r1 r2 i j - rsel r1 r2 i (j + sh)).fmod (2 * (hn : Int)))), Float64.add mz (RZ ((rsel r1 r2 i j - rsel r1 r2 i (j + sh)).fmod (2 * (hn : Int)))), _, _, _, ap + far (2 * (hn : Int)) ((rsel r1 r2 i j - rsel r1 r2 i (j + sh)).fmod (2 * (hn : Int))), _⟩ lF' lN' ?eP ?eN ?eO (off_new hoff2 hoA.2) (allC (by rfl) (all1 (by rfl))) ?eR)
    case' eN => refine' allC ?g1 (allC ?g2 (allC ?g3 (allC ?g4 (allC ?g5 (allC ?g6 (allC ?g7 (allC ?g8 (allC ?g9 (allC ?g10 (allC ?g11 (allC ?g12 ?g13)))))))))))
    case g13 => (intro p hp; repeat (first | exact hp | exact List.mem_append_left _ hp | exact List.mem_append_right _ hp | apply List.Mem.tail))
    case eO => (intro p hp; repeat (first | exact hp | exact List.mem_append_left _ hp | exact List.mem_append_right _ hp | apply List.Mem.tail))
    case eR => (intro z h1 h2 h3; have h4 := h2 _ (List.Mem.head _); have h5 := h2 _ (.tail _ (List.Mem.head _)); have q1 := ncont h3 (List.Mem.head _); have q2 := ncont h3 (.tail _ (List.Mem.head _)); have q3 := ncont h3 (.tail _ (.tail _ (List.Mem.head _))); have q4 := ncont h3 (.tail _ (.tail _ (.tail _ (List.Mem.head _)))); have q5 := ncont h3 (.tail _ (.tail _ (.tail _ (.tail _ (List.Mem.head _))))); have q6 := ncont h3 (.tail _ (.tail _ (.tail _ (.tail _ (.tail _ (List.Mem.head _)))))); have q7 := ncont h3 (.tail _ (.tail _ (.tail _ (.tail _ (.tail _ (.tail _ (List.Mem.head _))))))); (repeat (refine (if_neg (by assumption)).trans ?_)); exact if_neg (by rw [h3]; exact Bool.false_ne_true))
    case g1 => (repeat (first | exact List.Mem.head _ | apply List.Mem.tail))
    case g2 => (repeat (first | exact List.Mem.head _ | apply List.Mem.tail))
    case g3 => (repeat (first | exact List.Mem.head _ | apply List.Mem.tail))
    case g4 => (repeat (first | exact List.Mem.head _ | apply List.Mem.tail))
    case g5 => (repeat (first | exact List.Mem.head _ | apply List.Mem.tail))
    case g6 => (repeat (first | exact List.Mem.head _ | apply List.Mem.tail))
    case g7 => (repeat (first | exact List.Mem.head _ | apply List.Mem.tail))
    case g8 => (repeat (first | exact List.Mem.head _ | apply List.Mem.tail))
    case g9 => (repeat (first | exact List.Mem.head _ | apply List.Mem.tail))
    case g10 => (repeat (first | exact List.Mem.head _ | apply List.Mem.tail))
    case g11 => (repeat (first | exact List.Mem.head _ | apply List.Mem.tail))
    case g12 => (repeat (first | exact List.Mem.head _ | apply List.Mem.tail))
    case eP => (refine' ⟨?s1, hoA.1⟩; (try dsimp only); rw [rowT_succ, ← List.append_assoc]; refine' LP.step hP2 ?s2 ht19 ?s3 rfl (len_bd hi2 hj16 hs1) ?s4; (case s2 => exact hupE); (case s3 => omega); (case s4 => omega))

end Mine
end
section
open PySem PySem.W PyProof.Rows PySem.Flt
namespace Mine
theorem topOffFe : True := by
  w_top off
  trivial
set_option maxRecDepth 100000 in
set_option maxHeartbeats 4000000 in
set_option pp.deepTerms false in
set_option pp.deepTerms.threshold 4 in
theorem c_hsvE (w : World) (mean : ExcName → Option Value) (mg mb : Str → Option Value) (news : List (Addr × Obj)) (r g b : UInt64) (tr tg tb : Tok) :
  ∀ (dp un : Nat) (gd : Option (List Code)) (cn : Str) (cs : Scope) (a : Addr) (ccd : Value) (cl : List (Str × Addr)) (outer : List Env) (A₀ : Around) (base h₀ : Heap) (L : Addr) (m : Str → Option Value) (s : Shared) (Q : Value → Shared → Prop) (E : Value → Shared → Prop)
  (_ : Below A₀ base outer h₀) (_ : Fr h₀ L s.heap m) (_ : (Mine.hd.heap_1 w.params).In h₀) (_ : News h₀ L s.heap news) (_ : Top Mine.hdview (looseW Mine.hdview []) mean mg mb h₀) (_ : cs.kind = .function)
  (_ : dp + 1 < recursionLimit) (_ : un + 8 < cLine) (_ : @LT.lt Nat _ 0 s.toks) (_ : @LT.lt Nat _ 0 tr) (_ : @LT.lt Nat _ 0 tg) (_ : @LT.lt Nat _ 0 tb) (_ : (Float64.cmp (mn3 r g b) (mx3 r g b) == some .eq) = true)
  (_ : ∀ (h' : Heap) (tk' : Nat) (l : Addr) (t1 t2 t3 : Tok),  @LT.lt Nat _ 0 t1 → @LT.lt Nat _ 0 t2 → @LT.lt Nat _ 0 t3 → Fr h₀ L h' m → News h₀ L h' ((l, { cls := .type "tuple", data := .seq #[.float 0 t1, .float 0 t2, .float (mx3 r g b) t3] }) :: news) → (∀ p ∈ news, p.1 < l) → Q (.ref l) { s with heap := h', toks := tk' }),
  wpAny (model PySem.Challenge.rw_sw0044_01.row.prog w) (ktrTop dp un gd cn cs L a ccd cl outer) (call (.ref 28) [.float r tr, .float g tg, .float b tb]) Q E s := by
  k_fill
  intro dp un gd cn cs a ccd cl outer A₀ base h₀ L m s Q E kB kF kX kN kT kK kD kU h0 hr0 hg0 hb0 hne hret
  refine wpAny_call ?_
  k_dflt cell_enter
  k_with_none
  k_with "execs cons" => ((fail_if_success (fail_if_success k_gentoks)); refine gen_toks ?_; intro tkN htkN; dsimp only at htkN; (try dsimp only))
  k_with "execs nil" => ((fail_if_success (fail_if_success k_gentoks)); refine gen_toks ?_; intro tkN htkN; dsimp only at htkN; (try dsimp only))
  k_with "call builtin:max" => ((with_reducible show wpAny _ _ (call (Value.builtin _) [Value.float _ _, Value.float _ _, Value.float _ _]) _ _ _); (rename News _ _ _ _ => N'); (rename Fr _ _ _ _ => F'); refine wpAny_up (max3_tok rfl F' N' ?_); clear F' N'; intro _ _ _ hkm F' N' hupm; dsimp only at hupm)
  k_with "call builtin:min" => ((with_reducible show wpAny _ _ (call (Value.builtin _) [Value.float _ _, Value.float _ _, Value.float _ _]) _ _ _); (rename News _ _ _ _ => N'); (rename Fr _ _ _ _ => F'); refine wpAny_up (min3_tok rfl F' N' ?_); clear F' N'; intro _ _ _ hkn F' N' hupm; dsimp only at hupm)
  k_with "binaryOp Mod float float" => (k_extra "my mod")
  k_with "execs cons" => ((rename Fr _ _ _ _ => gF'); (fail_if_success (with_reducible have gK : Fr _ _ _ (kstB _ _) := gF')); (with_reducible (first | replace gF' := fr_f1 gF' | replace gF' := fr_f2 gF' | replace gF' := fr_f3 gF' | replace gF' := fr_f4 gF' | replace gF' := fr_b6 gF' | replace gF' := fr_b5 gF' | replace gF' := fr_b4 gF' | replace gF' := fr_b3 gF' | replace gF' := fr_b2 gF' | replace gF' := fr_b1 gF')))
  k_steps
  all_goals first
    | (exfalso; simp [*] at hne; done)
    | ((rename Fr _ _ _ _ => kF9); (rename News _ _ _ _ => kN9); refine' hret _ _ _ _ _ _ ?t1 ?t2 ?t3 kF9 kN9 (by assumption); (case t1 => (clear hret; dsimp only at *; omega)); (case t2 => (clear hret; dsimp only at *; omega)); (case t3 => (clear hret; dsimp only at *; omega)))

set_option maxRecDepth 100000 in
set_option maxHeartbeats 4000000 in
set_option pp.deepTerms false in
set_option pp.deepTerms.threshold 4 in
theorem c_hlsE (w : World) (mean : ExcName → Option Value) (mg mb : Str → Option Value) (news : List (Addr × Obj)) (r g b : UInt64) (tr tg tb : Tok) :
  ∀ (dp un : Nat) (gd : Option (List Code)) (cn : Str) (cs : Scope) (a : Addr) (ccd : Value) (cl : List (Str × Addr)) (outer : List Env) (A₀ : Around) (base h₀ : Heap) (L : Addr) (m : Str → Option Value) (s : Shared) (Q : Value → Shared → Prop) (E : Value → Shared → Prop)
  (_ : Below A₀ base outer h₀) (_ : Fr h₀ L s.heap m) (_ : (Mine.hd.heap_1 w.params).In h₀) (_ : News h₀ L s.heap news) (_ : Top Mine.hdview (looseW Mine.hdview []) mean mg mb h₀) (_ : cs.kind = .function)
  (_ : dp + 1 < recursionLimit) (_ : un + 8 < cLine) (_ : @LT.lt Nat _ 0 s.toks) (_ : @LT.lt Nat _ 0 tr) (_ : @LT.lt Nat _ 0 tg) (_ : @LT.lt Nat _ 0 tb) (_ : (Float64.cmp (mn3 r g b) (mx3 r g b) == some .eq) = true)
  (_ : ∀ (h' : Heap) (tk' : Nat) (l : Addr) (t1 t2 t3 : Tok),  @LT.lt Nat _ 0 t1 → @LT.lt Nat _ 0 t2 → @LT.lt Nat _ 0 t3 → Fr h₀ L h' m → News h₀ L h' ((l, { cls := .type "tuple", data := .seq #[.float 0 t1, .float (Float64.div (Float64.add (mx3 r g b) (mn3 r g b)) 0x4000000000000000) t2, .float 0 t3] }) :: news) → (∀ p ∈ news, p.1 < l) → Q (.ref l) { s with heap := h', toks := tk' }),
  wpAny (model PySem.Challenge.rw_sw0044_01.row.prog w) (ktrTop dp un gd cn cs L a ccd cl outer) (call (.ref 21) [.float r tr, .float g tg, .float b tb]) Q E s := by
  k_fill
  intro dp un gd cn cs a ccd cl outer A₀ base h₀ L m s Q E kB kF kX kN kT kK kD kU h0 hr0 hg0 hb0 hne hret
  refine wpAny_call ?_
  k_dflt cell_enter
  k_with_none
  k_with "execs cons" => ((fail_if_success (fail_if_success k_gentoks)); refine gen_toks ?_; intro tkN htkN; dsimp only at htkN; (try dsimp only))
  k_with "execs nil" => ((fail_if_success (fail_if_success k_gentoks)); refine gen_toks ?_; intro tkN htkN; dsimp only at htkN; (try dsimp only))
  k_with "call builtin:max" => ((with_reducible show wpAny _ _ (call (Value.builtin _) [Value.float _ _, Value.float _ _, Value.float _ _]) _ _ _); (rename News _ _ _ _ => N'); (rename Fr _ _ _ _ => F'); refine wpAny_up (max3_tok rfl F' N' ?_); clear F' N'; intro _ _ _ hkm F' N' hupm; dsimp only at hupm)
  k_with "call builtin:min" => ((with_reducible show wpAny _ _ (call (Value.builtin _) [Value.float _ _, Value.float _ _, Value.float _ _]) _ _ _); (rename News _ _ _ _ => N'); (rename Fr _ _ _ _ => F'); refine wpAny_up (min3_tok rfl F' N' ?_); clear F' N'; intro _ _ _ hkn F' N' hupm; dsimp only at hupm)
  k_with "binaryOp Mod float float" => (k_extra "my mod")
  k_with "execs cons" => ((rename Fr _ _ _ _ => gF'); (fail_if_success (with_reducible have gK : Fr _ _ _ (kstB _ _) := gF')); (with_reducible (first | replace gF' := fr_f1 gF' | replace gF' := fr_f2 gF' | replace gF' := fr_f3 gF' | replace gF' := fr_f4 gF' | replace gF' := fr_b6 gF' | replace gF' := fr_b5 gF' | replace gF' := fr_b4 gF' | replace gF' := fr_b3 gF' | replace gF' := fr_b2 gF' | replace gF' := fr_b1 gF')))
  k_steps
  all_goals first
    | (exfalso; simp [*] at hne; done)
    | ((rename Fr _ _ _ _ => kF9); (rename News _ _ _ _ => kN9); refine' hret _ _ _ _ _ _ ?t1 ?t2 ?t3 kF9 kN9 (by assumption); (case t1 => (clear hret; dsimp only at *; omega)); (case t2 => (clear hret; dsimp only at *; omega)); (case t3 => (clear hret; dsimp only at *; omega)))

end Mine
end
section
open PySem PySem.W PyProof.Rows PySem.Flt
namespace Mine
theorem topOffAd2 : True := by
  w_top off
  trivial
set_option maxRecDepth 100000 in
set_option maxHeartbeats 4000000 in
set_option pp.deepTerms false in
set_option pp.deepTerms.threshold 4 in
theorem c_divFI (w : World) (mean : ExcName → Option Value) (mg mb : Str → Option Value) (news : List (Addr × Obj)) (x : UInt64) (k : Int) (t1 t2 : Tok) :
  ∀ (dp un : Nat) (gd : Option (List Code)) (cn : Str) (cs : Scope) (a : Addr) (ccd : Value) (cl : List (Str × Addr)) (outer : List Env) (A₀ : Around) (base h₀ : Heap) (L : Addr) (m : Str → Option Value) (s : Shared) (Q : Value → Shared → Prop) (E : Value → Shared → Prop)
  (_ : Below A₀ base outer h₀) (_ : Fr h₀ L s.heap m) (_ : (Mine.hd.heap_1 w.params).In h₀) (_ : News h₀ L s.heap news) (_ : Top Mine.hdview (looseW Mine.hdview []) mean mg mb h₀) (_ : cs.kind = .function)
  (_ : dp + 1 < recursionLimit) (_ : un + 8 < cLine) (_ : @LT.lt Nat _ 0 s.toks) (_ : 0 < k) (_ : k < 1000)
  (_ : ∀ (h' : Heap) (tk' : Nat) (t : Tok), @LT.lt Nat _ 0 t → Fr h₀ L h' m → News h₀ L h' news → Q (.float (Float64.div x (Float64.ofInt k)) t) { s with heap := h', toks := tk' }),
  wpAny (model PySem.Challenge.rw_sw0044_01.row.prog w) (ktrTop dp un gd cn cs L a ccd cl outer) (call (.ref 91) [.float x t1, .int k t2]) Q E s := by
  k_fill
  intro dp un gd cn cs a ccd cl outer A₀ base h₀ L m s Q E kB kF kX kN kT kK kD kU h0 hk0 hk1 hret
  refine wpAny_call ?_
  k_dflt cell_enter
  k_with_none
  k_with "execs cons" => ((fail_if_success (fail_if_success k_gentoks)); refine gen_toks ?_; intro tkN htkN; dsimp only at htkN; (try dsimp only))
  k_with "execs nil" => ((fail_if_success (fail_if_success k_gentoks)); refine gen_toks ?_; intro tkN htkN; dsimp only at htkN; (try dsimp only))
  k_steps
  all_goals first
    | (exfalso; omega)
    | (exfalso; exact big_no (by assumption) (by omega))
    | ((rename Fr _ _ _ _ => kF9); (rename News _ _ _ _ => kN9); refine' hret _ _ _ ?t1 kF9 kN9; (case t1 => (clear hret; dsimp only at *; omega)))

end Mine
end
section
open PySem PySem.W PyProof.Rows PySem.Flt
namespace Mine
theorem topOffTa : True := by
  w_top off
  trivial
theorem mx3_same (g : UInt64) : mx3 g g g = g := by unfold mx3; simp
theorem mn3_same (g : UInt64) : mn3 g g g = g := by unfold mn3; simp

theorem led22 {h₀ h : Heap} {L : Addr} {x1 x2 a1 a2 y1 y2 a3 a4 a5 c1 c2 c3 c4 : Addr × Obj} (N : News h₀ L h [x1, x2, a1, a2, y1, y2, a3, a4, a5, c1, c2, c3, c4]) : News h₀ L h [a1, a2, a3, a4, a5, c1, c2, c3, c4] := news_sub (.cons _ (.cons _ (.cons₂ _ (.cons₂ _ (.cons _ (.cons _ (.cons₂ _ (.cons₂ _ (.cons₂ _ (.cons₂ _ (.cons₂ _ (.cons₂ _ (.cons₂ _ (.refl _)))))))))))))) N
theorem size_three {a b c : Value} : #[a, b, c].size ≤ sizeLine := by
  have e := sizeLine_eq
  show 3 ≤ sizeLine
  omega
theorem c00 : (Float64.cmp 0 0 == some .eq) = true := by decide +kernel
noncomputable def GrF (g : UInt64) (ys : List Value) (k : Nat) : Prop := ys.length = k ∧ ∀ v ∈ ys, ∃ t, v = .float g t ∧ @LT.lt Nat _ 0 t
theorem grF_nil (g : UInt64) : GrF g [] 0 := ⟨rfl, fun _ h => nomatch h⟩
theorem grF_push {g q : UInt64} {ys : List Value} {k : Nat} {t : Tok} (h : GrF g ys k) (hq : q = g) (ht : @LT.lt Nat _ 0 t) : GrF g (ys ++ [.float q t]) (k + 1) := by
  subst hq
  refine ⟨by simp [h.1], fun v hv => ?_⟩
  rcases List.mem_append.mp hv with hv | hv
  · exact h.2 v hv
  · exact ⟨t, List.mem_singleton.mp hv, ht⟩
theorem len3 {ys : List Value} (h : ys.length = 3) : ∃ a b c, ys = [a, b, c] := by
  cases ys with
  | nil => cases h
  | cons a ys => cases ys with
    | nil => cases h
    | cons b ys => cases ys with
      | nil => cases h
      | cons c ys => cases ys with
        | nil => exact ⟨a, b, c, rfl⟩
        | cons d ys => cases h
theorem grF_three {g : UInt64} {ys : List Value} (h : GrF g ys 3) : ∃ t1 t2 t3, ys = [.float g t1, .float g t2, .float g t3] ∧ @LT.lt Nat _ 0 t1 ∧ @LT.lt Nat _ 0 t2 ∧ @LT.lt Nat _ 0 t3 := by
  obtain ⟨hl, hv⟩ := h
  obtain ⟨a, b, c, rfl⟩ := len3 hl
  obtain ⟨t1, rfl, h1⟩ := hv a (.head _)
  obtain ⟨t2, rfl, h2⟩ := hv b (.tail _ (.head _))
  obtain ⟨t3, rfl, h3⟩ := hv c (.tail _ (.tail _ (.head _)))
  exact ⟨t1, t2, t3, rfl, h1, h2, h3⟩
theorem mx_at {x y z g : UInt64} {tx ty tz : Tok} {d : UInt64} {k : Nat} {v : Value} (hx : Float64.div x d = g) (hy : Float64.div y d = g) (hz : Float64.div z d = g) (hv : #[Value.float x tx, Value.float y ty, Value.float z tz][k]? = some v) : ∃ q t, v = .float q t ∧ Float64.div q d = g := by
  match k, hv with
  | 0, hv => exact ⟨x, tx, (Option.some.inj hv).symm, hx⟩
  | 1, hv => exact ⟨y, ty, (Option.some.inj hv).symm, hy⟩
  | 2, hv => exact ⟨z, tz, (Option.some.inj hv).symm, hz⟩
  | k + 3, hv => simp at hv
set_option maxRecDepth 100000 in
set_option maxHeartbeats 1000000 in
set_option pp.deepTerms false in
set_option pp.deepTerms.threshold 5 in
theorem c_tA (w : World) (mean : ExcName → Option Value) (mg mb : Str → Option Value) (hn sh : Nat) (S V x y z g : UInt64) (lm lf ld lt : Addr) (fv dv tv : List Value) (fn dn tn : Nat) (oU oS oW oH : Obj) (uv : Option Value) (tS tW tH ts tl tx ty tz apt : Tok) (ap : Int) :
  ∀ (dp un : Nat) (gd : Option (List Code)) (outer : List Env) (A₀ : Around) (base h₀ : Heap) (L fa : Addr) (cd : Value) (m : Str → Option Value) (s : Shared) (Q : Flow → Shared → Prop) (E : Value → Shared → Prop)
  (_ : Below A₀ base outer h₀) (_ : Fr h₀ L s.heap (kstB m [(Str.ofString "share", .float S ts), (Str.ofString "level", .float V tl), (Str.ofString "turns", .ref lt), (Str.ofString "told", .ref ld), (Str.ofString "fars", .ref lf), (Str.ofString "mixed", .ref lm), (Str.ofString "apart", .int ap apt)])) (_ : (Mine.hd.heap_1 w.params).In h₀) (_ : News h₀ L s.heap [(lm, listOf #[.float x tx, .float y ty, .float z tz] 0), (lf, listOf fv.toArray fn), (ld, listOf dv.toArray dn), (lt, listOf tv.toArray tn), (L + 1 + 1 + 1 + 1, oU), (L + 1 + 1 + 1, oS), (L + 1 + 1, oW), (L + 1, oH)]) (_ : Top Mine.hdview (looseW Mine.hdview []) mean mg mb h₀)
  (_ : dp + 20 < recursionLimit) (_ : un + 100 < cLine) (_ : 1 ≤ sh) (_ : sh ≤ 15) (_ : oU.data = .cell uv) (_ : oS.data = .cell (some (.int (sh : Int) tS))) (_ : oW.data = .cell (some (.int (2 * (hn : Int)) tW))) (_ : oH.data = .cell (some (.int (hn : Int) tH))) (_ : @LT.lt Nat _ (L + 1 + 1 + 1 + 1) lt) (_ : @LT.lt Nat _ lt ld) (_ : @LT.lt Nat _ ld lf) (_ : @LT.lt Nat _ lf lm) (_ : @LT.lt Nat _ 0 s.toks) (_ : Float64.div x (Float64.ofInt (2 * (16 - (sh : Int)))) = g) (_ : Float64.div y (Float64.ofInt (2 * (16 - (sh : Int)))) = g) (_ : Float64.div z (Float64.ofInt (2 * (16 - (sh : Int)))) = g) (_ : Float64.mul V (Float64.sub (Float64.ofInt 1) (Float64.div S (Float64.ofInt 2))) = g) (_ : (Float64.cmp g g == some .eq) = true) (_ : Float64.div (Float64.add g g) 0x4000000000000000 = g)
  (_ : PassesOwn (model PySem.Challenge.rw_sw0044_01.row.prog w) (ktrTop dp un gd (Str.ofString "law") (scopeAt (Mine.hd.heap_1 w.params) 157) L fa cd (cellsFrom (L + 1) (scopeAt (Mine.hd.heap_1 w.params) 157).names []) outer) (envOfC (Str.ofString "law") (scopeAt (Mine.hd.heap_1 w.params) 157) L fa cd) E)
  (_ : ∀ (h' : Heap) (tk' : Nat) (m' : Loc) (lg lp : Addr) (t1 t2 t3 t4 t5 t6 : Tok), @LE.le Nat _ s.toks tk' → @LT.lt Nat _ lf lg → @LT.lt Nat _ lg lp → @LT.lt Nat _ 0 t1 → @LT.lt Nat _ 0 t2 → @LT.lt Nat _ 0 t3 → @LT.lt Nat _ 0 t4 → @LT.lt Nat _ 0 t5 → @LT.lt Nat _ 0 t6 →
    Fr h₀ L h' (kstB m' [(Str.ofString "turns", .ref lt), (Str.ofString "told", .ref ld), (Str.ofString "fars", .ref lf), (Str.ofString "apart", .int ap apt), (Str.ofString "grey", .ref lg), (Str.ofString "pale", .ref lp)]) →
    News h₀ L h' [(lp, { cls := .type "tuple", data := .seq #[.float 0 t1, .float g t2, .float 0 t3] }), (lg, { cls := .type "tuple", data := .seq #[.float 0 t4, .float 0 t5, .float g t6] }), (lf, listOf fv.toArray fn), (ld, listOf dv.toArray dn), (lt, listOf tv.toArray tn), (L + 1 + 1 + 1 + 1, oU), (L + 1 + 1 + 1, oS), (L + 1 + 1, oW), (L + 1, oH)] →
    wpAny (model PySem.Challenge.rw_sw0044_01.row.prog w) (ktrTop dp un gd (Str.ofString "law") (scopeAt (Mine.hd.heap_1 w.params) 157) L fa cd (cellsFrom (L + 1) (scopeAt (Mine.hd.heap_1 w.params) 157).names []) outer) (execs ((bodyAt (Mine.hd.heap_1 w.params) 157).drop 22) (envOfC (Str.ofString "law") (scopeAt (Mine.hd.heap_1 w.params) 157) L fa cd)) Q E { s with heap := h', toks := tk' }),
  wpAny (model PySem.Challenge.rw_sw0044_01.row.prog w) (ktrTop dp un gd (Str.ofString "law") (scopeAt (Mine.hd.heap_1 w.params) 157) L fa cd (cellsFrom (L + 1) (scopeAt (Mine.hd.heap_1 w.params) 157).names []) outer) (execs ((bodyAt (Mine.hd.heap_1 w.params) 157).drop 17) (envOfC (Str.ofString "law") (scopeAt (Mine.hd.heap_1 w.params) 157) L fa cd)) Q E s := by
  k_fill
  intro dp un gd outer A₀ base h₀ L fa cd m s Q E kB kF kX kN kT kD kU hs1 hs15 hdU hdS hdW hdH hLt htd hdf hfm htk0 hgx hgy hgz hgl hgg hg2 hE hnext
  k_with_none
  k_with "call ref" => (k_extra "my call")
  k_with "execs cons" => (k_extra "my stop")
  k_with "compareOp NotEq ref ref" => (k_extra "my cmp")
  k_with "CompSrc" => (k_extra "my src")
  k_with "execs cons" => ((fail_if_success (fail_if_success k_gentoks)); refine gen_toks ?_; intro tkN htkN; dsimp only at htkN; (try dsimp only))
  k_with "execs nil" => ((fail_if_success (fail_if_success k_gentoks)); refine gen_toks ?_; intro tkN htkN; dsimp only at htkN; (try dsimp only))
  k_with "execs cons" => ((rename Fr _ _ _ _ => gF'); (fail_if_success (with_reducible have gK : Fr _ _ _ (kstB _ _) := gF')); (with_reducible (first | replace gF' := fr_f1 gF' | replace gF' := fr_f2 gF' | replace gF' := fr_f3 gF' | replace gF' := fr_f4 gF' | replace gF' := fr_b6 gF' | replace gF' := fr_b5 gF' | replace gF' := fr_b4 gF' | replace gF' := fr_b3 gF' | replace gF' := fr_b2 gF' | replace gF' := fr_b1 gF')))
  generalize hsc : scopeAt (Mine.hd.heap_1 w.params) 157 = sc at hE hnext ⊢
  conv at hsc => lhs; whnf
  subst hsc
  conv in (List.drop _ _) => whnf
  have hMk := kstMark
  k_with "my call" => (refine stop_here ?_)
  k_with "my stop" => ((with_reducible show wpAny _ _ (execs (List.cons (Stmt.If (Expr.Compare (Expr.ListComp _ _ _ _) _ _ _) _ _ _) _) _) _ _ _); refine stop_here ?_)
  k_with "my call" => ((with_reducible show wpAny _ _ (call (Value.ref 91) _) _ _ _); k_dflt (refine' wpAny_up (c_divFI w _ _ _ _ _ _ _ _ _ _ _ _ _ _ _ _ _ _ _ _ _ _ _ _ _ ?uB ?uF ?uX ?uN ?uT ?uK ?uD ?uU ?u0 ?u1 ?u2 ?uR)); (case uB => k_dflt k_asm); (case uF => k_dflt k_asm); (case uX => k_dflt k_asm); (case uN => k_dflt k_asm); (case uT => k_dflt k_asm); (case uK => exact rfl); (case uD => ktr_room); (case uU => ktr_units); (case u0 => ((try dsimp only); omega)); (case u1 => omega); (case u2 => omega); intro h9 tk9 t9 ht9 F9 N9 hup9; dsimp only at hup9)
  k_with "my call" => ((with_reducible show wpAny _ _ (call (Value.ref 28) _) _ _ _); k_dflt (refine' wpAny_up (c_hsvE w _ _ _ _ _ _ _ _ _ _ _ _ _ _ _ _ _ _ _ _ _ _ _ _ _ _ _ ?vB ?vF ?vX ?vN ?vT ?vK ?vD ?vU ?v0 hc1 hc2 hc3 ?v4 ?vR)); (case vB => k_dflt k_asm); (case vF => k_dflt k_asm); (case vX => k_dflt k_asm); (case vN => k_dflt k_asm); (case vT => k_dflt k_asm); (case vK => exact rfl); (case vD => ktr_room); (case vU => ktr_units); (case v0 => ((try dsimp only); omega)); (case v4 => k_dflt (rw [mx3_same, mn3_same]; exact hgg)); intro h9 tk9 lg9 u19 u29 u39 hu19 hu29 hu39 F9 N9 hlg9 hup9; dsimp only at hup9; (rw [mx3_same] at N9); (try k_lt hlg9))
  k_with "my call" => ((with_reducible show wpAny _ _ (call (Value.ref 21) _) _ _ _); k_dflt (refine' wpAny_up (c_hlsE w _ _ _ _ _ _ _ _ _ _ _ _ _ _ _ _ _ _ _ _ _ _ _ _ _ _ _ ?yB ?yF ?yX ?yN ?yT ?yK ?yD ?yU ?y0 hc1 hc2 hc3 ?y4 ?yR)); (case yB => k_dflt k_asm); (case yF => k_dflt k_asm); (case yX => k_dflt k_asm); (case yN => k_dflt k_asm); (case yT => k_dflt k_asm); (case yK => exact rfl); (case yD => ktr_room); (case yU => ktr_units); (case y0 => ((try dsimp only); omega)); (case y4 => k_dflt (rw [mx3_same, mn3_same]; exact hgg)); intro h9 tk9 lp9 t19 t29 t39 ht19 ht29 ht39 F9 N9 hlp9 hup9; dsimp only at hup9; (rw [mx3_same, mn3_same, hg2] at N9); (try k_lt hlp9))
  k_with "my src" => ((with_reducible show LCg.CompSrc _ _ _ _ _ _ _ _ (Str.ofString "part") _ _ _ _ _); k_dflt (refine LCg.CompSrc.ledger (by rfl) (by k_asm) (by k_asm) (by k_mem) (by exact size_three) ?_); intro g9; k_dflt (refine' comp_rest (fun k ys => GrF g ys k) ?srcS (grF_nil _) ?wturn ?wfin); (case srcS => k_dflt (exact Or.inr ⟨_, by k_mem, rfl, _, rfl⟩)); (case' wturn => intro k v ys I9 oI9 C9 oC9 D9 m9 h9 tk9 E9 hk9 hv9 hR9 hC9 hx9 F' N'; obtain ⟨xv9, tv9, rfl, hxv9⟩ := mx_at hgx hgy hgz hv9); (case' wfin => intro wv hwv; obtain ⟨c1, c2, c3, rfl, hc1, hc2, hc3⟩ := grF_three hwv; unfold LCg.FinE; intro lw h9 tk9 F' N' o9; simp only [LCg.Off1] at o9))
  k_with "my cmp" => ((with_reducible show wpAny _ _ (compareOp _ (Value.ref _) (Value.ref _)) _ _ _); (rename News _ _ _ _ => lN'); rw [hgl] at lN'; k_dflt (refine' ne_tup3 ?nX ?ne lN' ?n1 ?n2 ?f1 ?f2 ?f3 ?g1 ?g2 ?g3 ?q1 ?q2 ?q3 ?nu ?_); (case nX => ((rename Fr _ _ _ _ => lF'); k_dflt (exact Frag.In.keeps kX lF'.keep))); (case ne => k_dflt k_is); (case n1 => k_dflt (repeat (first | exact List.Mem.head _ | apply List.Mem.tail))); (case n2 => k_dflt (repeat (first | exact List.Mem.head _ | apply List.Mem.tail))); (case f1 => ((try dsimp only); omega)); (case f2 => ((try dsimp only); omega)); (case f3 => ((try dsimp only); omega)); (case g1 => ((try dsimp only); omega)); (case g2 => ((try dsimp only); omega)); (case g3 => ((try dsimp only); omega)); (case q1 => first | (with_reducible exact hgg) | exact c00); (case q2 => first | (with_reducible exact hgg) | exact c00); (case q3 => first | (with_reducible exact hgg) | exact c00); (case nu => ktr_units))
  refine wpAny_execs_cons (wpAny_upE ?_)
  k_steps
  case' uR => exact eltP (by assumption) (by assumption) (grF_push hR9 hxv9 ht9)
  all_goals
    unfold Stop
    rename Fr _ _ _ _ => lF'
    refine' hnext _ _ _ lg9 lp9 t19 t29 t39 u19 u29 u39 ?tk ?o1 ?o2 ht19 ht29 ht39 hu19 hu29 hu39 ?F (led22 lN')
    case F => (refine' fr_kst ?_ lF'; exact allC (by rfl) (allC (by rfl) (allC (by rfl) (allC (by rfl) (allC (by rfl) (all1 (by rfl)))))))
    case tk => ((clear hnext); dsimp only at *; omega)
    case o1 => ((try dsimp only); omega)
    case o2 => ((try dsimp only); omega)

end Mine
end
section
open PySem PySem.W PyProof.Rows PySem.Spec PySem.Calls
namespace Mine
section
variable {prog : Program} {w : World} {A : Around} {E : Value → Shared → Prop} {s : Shared} {h₀ : Heap} {L : Addr} {m : Str → Option Value} {env : Env}
theorem comp_restT {ct elt : Expr} {x : Str} {scope : Scope} {cl : List (Str × Addr)} {S : List (Addr × Obj) → Prop} {P : Nat → Value → Prop} {Fin : List Value → List (Addr × Obj) → Prop} {n : Nat} {news : List (Addr × Obj)} (R : Nat → List Value → Prop) (hS : S news) (h0 : R 0 [])
    (turn : ∀ i v ys I oI C oC D m₂ h tk (E' : Value → Shared → Prop), i < n → P i v → R i ys → LCg.NsObj oC m₂ → m₂ x = some v → Fr h₀ L h m → News h₀ L h ((I, oI) :: (C, oC) :: (D, LCg.lst ys) :: news) →
      wpAny (model prog w) A (isTrue ct (compEnvC scope cl C env) (eval ct (compEnvC scope cl C env))) (fun ok s' => if ok = true then
        wpAny (model prog w) A (eval elt (compEnvC scope cl C env)) (EltP h₀ L m { s with heap := h, toks := tk } ((I, oI) :: (C, oC) :: (D, LCg.lst ys) :: news) (fun y _ => R (i + 1) (ys ++ [y]))) E' s'
        else EltP h₀ L m { s with heap := h, toks := tk } ((I, oI) :: (C, oC) :: (D, LCg.lst ys) :: news) (fun _ _ => R (i + 1) ys) Value.none s') E' { s with heap := h, toks := tk })
    (fin : ∀ ys, R n ys → Fin ys news) : LCt.CompRestT prog w A h₀ L m env ct elt x scope cl s S P Fin n 0 [] news := by
  have gen : ∀ k i ys, i + k = n → R i ys → LCt.CompRestT prog w A h₀ L m env ct elt x scope cl s S P Fin k i ys news := by
    intro k
    induction k with
    | zero =>
      intro i ys hi hR
      have : i = n := by omega
      subst this
      exact LCt.CompRestT.zero (fin ys hR)
    | succ k ih =>
      intro i ys hi hR
      refine LCt.CompRestT.succ fun v I oI C oC D m₂ h tk E' hP hC hx F N off ne => ?_
      refine wpAny_mono (turn i v ys I oI C oC D m₂ h tk E' (by omega) hP hR hC hx F N) (fun ok s₂ q => ?_) fun _ _ e => e
      cases ok with
      | true =>
        simp only [if_true] at q ⊢
        refine wpAny_mono q (fun y s₃ q => ?_) fun _ _ e => e
        obtain ⟨h', tk', rfl, F', N', hR'⟩ := q
        exact ⟨h', tk', news, rfl, F', N', off, hS, ih (i + 1) _ (by omega) hR'⟩
      | false =>
        simp only [Bool.false_eq_true, if_false] at q ⊢
        obtain ⟨h', tk', rfl, F', N', hR'⟩ := q
        exact ⟨h', tk', news, rfl, F', N', off, hS, ih (i + 1) _ (by omega) hR'⟩
  exact gen n 0 [] (by omega) h0
end
end Mine
end
section
open PySem PySem.W PyProof.Rows PySem.Flt
namespace Mine
theorem topOffTb : True := by
  w_top off
  trivial
theorem led23 {h₀ h : Heap} {L : Addr} {x1 x2 x3 x4 x5 x6 x7 a1 a2 a3 c1 c2 c3 c4 : Addr × Obj} (N : News h₀ L h [x1, x2, x3, x4, x5, x6, x7, a1, a2, a3, c1, c2, c3, c4]) : News h₀ L h [a1, a2, a3, c1, c2, c3, c4] := news_sub (.cons _ (.cons _ (.cons _ (.cons _ (.cons _ (.cons _ (.cons _ (.cons₂ _ (.cons₂ _ (.cons₂ _ (.cons₂ _ (.cons₂ _ (.cons₂ _ (.cons₂ _ (.refl _))))))))))))))) N
theorem size_told {vs : List Value} {a b c d e f : Value} {n : Nat} (h : vs.length = n) (hn : n ≤ 30) : (vs ++ [a, b, c, d, e, f]).toArray.size ≤ sizeLine := by
  have e := sizeLine_eq
  rw [List.size_toArray, List.length_append, h, e]
  simp only [List.length_cons, List.length_nil]
  omega
theorem flt_at {dv : List Value} {x1 x2 x3 x4 x5 x6 : UInt64} {t1 t2 t3 t4 t5 t6 : Tok} {k : Nat} {v : Value} (h : ∀ v ∈ dv, ∃ x t, v = .float x t) (hv : (dv ++ [Value.float x1 t1, Value.float x2 t2, Value.float x3 t3, Value.float x4 t4, Value.float x5 t5, Value.float x6 t6]).toArray[k]? = some v) : ∃ x t, v = .float x t := by
  have hm : v ∈ dv ++ [Value.float x1 t1, Value.float x2 t2, Value.float x3 t3, Value.float x4 t4, Value.float x5 t5, Value.float x6 t6] := List.mem_of_getElem? (by simpa using hv)
  rcases List.mem_append.mp hm with hm | hm
  · exact h v hm
  · simp only [List.mem_cons, List.not_mem_nil, or_false] at hm
    rcases hm with h | h | h | h | h | h <;> exact ⟨_, _, h⟩
set_option maxRecDepth 100000 in
set_option maxHeartbeats 1000000 in
set_option pp.deepTerms false in
set_option pp.deepTerms.threshold 5 in
theorem c_tB (w : World) (mean : ExcName → Option Value) (mg mb : Str → Option Value) (hn sh : Nat) (g : UInt64) (H : Int → UInt64) (T : List Int) (lf ld lt lg lp : Addr) (fv dv tv : List Value) (fn dn tn : Nat) (oU oS oW oH : Obj) (uv : Option Value) (tS tW tH apt t1 t2 t3 t4 t5 t6 : Tok) (ap : Int) :
  ∀ (dp un : Nat) (gd : Option (List Code)) (outer : List Env) (A₀ : Around) (base h₀ : Heap) (L fa : Addr) (cd : Value) (m : Str → Option Value) (s : Shared) (Q : Flow → Shared → Prop) (E : Value → Shared → Prop)
  (_ : Below A₀ base outer h₀) (_ : Fr h₀ L s.heap (kstB m [(Str.ofString "turns", .ref lt), (Str.ofString "told", .ref ld), (Str.ofString "fars", .ref lf), (Str.ofString "apart", .int ap apt), (Str.ofString "grey", .ref lg), (Str.ofString "pale", .ref lp)])) (_ : (Mine.hd.heap_1 w.params).In h₀) (_ : News h₀ L s.heap [(lp, { cls := .type "tuple", data := .seq #[.float 0 t1, .float g t2, .float 0 t3] }), (lg, { cls := .type "tuple", data := .seq #[.float 0 t4, .float 0 t5, .float g t6] }), (lf, listOf fv.toArray fn), (ld, listOf dv.toArray dn), (lt, listOf tv.toArray tn), (L + 1 + 1 + 1 + 1, oU), (L + 1 + 1 + 1, oS), (L + 1 + 1, oW), (L + 1, oH)]) (_ : Top Mine.hdview (looseW Mine.hdview []) mean mg mb h₀)
  (_ : dp + 20 < recursionLimit) (_ : un + 100 < cLine) (_ : oU.data = .cell uv) (_ : oS.data = .cell (some (.int (sh : Int) tS))) (_ : oW.data = .cell (some (.int (2 * (hn : Int)) tW))) (_ : oH.data = .cell (some (.int (hn : Int) tH))) (_ : @LT.lt Nat _ (L + 1 + 1 + 1 + 1) lt) (_ : @LT.lt Nat _ lt ld) (_ : @LT.lt Nat _ ld lf) (_ : @LT.lt Nat _ lf lg) (_ : @LT.lt Nat _ lg lp) (_ : @LT.lt Nat _ 0 s.toks) (_ : dv.length = T.length) (_ : T.length ≤ 30) (_ : ∀ v ∈ dv, ∃ x t, v = .float x t)
  (_ : PassesOwn (model PySem.Challenge.rw_sw0044_01.row.prog w) (ktrTop dp un gd (Str.ofString "law") (scopeAt (Mine.hd.heap_1 w.params) 157) L fa cd (cellsFrom (L + 1) (scopeAt (Mine.hd.heap_1 w.params) 157).names []) outer) (envOfC (Str.ofString "law") (scopeAt (Mine.hd.heap_1 w.params) 157) L fa cd) E)
  (_ : ∀ (h' : Heap) (tk' : Nat) (m' : Loc), @LE.le Nat _ s.toks tk' →
    Fr h₀ L h' (kstB m' [(Str.ofString "turns", .ref lt), (Str.ofString "told", .ref ld), (Str.ofString "fars", .ref lf), (Str.ofString "apart", .int ap apt)]) →
    News h₀ L h' [(lf, listOf fv.toArray fn), (ld, listOf dv.toArray dn), (lt, listOf tv.toArray tn), (L + 1 + 1 + 1 + 1, oU), (L + 1 + 1 + 1, oS), (L + 1 + 1, oW), (L + 1, oH)] →
    wpAny (model PySem.Challenge.rw_sw0044_01.row.prog w) (ktrTop dp un gd (Str.ofString "law") (scopeAt (Mine.hd.heap_1 w.params) 157) L fa cd (cellsFrom (L + 1) (scopeAt (Mine.hd.heap_1 w.params) 157).names []) outer) (execs ((bodyAt (Mine.hd.heap_1 w.params) 157).drop 23) (envOfC (Str.ofString "law") (scopeAt (Mine.hd.heap_1 w.params) 157) L fa cd)) Q E { s with heap := h', toks := tk' }),
  wpAny (model PySem.Challenge.rw_sw0044_01.row.prog w) (ktrTop dp un gd (Str.ofString "law") (scopeAt (Mine.hd.heap_1 w.params) 157) L fa cd (cellsFrom (L + 1) (scopeAt (Mine.hd.heap_1 w.params) 157).names []) outer) (execs ((bodyAt (Mine.hd.heap_1 w.params) 157).drop 22) (envOfC (Str.ofString "law") (scopeAt (Mine.hd.heap_1 w.params) 157) L fa cd)) Q E s := by
  k_fill
  intro dp un gd outer A₀ base h₀ L fa cd m s Q E kB kF kX kN kT kD kU hdU hdS hdW hdH hLt htd hdf hfg hgp htk0 hdl hTl hdf hE hnext
  k_with_none
  k_with "execs cons" => (k_extra "my stop")
  k_with "CompSrcT" => (k_extra "my src")
  k_with "execs cons" => ((fail_if_success (fail_if_success k_gentoks)); refine gen_toks ?_; intro tkN htkN; dsimp only at htkN; (try dsimp only))
  k_with "execs nil" => ((fail_if_success (fail_if_success k_gentoks)); refine gen_toks ?_; intro tkN htkN; dsimp only at htkN; (try dsimp only))
  k_with "execs cons" => ((rename Fr _ _ _ _ => gF'); (fail_if_success (with_reducible have gK : Fr _ _ _ (kstB _ _) := gF')); (with_reducible (first | replace gF' := fr_f1 gF' | replace gF' := fr_f2 gF' | replace gF' := fr_f3 gF' | replace gF' := fr_f4 gF' | replace gF' := fr_b6 gF' | replace gF' := fr_b5 gF' | replace gF' := fr_b4 gF' | replace gF' := fr_b3 gF' | replace gF' := fr_b2 gF' | replace gF' := fr_b1 gF')))
  generalize hsc : scopeAt (Mine.hd.heap_1 w.params) 157 = sc at hE hnext ⊢
  conv at hsc => lhs; whnf
  subst hsc
  conv in (List.drop _ _) => whnf
  have hMk := kstMark
  k_with "my stop" => ((with_reducible show wpAny _ _ (execs (List.cons (Stmt.For _ _ _ _ _) _) _) _ _ _); refine stop_here ?_)
  k_with "my src" => ((with_reducible show LCt.CompSrcT _ _ _ _ _ _ _ _ _ (Str.ofString "part") _ _ _ _ _); k_dflt (refine LCt.CompSrcT.ledger (by rfl) (by k_asm) (by k_asm) (by k_mem) (by exact size_told hdl hTl) ?_); intro g9; k_dflt (refine' comp_restT (fun k ys => ys = []) ?srcS rfl ?wturn ?wfin); (case srcS => k_dflt (exact Or.inr ⟨_, by k_mem, rfl, _, rfl⟩)); (case' wturn => intro k v ys I9 oI9 C9 oC9 D9 m9 h9 tk9 E9 hk9 hv9 hR9 hC9 hx9 F' N'; subst hR9; obtain ⟨xv9, tv9, rfl⟩ := flt_at hdf hv9); (case' wfin => intro wv hwv; subst hwv; unfold LCg.FinE; intro lw h9 tk9 F' N' o9; simp only [LCg.Off1] at o9))
  refine wpAny_execs_cons (wpAny_upE ?_)
  k_steps
  case' wturn => exact eltP (by assumption) (by assumption) (by trivial)
  all_goals
    unfold Stop
    rename Fr _ _ _ _ => lF'
    rename News _ _ _ _ => lN'
    refine' hnext _ _ _ ?tk ?F (led23 lN')
    case F => (refine' fr_kst ?_ lF'; exact allC (by rfl) (allC (by rfl) (allC (by rfl) (all1 (by rfl)))))
    case tk => ((try dsimp only); first | omega)

end Mine
end
section
open PySem PySem.W PyProof.Rows PySem.Flt
namespace Mine
theorem topOffCt : True := by
  w_top off
  trivial
theorem is_ff {prog : Program} {w : World} {A : Around} {E : Value → Shared → Prop} {s : Shared} {Q : Value → Shared → Prop} {K : Frag} {p q : UInt64} {t u : Tok} (X : K.In s.heap) (e : nsIn K cStatics sharingNotToldKey = some none) (ht : t ≠ 0) (hu : u ≠ 0) (htu : t ≠ u)
    (hQ : ∀ r : Bool, (r = true → p = q ∧ Float64.isNaN p = false) → Q (.bool r) s) : wpAny (model prog w) A (compareOp .Is (.float p t) (.float q u)) Q E s := by
  have go : wpAny (model prog w) A (isSame (.float p t) (.float q u)) (fun r s' => Q (.bool r) s') E s := by
    show wpAny (model prog w) A (isSame.created (p == q && !Float64.isNaN p) t u) _ E s
    unfold isSame.created
    have e1 : (t == 0 || u == 0) = false := by simp [ht, hu]
    have e2 : (t == u) = false := by simp [htu]
    rw [e1]
    simp only [e2, Bool.false_eq_true, if_false]
    cases hc : (p == q && !Float64.isNaN p) with
    | false => simp only [Bool.not_false, if_true]; exact wpAny_pure (hQ false (fun h => by cases h))
    | true =>
      have hc' : p = q ∧ Float64.isNaN p = false := by simpa using hc
      simp only [Bool.not_true, Bool.false_eq_true, if_false]
      have told : ∀ (x : Tok) (R : Bool → Shared → Prop), R false s → wpAny (model prog w) A (sharingNotTold x) R E s := fun x R hR => by
        unfold sharingNotTold
        refine wpAny_bind ((looks_nsIn X e).here ?_)
        exact wpAny_pure hR
      refine wpAny_bind (told t _ ?_)
      simp only [Bool.false_eq_true, if_false]
      refine wpAny_bind (told u _ ?_)
      simp only [Bool.false_eq_true, if_false]
      refine wpAny_bind (wpAny_rule ?_)
      refine wpAny_bind (wpAny_askSetting ?_)
      exact wpAny_pure (hQ _ (fun _ => hc'))
  show wpAny (model prog w) A (isSame (.float p t) (.float q u) >>= fun r => pure (.bool r)) Q E s
  exact wpAny_bind (wpAny_mono go (fun r s' h => wpAny_pure h) fun _ _ h => h)
noncomputable def JC (y x : Str) (c : Nat → Int) (m₀ : Loc) (news : Led) (i : Nat) (m : Loc) (nx : Led) : Prop := nx = news ∧ (∃ t, m y = some (.int (c i) t)) ∧ ∀ z, z ≠ x → z ≠ y → m z = m₀ z
theorem acc_list {prog : Program} {w : World} {A : Around} {E : Value → Shared → Prop} {s : Shared} {env : Env} {h₀ : Heap} {x y : Str} {body : List Stmt} {Q : Flow → Shared → Prop} {l : Addr} {vs : List Value} {nn : Nat} {m₀ : Loc} {news : Led} {t₀ : Tok} (c : Nat → Int)
    (hh : A.handled = none) (hyx : y ≠ x) (hl : (l, listOf vs.toArray nn) ∈ news) (F : Fr h₀ env.locals s.heap m₀) (N : News h₀ env.locals s.heap news) (hy : m₀ y = some (.int (c 0) t₀))
    (turn : ∀ i v t h tk own, vs[i]? = some v → OwnOff own (news.map (·.1)) → Fr h₀ env.locals h (fun z => if z = x then some v else if z = y then some (.int (c i) t) else m₀ z) → News h₀ env.locals h (news ++ own) →
      wpAny (model prog w) A (execs body env) (InvPostG h₀ env.locals (fun m' nx => (l, listOf vs.toArray nn) ∈ nx ∧ JC y x c m₀ news (i + 1) m' nx) own { s with heap := h, toks := tk } Q) E { s with heap := h, toks := tk })
    (done : ∀ (u : Loc) t h tk, Fr h₀ env.locals h (fun z => if z = x then u z else if z = y then some (.int (c vs.length) t) else m₀ z) → News h₀ env.locals h news → Q .next { s with heap := h, toks := tk }) :
    wpAny (model prog w) A (pyIter (.ref l)) (fun it s₂ => LoopAtV prog w A h₀ env x body Q E it s₂) E s := by
  refine kdl_iter (JC y x c m₀ news) hh hl F N ⟨rfl, ⟨t₀, hy⟩, fun _ _ _ => rfl⟩ ?_ ?_
  · rintro i v m₁ news₁ h tk own hv hoff hl₁ ⟨rfl, ⟨t, ht⟩, hm⟩ F₁ N₁
    have e : (fun z => if z = x then some v else m₁ z) = fun z => if z = x then some v else if z = y then some (Value.int (c i) t) else m₀ z := by
      funext z
      by_cases h1 : z = x
      · simp [h1]
      · simp only [if_neg h1]
        by_cases h2 : z = y
        · subst h2; simp [ht]
        · simp only [if_neg h2]; exact hm z h1 h2
    rw [e] at F₁
    exact turn i v t h tk own hv hoff F₁ N₁
  · rintro m₁ nx h tk ⟨rfl, ⟨t, ht⟩, hm⟩ F₁ N₁
    have e : (fun z => if z = x then m₁ z else if z = y then some (Value.int (c vs.length) t) else m₀ z) = m₁ := by
      funext z
      by_cases h1 : z = x
      · simp [h1]
      · simp only [if_neg h1]
        by_cases h2 : z = y
        · subst h2; simp [ht]
        · simp only [if_neg h2]; exact (hm z h1 h2).symm
    refine done m₁ t h tk ?_ N₁
    rw [e]; exact F₁
theorem endC {x y : Str} {h₀ h' : Heap} {L l : Addr} {c : Nat → Int} {m₀ m' : Loc} {news own : Led} {vs : List Value} {nn i : Nat} {s₁ : Shared} {tk : Nat} {t : Tok} (hl : (l, listOf vs.toArray nn) ∈ news) (F : Fr h₀ L h' m') (N : News h₀ L h' (news ++ own))
    (e : m' y = some (.int (c (i + 1)) t)) (hz : ∀ z, z ≠ x → z ≠ y → m' z = m₀ z) (hoff : OwnOff own (news.map (·.1))) :
    InvEndG h₀ L (fun m' nx => (l, listOf vs.toArray nn) ∈ nx ∧ JC y x c m₀ news (i + 1) m' nx) own s₁ { s₁ with heap := h', toks := tk } :=
  InvEndG.intro (nx := news) F N ⟨hl, rfl, ⟨t, e⟩, hz⟩ hoff (fun p hp => List.mem_append_left _ hp) (fun p hp => List.mem_append_right _ hp)
noncomputable def bits : Value → UInt64
  | .float x _ => x
  | _ => 0
noncomputable def cntF (y : UInt64) (vs : List Value) : Int := ((vs.filter fun v => Float64.cmp (bits v) y == some .eq).length : Nat)
theorem cntF_yes {y : UInt64} {vs : List Value} {i : Nat} {x : UInt64} {t : Tok} (hv : vs[i]? = some (.float x t)) (h : (Float64.cmp x y == some .eq) = true) : cntF y (vs.take i) + 1 = cntF y (vs.take (i + 1)) := by
  have e : vs.take (i + 1) = vs.take i ++ [.float x t] := by rw [List.take_add_one, hv]; rfl
  rw [e]; unfold cntF; simp [List.filter_append, bits, h]
theorem cntF_no {y : UInt64} {vs : List Value} {i : Nat} {x : UInt64} {t : Tok} (hv : vs[i]? = some (.float x t)) (h : (Float64.cmp x y == some .eq) = false) : cntF y (vs.take i) = cntF y (vs.take (i + 1)) := by
  have e : vs.take (i + 1) = vs.take i ++ [.float x t] := by rw [List.take_add_one, hv]; rfl
  rw [e]; unfold cntF; simp [List.filter_append, bits, h]
theorem cntF_bound {y : UInt64} {vs : List Value} : 0 ≤ cntF y vs ∧ cntF y vs ≤ vs.length := by
  unfold cntF
  have := List.length_filter_le (fun v => Float64.cmp (bits v) y == some .eq) vs
  omega
theorem cmp_self {x : UInt64} (h : Float64.isNaN x = false) : (Float64.cmp x x == some .eq) = true := by
  unfold Float64.isNaN at h
  unfold Float64.cmp
  cases hd : Float64.decode x with
  | nan => rw [hd] at h; simp at h
  | inf a => simp
  | fin a m e => simp [Float64.align]
set_option maxRecDepth 100000 in
set_option maxHeartbeats 8000000 in
set_option pp.deepTerms false in
set_option pp.deepTerms.threshold 4 in
theorem c_count (w : World) (mean : ExcName → Option Value) (mg mb : Str → Option Value) (news : List (Addr × Obj)) (l : Addr) (vs : List Value) (nn : Nat) (y : UInt64) (ty : Tok) :
  ∀ (dp un : Nat) (gd : Option (List Code)) (cn : Str) (cs : Scope) (a : Addr) (ccd : Value) (cl : List (Str × Addr)) (outer : List Env) (A₀ : Around) (base h₀ : Heap) (L : Addr) (m : Str → Option Value) (s : Shared) (Q : Value → Shared → Prop) (E : Value → Shared → Prop)
  (_ : Below A₀ base outer h₀) (_ : Fr h₀ L s.heap m) (_ : (Mine.hd.heap_1 w.params).In h₀) (_ : News h₀ L s.heap news) (_ : Top Mine.hdview (looseW Mine.hdview []) mean mg mb h₀) (_ : cs.kind = .function)
  (_ : dp + 1 < recursionLimit) (_ : un + 8 < cLine) (_ : (l, listOf vs.toArray nn) ∈ news) (_ : ty ≠ 0) (_ : ∀ v ∈ vs, ∃ x t, v = .float x t ∧ t ≠ 0 ∧ t ≠ ty) (_ : vs.length ≤ 1000)
  (_ : ∀ (h' : Heap) (tk' : Nat) (t : Tok), Fr h₀ L h' m → News h₀ L h' news → Q (.int (cntF y vs) t) { s with heap := h', toks := tk' }),
  wpAny (model PySem.Challenge.rw_sw0044_01.row.prog w) (ktrTop dp un gd cn cs L a ccd cl outer) (call (.ref 105) [.ref l, .float y ty]) Q E s := by
  k_fill
  intro dp un gd cn cs a ccd cl outer A₀ base h₀ L m s Q E kB kF kX kN kT kK kD kU hl hty hvs hlen hret
  refine wpAny_call ?_
  k_dflt cell_enter
  k_with_none
  k_with "exec For Name Name cons nil" => ((rename Fr _ _ _ _ => lF'); (with_unfolding_all refine For_invVF lF' (by exact rfl) (by exact rfl) ?_); k_whole)
  k_with "pyIter ref" => (k_extra "my iter")
  k_with "compareOp Is" => (k_extra "my is")
  k_with "my iter" => (
    (rename Fr _ _ _ _ => lF'); (rename News _ _ _ _ => lN');
    refine' acc_list (y := Str.ofString "count") (fun i => cntF y (vs.take i)) rfl (by decide) hl lF' lN' (by rfl) ?turn ?done;
    (case' turn => clear lF' lN'; intro i v t h tk own hv hoff F' N'; obtain ⟨x, tx, rfl, h1, h2⟩ := hvs v (List.mem_of_getElem? hv)))
  k_with "my is" => (refine' is_ff ?X ?e h1 hty h2 ?_; (case X => k_in); (case e => k_dflt k_is); k_whole; intro r hr; cases r)
  k_steps
  case' done => (simp only [List.take_length]; refine hret _ _ _ (by assumption) (by assumption))
  all_goals first
    | exact endC (c := fun i => cntF y (vs.take i)) hl (by assumption) (by assumption) (by show _ = some (Value.int (cntF y (vs.take (i + 1))) _); rw [← cntF_yes hv (by assumption)]; rfl) (by intro z h1 h2; simp only [h1, h2, if_false]) hoff
    | exact endC (c := fun i => cntF y (vs.take i)) hl (by assumption) (by assumption) (by show _ = some (Value.int (cntF y (vs.take (i + 1))) _); rw [← cntF_no hv (by assumption)]; rfl) (by intro z h1 h2; simp only [h1, h2, if_false]) hoff
    | exact endC (c := fun i => cntF y (vs.take i)) hl (by assumption) (by assumption) (by show _ = some (Value.int (cntF y (vs.take (i + 1))) _); rw [← cntF_yes hv (by rw [← (hr rfl).1]; exact cmp_self (hr rfl).2)]; rfl) (by intro z h1 h2; simp only [h1, h2, if_false]) hoff

end Mine
end
section
open PySem PySem.W PyProof.Rows PySem.Flt
namespace Mine
theorem topOffTc : True := by
  w_top off
  trivial
theorem tn_at {tv : List Value} {T : List Int} {k : Nat} {v : Value} (h : IntsAre tv T) (hv : tv.toArray[k]? = some v) : ∃ x t, v = .int x t ∧ T[k]? = some x := by
  have hv' : tv[k]? = some v := by simpa using hv
  have hk : k < tv.length := (List.getElem?_eq_some_iff.mp hv').1
  have hlt : k < T.length := by rw [← h.length]; exact hk
  obtain ⟨t, ht⟩ := ints_at h k hlt
  rw [hv'] at ht
  refine ⟨_, t, Option.some.inj ht, ?_⟩
  simp [List.getD_eq_getElem?_getD, List.getElem?_eq_getElem hlt]
theorem cnt_yes {T : List Int} {k : Nat} {x j : Int} {n : Nat} (hx : T[k]? = some x) (h : n = (T.take k).count j) (e : x = j) : n + 1 = (T.take (k + 1)).count j := by
  rw [List.take_add_one, hx]; simp [h, e]
theorem cnt_no {T : List Int} {k : Nat} {x j : Int} {n : Nat} (hx : T[k]? = some x) (h : n = (T.take k).count j) (e : ¬ x = j) : n = (T.take (k + 1)).count j := by
  rw [List.take_add_one, hx]; simp [h, e]
theorem cnt_fin {tv : List Value} {T : List Int} {n : Nat} {j : Int} (h : IntsAre tv T) (hn : n = (T.take tv.toArray.size).count j) : n = T.count j := by
  rw [hn, List.size_toArray, h.length, List.take_length]
theorem told_ne {H : Int → UInt64} {dv : List Value} {T : List Int} {TK : Nat} {ty : Tok} (h : ToldA H dv T TK) (ht : @LE.le Nat _ TK ty) : ∀ v ∈ dv, ∃ x t, v = .float x t ∧ t ≠ 0 ∧ t ≠ ty := fun v hv => by
  obtain ⟨j, hj, e⟩ := List.getElem_of_mem hv
  obtain ⟨t, a, b, c⟩ := h.2 j (by rw [← h.1]; exact hj)
  rw [List.getElem?_eq_getElem hj, e] at a
  exact ⟨_, t, Option.some.inj a, fun q => absurd b (by rw [q]; exact Nat.lt_irrefl 0), fun q => absurd (Nat.lt_of_lt_of_le c ht) (by rw [q]; exact Nat.lt_irrefl _)⟩
theorem ty_ne {TK : Nat} {ty : Tok} (h0 : @LT.lt Nat _ 0 TK) (ht : @LE.le Nat _ TK ty) : ty ≠ 0 := fun q => absurd (Nat.lt_of_lt_of_le h0 ht) (by rw [q]; exact Nat.lt_irrefl 0)
theorem hcn {L lt ld lf : Addr} {fv dv tv : List Value} {fn dn tn : Nat} {oS oW oH : Obj} (h1 : @LT.lt Nat _ (L + 1 + 1 + 1 + 1) lt) (h2 : @LT.lt Nat _ lt ld) (h3 : @LT.lt Nat _ ld lf) : ∀ p ∈ [(lf, listOf fv.toArray fn), (ld, listOf dv.toArray dn), (lt, listOf tv.toArray tn), (L + 1 + 1 + 1, oS), (L + 1 + 1, oW), (L + 1, oH)], @Ne Nat p.1 (L + 1 + 1 + 1 + 1) := by
  refine allC ?_ (allC ?_ (allC ?_ (allC ?_ (allC ?_ (all1 ?_))))) <;> (dsimp only; intro q; simp only [Addr] at *; omega)
theorem cell1 {h₀ h : Heap} {L : Addr} {a b c d e f g : Addr × Obj} (N : News h₀ L h [a, b, c, d, e, f, g]) : News h₀ L h (d :: [a, b, c, e, f, g]) := fun p hp => N p ((List.perm_middle (l₁ := [a, b, c]) (a := d) (l₂ := [e, f, g])).mem_iff.mpr hp)
theorem cell2 {h₀ h : Heap} {L : Addr} {a b c d e f g : Addr × Obj} (N : News h₀ L h (d :: [a, b, c, e, f, g])) : News h₀ L h [a, b, c, d, e, f, g] := fun p hp => N p ((List.perm_middle (l₁ := [a, b, c]) (a := d) (l₂ := [e, f, g])).mem_iff.mp hp)
set_option maxRecDepth 100000 in
set_option maxHeartbeats 1000000 in
set_option pp.deepTerms false in
set_option pp.deepTerms.threshold 5 in
theorem c_tC (w : World) (mean : ExcName → Option Value) (mg mb : Str → Option Value) (hn sh TK : Nat) (H : Int → UInt64) (T : List Int) (lf ld lt : Addr) (fv dv tv : List Value) (fn dn tn : Nat) (oU oS oW oH : Obj) (uv : Option Value) (tS tW tH apt : Tok) (ap : Int) :
  ∀ (dp un : Nat) (gd : Option (List Code)) (outer : List Env) (A₀ : Around) (base h₀ : Heap) (L fa : Addr) (cd : Value) (m : Str → Option Value) (s : Shared) (Q : Flow → Shared → Prop) (E : Value → Shared → Prop)
  (_ : Below A₀ base outer h₀) (_ : Fr h₀ L s.heap (kstB m [(Str.ofString "turns", .ref lt), (Str.ofString "told", .ref ld), (Str.ofString "fars", .ref lf), (Str.ofString "apart", .int ap apt)])) (_ : (Mine.hd.heap_1 w.params).In h₀) (_ : News h₀ L s.heap [(lf, listOf fv.toArray fn), (ld, listOf dv.toArray dn), (lt, listOf tv.toArray tn), (L + 1 + 1 + 1 + 1, oU), (L + 1 + 1 + 1, oS), (L + 1 + 1, oW), (L + 1, oH)]) (_ : Top Mine.hdview (looseW Mine.hdview []) mean mg mb h₀)
  (_ : dp + 20 < recursionLimit) (_ : un + 100 < cLine) (_ : 1 ≤ hn) (_ : hn ≤ 4) (_ : oU.data = .cell uv) (_ : oS.data = .cell (some (.int (sh : Int) tS))) (_ : oW.data = .cell (some (.int (2 * (hn : Int)) tW))) (_ : oH.data = .cell (some (.int (hn : Int) tH))) (_ : @LT.lt Nat _ (L + 1 + 1 + 1 + 1) lt) (_ : @LT.lt Nat _ lt ld) (_ : @LT.lt Nat _ ld lf) (_ : @LT.lt Nat _ 0 TK) (_ : @LE.le Nat _ TK s.toks) (_ : IntsAre tv T) (_ : ToldA H dv T TK) (_ : T.length ≤ 30) (_ : ∀ i : Nat, i < hn → cntF (Float64.ofFrac false ((0 : Int) + (i : Int)).natAbs (2 * (hn : Int)).natAbs) dv = ((T.count ((0 : Int) + (i : Int)) : Nat) : Int) ∧ cntF (Float64.ofFrac false ((0 : Int) + (i : Int) + (hn : Int)).natAbs (2 * (hn : Int)).natAbs) dv = ((T.count ((0 : Int) + (i : Int)) : Nat) : Int))
  (_ : PassesOwn (model PySem.Challenge.rw_sw0044_01.row.prog w) (ktrTop dp un gd (Str.ofString "law") (scopeAt (Mine.hd.heap_1 w.params) 157) L fa cd (cellsFrom (L + 1) (scopeAt (Mine.hd.heap_1 w.params) 157).names []) outer) (envOfC (Str.ofString "law") (scopeAt (Mine.hd.heap_1 w.params) 157) L fa cd) E)
  (_ : ∀ (h' : Heap) (tk' : Nat) (m' : Loc) (oU' : Obj) (uv' : Option Value), oU'.data = .cell uv' → 
    Fr h₀ L h' (kstB m' [(Str.ofString "turns", .ref lt), (Str.ofString "told", .ref ld), (Str.ofString "fars", .ref lf), (Str.ofString "apart", .int ap apt)]) →
    News h₀ L h' [(lf, listOf fv.toArray fn), (ld, listOf dv.toArray dn), (lt, listOf tv.toArray tn), (L + 1 + 1 + 1 + 1, oU'), (L + 1 + 1 + 1, oS), (L + 1 + 1, oW), (L + 1, oH)] →
    wpAny (model PySem.Challenge.rw_sw0044_01.row.prog w) (ktrTop dp un gd (Str.ofString "law") (scopeAt (Mine.hd.heap_1 w.params) 157) L fa cd (cellsFrom (L + 1) (scopeAt (Mine.hd.heap_1 w.params) 157).names []) outer) (execs ((bodyAt (Mine.hd.heap_1 w.params) 157).drop 24) (envOfC (Str.ofString "law") (scopeAt (Mine.hd.heap_1 w.params) 157) L fa cd)) Q E { s with heap := h', toks := tk' }),
  wpAny (model PySem.Challenge.rw_sw0044_01.row.prog w) (ktrTop dp un gd (Str.ofString "law") (scopeAt (Mine.hd.heap_1 w.params) 157) L fa cd (cellsFrom (L + 1) (scopeAt (Mine.hd.heap_1 w.params) 157).names []) outer) (execs ((bodyAt (Mine.hd.heap_1 w.params) 157).drop 23) (envOfC (Str.ofString "law") (scopeAt (Mine.hd.heap_1 w.params) 157) L fa cd)) Q E s := by
  k_fill
  intro dp un gd outer A₀ base h₀ L fa cd m s Q E kB kF kX kN kT kD kU hn1 hn4 hdU hdS hdW hdH hLt htd hdf hTK hTK2 hT hD hTl hcnt hE hnext
  k_with_none
  k_with "execs cons" => (k_extra "my stop")
  k_with "call ref" => (k_extra "my call")
  k_with "CompSrcT" => (k_extra "my src")
  k_with "exec For Name Call cons nil" => (k_extra "my for")
  k_with "pyIter ref" => (k_extra "my iter")
  k_with "binaryOp Div int int" => (k_extra "my div")
  k_with "call builtin:len" => (k_extra "my len")
  k_with "exec Assign" => (k_extra "my assign")
  k_with "call type:range" => ((rename Fr _ _ _ _ => F'); (rename News _ _ _ _ => N'); (with_unfolding_all refine wpAny_up (range1_rows F' N' ?_)); intro _ _ _ _ _ _ _ _ _ hupR; dsimp only at hupR)
  k_with "execs cons" => ((fail_if_success (fail_if_success k_gentoks)); refine gen_toks ?_; intro tkN htkN; dsimp only at htkN; (try dsimp only))
  k_with "execs nil" => ((fail_if_success (fail_if_success k_gentoks)); refine gen_toks ?_; intro tkN htkN; dsimp only at htkN; (try dsimp only))
  k_with "execs cons" => ((rename Fr _ _ _ _ => gF'); (fail_if_success (with_reducible have gK : Fr _ _ _ (kstB _ _) := gF')); (with_reducible (first | replace gF' := fr_f1 gF' | replace gF' := fr_f2 gF' | replace gF' := fr_f3 gF' | replace gF' := fr_f4 gF' | replace gF' := fr_b6 gF' | replace gF' := fr_b5 gF' | replace gF' := fr_b4 gF' | replace gF' := fr_b3 gF' | replace gF' := fr_b2 gF' | replace gF' := fr_b1 gF')))
  generalize hsc : scopeAt (Mine.hd.heap_1 w.params) 157 = sc at hE hnext ⊢
  conv at hsc => lhs; whnf
  subst hsc
  conv in (List.drop _ _) => whnf
  have hMk := kstMark
  have on1 : Once 1 := trivial
  have on2 : Once 2 := trivial
  have htvl := hT.length
  have hdvl := toldA_len hD
  k_with "my stop" => ((with_reducible show wpAny _ _ (execs (List.cons (Stmt.If (Expr.Compare _ _ _ _) _ _ _) (List.cons (Stmt.If (Expr.Compare _ _ _ _) _ _ _) _)) _) _ _ _); refine stop_here ?_)
  k_with "my for" => ((rename Fr _ _ _ _ => lF'); (with_unfolding_all refine' For_C lF' ?k1 ?k2 ?k3 ?_; (case k1 => exact rfl); (case k2 => exact rfl); (case k3 => exact rfl); k_whole))
  k_with "my iter" => ((with_reducible show wpAny _ _ _ (fun it s₂ => LoopAtC _ _ _ _ _ _ _ _ _ it s₂) _ _); (rename Fr _ _ _ _ => lF'); (rename News _ _ _ _ => lN'); (rename IsRange _ _ _ _ _ _ _ _ => rgX); (with_unfolding_all refine' rangeCC (Str.ofString "hue") [Str.ofString "due"] (fun (_ : Unit) => [(lf, listOf fv.toArray fn), (ld, listOf dv.toArray dn), (lt, listOf tv.toArray tn), (L + 1 + 1 + 1, oS), (L + 1 + 1, oW), (L + 1, oH)]) (fun _ => []) (fun i _ tk => @LE.le Nat _ TK tk ∧ i ≤ hn) () (by rfl) rgX (small_one (by omega) (by omega) (by omega) (by omega)) (rangeSize_nat _ _) lF' (cell1 lN') hdU (hcn hLt htd hdf) allN ⟨?tk0, Nat.zero_le _⟩ (fun _ _ _ _ h1 h2 => ⟨Nat.le_trans h2.1 h1, h2.2⟩) ?turn ?done); (case tk0 => ((try dsimp only); omega)); (case' turn => clear lF' lN' rgX; intro i _ t o u h tk own hi htP hod hoff F' N'; obtain ⟨htP, hile⟩ := htP; dsimp only [List.cons_append, List.nil_append, List.map_cons, List.map_nil] at F' N' hoff; have hi9 : i < hn := (by omega); obtain ⟨hcA, hcB⟩ := hcnt i hi9); (case' done => clear lF' lN' rgX; intro _ u o v h tk htP hod F' N'))
  k_with "my assign" => (clear on1; refine wpAny_upE ?_)
  k_with "my src" => ((with_reducible show LCt.CompSrcT _ _ _ _ _ _ _ _ _ (Str.ofString "one") _ _ _ _ _); k_dflt (refine LCt.CompSrcT.ledger (by rfl) (by k_asm) (by k_asm) (by repeat (first | exact List.Mem.head _ | apply List.Mem.tail)) (by exact size_small htvl (by omega)) ?_); intro g9; k_dflt (refine' comp_restT (fun k ys => ys.length = (T.take k).count ((0 : Int) + (i : Int))) ?srcS rfl ?wturn ?wfin); (case srcS => k_dflt (exact Or.inr ⟨_, (by repeat (first | exact List.Mem.head _ | apply List.Mem.tail)), rfl, _, rfl⟩)); (case' wturn => intro k v ys I9 oI9 C9 oC9 D9 m9 h9 tk9 E9 hk9 hv9 hR9 hC9 hx9 F' N'; obtain ⟨xv9, tv9, rfl, hx9k⟩ := tn_at hT hv9); (case' wfin => intro wv hwv; have hwl := cnt_fin hT hwv; unfold LCg.FinE; intro lw h9 tk9 F' N' o9; simp only [LCg.Off1] at o9))
  k_with "my len" => ((with_reducible show wpAny _ _ (call (Value.builtin "len") [Value.ref lw]) _ _ _); k_dflt (refine' kun_lenL (k := ((T.count ((0:Int) + (i:Int)) : Nat) : Int)) ?ln1 ?ln2 ?ln3 ?_; (case ln1 => exact News.isList (by k_asm) (List.Mem.head _)); (case ln2 => rw [List.size_toArray, hwl]); (case ln3 => ((have q9 := List.count_le_length (a := (0:Int) + (i:Int)) (l := T)); omega)); k_whole))
  k_with "my div" => ((with_reducible show wpAny _ _ (binaryOp _ (Value.int _ _) (Value.int _ _)) _ _ _); k_dflt (refine' div_small ?vA ?va ?vb ?vf ?_); (case vA => k_dflt rfl); (case va => omega); (case vb => omega); (case vf => omega))
  k_with "my call" => ((with_reducible show wpAny _ _ (call (Value.ref 105) _) _ _ _); k_dflt (refine' wpAny_up (c_count w _ _ _ _ ld dv _ _ _ _ _ _ _ _ _ _ _ _ _ _ _ _ _ _ _ _ ?yB ?yF ?yX ?yN ?yT ?yK ?yD ?yU ?y0 ?y1 ?y2 ?y3 ?yR)); (case yB => k_dflt k_asm); (case yF => k_dflt k_asm); (case yX => k_dflt k_asm); (case yN => k_dflt k_asm); (case yT => k_dflt k_asm); (case yK => exact rfl); (case yD => ktr_room); (case yU => ktr_units); (case y0 => k_dflt (repeat (first | exact List.Mem.head _ | apply List.Mem.tail))); (case y1 => exact ty_ne hTK (by clear hnext; dsimp only at *; omega)); (case y2 => exact told_ne hD (by clear hnext; dsimp only at *; omega)); (case y3 => omega); intro h9 tk9 t9 F9 N9 hup9; dsimp only at hup9; (try rw [hcA]); (try rw [hcB]))
  k_with "my call" => (clear on2; (with_reducible show wpAny _ _ (call (Value.ref 105) _) _ _ _); k_dflt (refine' wpAny_up (c_count w _ _ _ _ ld dv _ _ _ _ _ _ _ _ _ _ _ _ _ _ _ _ _ _ _ _ ?zB ?zF ?zX ?zN ?zT ?zK ?zD ?zU ?z0 ?z1 ?z2 ?z3 ?zR)); (case zB => k_dflt k_asm); (case zF => k_dflt k_asm); (case zX => k_dflt k_asm); (case zN => k_dflt k_asm); (case zT => k_dflt k_asm); (case zK => exact rfl); (case zD => ktr_room); (case zU => ktr_units); (case z0 => k_dflt (repeat (first | exact List.Mem.head _ | apply List.Mem.tail))); (case z1 => exact ty_ne hTK (by clear hnext; dsimp only at *; omega)); (case z2 => exact told_ne hD (by clear hnext; dsimp only at *; omega)); (case z3 => omega); intro h9 tk9 t9 F9 N9 hup9; dsimp only at hup9; (try rw [hcA]); (try rw [hcB]))
  k_steps
  all_goals try (first | exact eltP (by assumption) (by assumption) (by rw [List.length_append]; exact cnt_yes hx9k hR9 (by assumption)) | exact eltP (by assumption) (by assumption) (cnt_no hx9k hR9 (by assumption)))
  case' done =>
    unfold Stop
    refine' hnext _ _ _ o _ hod ?F (cell2 N')
    case F => (refine' fr_kst ?_ F'; exact allC (by rfl) (allC (by rfl) (allC (by rfl) (all1 (by rfl)))))
  all_goals first
    | exact absurd rfl (by assumption)
    | ((rename Fr _ _ _ _ => lF'); (rename News _ _ _ _ => lN'); refine' endG () lF' lN' ⟨?pa, ?pb⟩ (fun p hp => by simp only [List.mem_cons, List.not_mem_nil, or_false] at hp ⊢; rcases hp with h | h | h | h | h | h <;> simp [h]) (fun p hp => by simp only [List.mem_cons] at hp ⊢; rcases hp with h | h <;> simp [h]) hoff allN ?pc; (case pa => clear hnext; dsimp only at *; omega); (case pb => omega); (case pc => (intro z h1 h2 h3; have q1 := ncont h3 (List.Mem.head _); simp only [h1, q1, h3, if_false, kstB, Bool.false_eq_true])))

end Mine
end
section
open PySem PySem.W PyProof.Rows PySem.Flt
namespace Mine
theorem topOffTd : True := by
  w_top off
  trivial
theorem far_fin {tv ys : List Value} {T : List Int} {wh : Int} (h : IntsAre tv T) (hn : IntsAre ys ((T.take tv.toArray.size).map (far wh))) : IntsAre ys (T.map (far wh)) := by
  rw [List.size_toArray, h.length, List.take_length] at hn; exact hn
theorem far_push {ys : List Value} {T : List Int} {k : Nat} {x y wh : Int} {t : Tok} (h : IntsAre ys ((T.take k).map (far wh))) (hx : T[k]? = some x) (e : y = far wh x) : IntsAre (ys ++ [.int y t]) ((T.take (k + 1)).map (far wh)) := by
  rw [List.take_add_one, hx, List.map_append]; subst e; exact intsAre_push h
set_option maxRecDepth 100000 in
set_option maxHeartbeats 1000000 in
set_option pp.deepTerms false in
set_option pp.deepTerms.threshold 5 in
theorem c_tD (w : World) (mean : ExcName → Option Value) (mg mb : Str → Option Value) (hn sh : Nat) (T : List Int) (lf ld lt : Addr) (fv dv tv : List Value) (fn dn tn : Nat) (oU oS oW oH : Obj) (uv : Option Value) (tS tW tH apt : Tok) (ap : Int) :
  ∀ (dp un : Nat) (gd : Option (List Code)) (outer : List Env) (A₀ : Around) (base h₀ : Heap) (L fa : Addr) (cd : Value) (m : Str → Option Value) (s : Shared) (Q : Flow → Shared → Prop) (E : Value → Shared → Prop)
  (_ : Below A₀ base outer h₀) (_ : Fr h₀ L s.heap (kstB m [(Str.ofString "turns", .ref lt), (Str.ofString "told", .ref ld), (Str.ofString "fars", .ref lf), (Str.ofString "apart", .int ap apt)])) (_ : (Mine.hd.heap_1 w.params).In h₀) (_ : News h₀ L s.heap [(lf, listOf fv.toArray fn), (ld, listOf dv.toArray dn), (lt, listOf tv.toArray tn), (L + 1 + 1 + 1 + 1, oU), (L + 1 + 1 + 1, oS), (L + 1 + 1, oW), (L + 1, oH)]) (_ : Top Mine.hdview (looseW Mine.hdview []) mean mg mb h₀)
  (_ : dp + 20 < recursionLimit) (_ : un + 100 < cLine) (_ : 1 ≤ hn) (_ : hn ≤ 4) (_ : 1 ≤ sh) (_ : sh ≤ 15) (_ : oU.data = .cell uv) (_ : oS.data = .cell (some (.int (sh : Int) tS))) (_ : oW.data = .cell (some (.int (2 * (hn : Int)) tW))) (_ : oH.data = .cell (some (.int (hn : Int) tH))) (_ : @LT.lt Nat _ (L + 1 + 1 + 1 + 1) lt) (_ : @LT.lt Nat _ lt ld) (_ : @LT.lt Nat _ ld lf) (_ : IntsAre tv T) (_ : IntsAre fv (T.map (far (2 * (hn : Int))))) (_ : T.length ≤ 30) (_ : ∀ t ∈ T, 0 ≤ t ∧ t < 2 * (hn : Int)) (_ : ap = (hn : Int) * (16 - (sh : Int)))
  (_ : PassesOwn (model PySem.Challenge.rw_sw0044_01.row.prog w) (ktrTop dp un gd (Str.ofString "law") (scopeAt (Mine.hd.heap_1 w.params) 157) L fa cd (cellsFrom (L + 1) (scopeAt (Mine.hd.heap_1 w.params) 157).names []) outer) (envOfC (Str.ofString "law") (scopeAt (Mine.hd.heap_1 w.params) 157) L fa cd) E)
  (_ : ∀ (h' : Heap) (tk' : Nat) (m' : Loc), Fr h₀ L h' m' → Q (.ret (.bool true)) { s with heap := h', toks := tk' }),
  wpAny (model PySem.Challenge.rw_sw0044_01.row.prog w) (ktrTop dp un gd (Str.ofString "law") (scopeAt (Mine.hd.heap_1 w.params) 157) L fa cd (cellsFrom (L + 1) (scopeAt (Mine.hd.heap_1 w.params) 157).names []) outer) (execs ((bodyAt (Mine.hd.heap_1 w.params) 157).drop 24) (envOfC (Str.ofString "law") (scopeAt (Mine.hd.heap_1 w.params) 157) L fa cd)) Q E s := by
  k_fill
  intro dp un gd outer A₀ base h₀ L fa cd m s Q E kB kF kX kN kT kD kU hn1 hn4 hs1 hs15 hdU hdS hdW hdH hLt htd hdf hT hFr hTl hTb hap hE hnext
  k_with_none
  k_with "CompSrcT" => (k_extra "my src")
  k_with "CompSrc" => (k_extra "my src")
  k_with "compareOp Eq ref ref" => (k_extra "my cmp")
  k_with "execs cons" => ((rename Fr _ _ _ _ => gF'); (fail_if_success (with_reducible have gK : Fr _ _ _ (kstB _ _) := gF')); (with_reducible (first | replace gF' := fr_f1 gF' | replace gF' := fr_f2 gF' | replace gF' := fr_f3 gF' | replace gF' := fr_f4 gF' | replace gF' := fr_b6 gF' | replace gF' := fr_b5 gF' | replace gF' := fr_b4 gF' | replace gF' := fr_b3 gF' | replace gF' := fr_b2 gF' | replace gF' := fr_b1 gF')))
  generalize hsc : scopeAt (Mine.hd.heap_1 w.params) 157 = sc at hE hnext ⊢
  conv at hsc => lhs; whnf
  subst hsc
  conv in (List.drop _ _) => whnf
  have hMk := kstMark
  have htvl := hT.length
  have hfvl := hFr.length
  rw [List.length_map] at hfvl
  k_with "my src" => ((with_reducible show LCt.CompSrcT _ _ _ _ _ _ _ _ _ (Str.ofString "far") _ _ _ _ _); k_dflt (refine LCt.CompSrcT.ledger (by rfl) (by k_asm) (by k_asm) (by repeat (first | exact List.Mem.head _ | apply List.Mem.tail)) (by exact size_small hfvl (by omega)) ?_); intro g9; k_dflt (refine' comp_restT (fun k ys => ys = []) ?srcS rfl ?wturn ?wfin); (case srcS => k_dflt (exact Or.inr ⟨_, (by repeat (first | exact List.Mem.head _ | apply List.Mem.tail)), rfl, _, rfl⟩)); (case' wturn => intro k v ys I9 oI9 C9 oC9 D9 m9 h9 tk9 E9 hk9 hv9 hR9 hC9 hx9 F' N'; subst hR9; obtain ⟨xv9, tv9, rfl, hx9k⟩ := tn_at hFr hv9); (case' wfin => intro wv hwv; subst hwv; unfold LCg.FinE; intro lw h9 tk9 F' N' o9; simp only [LCg.Off1] at o9))
  k_with "my src" => ((with_reducible show LCg.CompSrc _ _ _ _ _ _ _ _ (Str.ofString "one") _ _ _ _ _); k_dflt (refine LCg.CompSrc.ledger (by rfl) (by k_asm) (by k_asm) (by repeat (first | exact List.Mem.head _ | apply List.Mem.tail)) (by exact size_small htvl (by omega)) ?_); intro g9; k_dflt (refine' comp_rest (fun k ys => IntsAre ys ((T.take k).map (far (2 * (hn : Int))))) ?srcS1 .nil ?wturn1 ?wfin1); (case srcS1 => k_dflt (exact Or.inr ⟨_, (by repeat (first | exact List.Mem.head _ | apply List.Mem.tail)), rfl, _, rfl⟩)); (case' wturn1 => intro k v ys I9 oI9 C9 oC9 D9 m9 h9 tk9 E9 hk9 hv9 hR9 hC9 hx9 F' N'; obtain ⟨xv9, tv9, rfl, hx9k⟩ := tn_at hT hv9; have hb9 := hTb _ (List.mem_of_getElem? hx9k)); (case' wfin1 => intro wv hwv; (have hwv := far_fin hT hwv); unfold LCg.FinE; intro lw h9 tk9 F' N' o9; simp only [LCg.Off1] at o9))
  k_steps
  all_goals first
    | exact absurd hap (by assumption)
    | exact eltP (by assumption) (by assumption) (by trivial)
    | exact eltP (by assumption) (by assumption) (far_push hR9 hx9k (by unfold Mine.far; split <;> omega))
    | exact hnext _ _ _ (by assumption)

end Mine
end
section
open PySem PySem.W PyProof.Rows PySem.Flt
namespace Mine
noncomputable def dN (p k : Nat) : Nat := p / 2 ^ k % 2
theorem dg_dN (p k : Nat) : dg p k = (dN p k : Int) := rfl
theorem dN_le (p k : Nat) : dN p k ≤ 1 := by unfold dN; omega
noncomputable def oddN (a b c d p : Nat) : Nat := (dN p a * dN p b + dN p b * dN p c + dN p c * dN p d) % 2
noncomputable def codN (a b c d e x p q : Nat) : Nat :=
  ((dN p 0 + 1 - dN q 0) + 3 * (dN p 1 + 1 - dN q 1) + 9 * (dN p 2 + 1 - dN q 2) + 27 * (dN p 3 + 1 - dN q 3)) * 2 + (oddN a b c d p + oddN a b c d q + x * (dN p e + dN q e)) % 2
noncomputable def sgN (a b c d e sh : Nat) : List Nat := (List.range (16 - sh)).map (fun i => codN a b c d e 0 i (i + sh)) ++ (List.range (16 - sh)).map (fun i => codN a b c d e 1 i (i + sh))
noncomputable def flipN (c : Nat) : Nat := c + 1 - 2 * (c % 2)
noncomputable def chkN (a b c d e sh : Nat) : Bool := ((sgN a b c d e sh).map flipN).isPerm (sgN a b c d e sh)
noncomputable def chkP (p : Nat × Nat × Nat × Nat) : Bool := (List.range 15).all fun s => chkN p.1 p.2.1 p.2.2.1 p.2.2.2 p.1 (s + 1) && chkN p.1 p.2.1 p.2.2.1 p.2.2.2 p.2.2.2 (s + 1)
noncomputable def ordN (n : Nat) : Nat × Nat × Nat × Nat := ((ordF (n : Int) 0).toNat, (ordF (n : Int) 1).toNat, (ordF (n : Int) 2).toNat, (ordF (n : Int) 3).toNat)
theorem chk0 : chkP (ordN 0) = true := by decide +kernel
theorem chk1 : chkP (ordN 1) = true := by decide +kernel
theorem chk2 : chkP (ordN 2) = true := by decide +kernel
theorem chk3 : chkP (ordN 3) = true := by decide +kernel
theorem chk4 : chkP (ordN 4) = true := by decide +kernel
theorem chk5 : chkP (ordN 5) = true := by decide +kernel
theorem chk6 : chkP (ordN 6) = true := by decide +kernel
theorem chk7 : chkP (ordN 7) = true := by decide +kernel
theorem chk8 : chkP (ordN 8) = true := by decide +kernel
theorem chk9 : chkP (ordN 9) = true := by decide +kernel
theorem chk10 : chkP (ordN 10) = true := by decide +kernel
theorem chk11 : chkP (ordN 11) = true := by decide +kernel
theorem chk12 : chkP (ordN 12) = true := by decide +kernel
theorem chk13 : chkP (ordN 13) = true := by decide +kernel
theorem chk14 : chkP (ordN 14) = true := by decide +kernel
theorem chk15 : chkP (ordN 15) = true := by decide +kernel
theorem chk16 : chkP (ordN 16) = true := by decide +kernel
theorem chk17 : chkP (ordN 17) = true := by decide +kernel
theorem chk18 : chkP (ordN 18) = true := by decide +kernel
theorem chk19 : chkP (ordN 19) = true := by decide +kernel
theorem chk20 : chkP (ordN 20) = true := by decide +kernel
theorem chk21 : chkP (ordN 21) = true := by decide +kernel
theorem chk22 : chkP (ordN 22) = true := by decide +kernel
theorem chk23 : chkP (ordN 23) = true := by decide +kernel
theorem chkAll : ∀ n, n < 24 → chkP (ordN n) = true
  | 0, _ => chk0
  | 1, _ => chk1
  | 2, _ => chk2
  | 3, _ => chk3
  | 4, _ => chk4
  | 5, _ => chk5
  | 6, _ => chk6
  | 7, _ => chk7
  | 8, _ => chk8
  | 9, _ => chk9
  | 10, _ => chk10
  | 11, _ => chk11
  | 12, _ => chk12
  | 13, _ => chk13
  | 14, _ => chk14
  | 15, _ => chk15
  | 16, _ => chk16
  | 17, _ => chk17
  | 18, _ => chk18
  | 19, _ => chk19
  | 20, _ => chk20
  | 21, _ => chk21
  | 22, _ => chk22
  | 23, _ => chk23
  | n + 24, h => absurd h (by omega)
theorem perm_of {n e sh : Nat} (hn : n < 24) (h1 : 1 ≤ sh) (h2 : sh ≤ 15) (he : e = (ordN n).1 ∨ e = (ordN n).2.2.2) :
    ((sgN (ordN n).1 (ordN n).2.1 (ordN n).2.2.1 (ordN n).2.2.2 e sh).map flipN).Perm (sgN (ordN n).1 (ordN n).2.1 (ordN n).2.2.1 (ordN n).2.2.2 e sh) := by
  have h := chkAll n hn
  unfold chkP at h
  rw [List.all_eq_true] at h
  have h := h (sh - 1) (List.mem_range.mpr (by omega))
  rw [Bool.and_eq_true, show sh - 1 + 1 = sh by omega] at h
  unfold chkN at h
  rcases he with rfl | rfl
  · exact List.isPerm_iff.mp h.1
  · exact List.isPerm_iff.mp h.2
theorem bits2 {x y : Int} (hx : 0 ≤ x ∧ x ≤ 1) (hy : 0 ≤ y ∧ y ≤ 1) : Builtin.bitAnd x y = x * y ∧ Builtin.bitXor x y = x + y - 2 * (x * y) := by
  rcases bit01 hx with rfl | rfl <;> rcases bit01 hy with rfl | rfl <;> decide
theorem odd_eq (o : Nat → Int) (p : Nat) : oddF o p 3 = (oddN (o 0).toNat (o 1).toNat (o 2).toNat (o 3).toNat p : Int) := by
  have e : ∀ k, oddF o p (k + 1) = Builtin.bitXor (oddF o p k) (Builtin.bitAnd (dg p (o k).toNat) (dg p (o (k + 1)).toNat)) := fun _ => rfl
  rw [e, e, e]
  show Builtin.bitXor (Builtin.bitXor (Builtin.bitXor 0 _) _) _ = _
  unfold oddN
  rw [dg_dN, dg_dN, dg_dN, dg_dN]
  have a0 := dN_le p (o 0).toNat
  have a1 := dN_le p (o 1).toNat
  have a2 := dN_le p (o 2).toNat
  have a3 := dN_le p (o 3).toNat
  generalize dN p (o 0).toNat = x0 at *
  generalize dN p (o 1).toNat = x1 at *
  generalize dN p (o (1 + 1)).toNat = x2 at *
  generalize dN p (o (2 + 1)).toNat = x3 at *
  rcases (by omega : x0 = 0 ∨ x0 = 1) with rfl | rfl <;> rcases (by omega : x1 = 0 ∨ x1 = 1) with rfl | rfl <;> rcases (by omega : x2 = 0 ∨ x2 = 1) with rfl | rfl <;> rcases (by omega : x3 = 0 ∨ x3 = 1) with rfl | rfl <;> decide
noncomputable def gC (wt : Nat → Int) (hn : Int) (c : Nat) : Int :=
  (wt 0 * (((c / 2 % 3 : Nat) : Int) - 1) + wt 1 * (((c / 6 % 3 : Nat) : Int) - 1) + wt 2 * (((c / 18 % 3 : Nat) : Int) - 1) + wt 3 * (((c / 54 % 3 : Nat) : Int) - 1) + hn * ((c % 2 : Nat) : Int)).fmod (2 * hn)
theorem qm {r k m : Nat} (h : r < m) : (r + m * k) / m = k ∧ (r + m * k) % m = r :=
  ⟨by rw [Nat.add_mul_div_left _ _ (Nat.lt_of_le_of_lt (Nat.zero_le _) h), Nat.div_eq_of_lt h, Nat.zero_add], by rw [Nat.add_mul_mod_self_left, Nat.mod_eq_of_lt h]⟩
theorem sub_one {x y : Nat} (h : y ≤ 1) : ((x + 1 - y : Nat) : Int) - 1 = (x : Int) - (y : Int) := by omega
theorem lt3 {x y : Nat} (h : x ≤ 1) : x + 1 - y < 3 := Nat.lt_of_le_of_lt (Nat.sub_le _ _) (Nat.succ_lt_succ (Nat.lt_succ_of_le h))
theorem div6 (c : Nat) : c / 6 = c / 2 / 3 := (Nat.div_div_eq_div_mul c 2 3).symm
theorem div18 (c : Nat) : c / 18 = c / 2 / 3 / 3 := by rw [Nat.div_div_eq_div_mul, Nat.div_div_eq_div_mul]
theorem div54 (c : Nat) : c / 54 = c / 2 / 3 / 3 / 3 := by rw [Nat.div_div_eq_div_mul, Nat.div_div_eq_div_mul, Nat.div_div_eq_div_mul]
theorem nest4 (u0 u1 u2 u3 r : Nat) : (u0 + 3 * u1 + 9 * u2 + 27 * u3) * 2 + r = r + 2 * (u0 + 3 * (u1 + 3 * (u2 + 3 * u3))) := by omega
theorem cod_split {a b c d e x p q : Nat} : ∀ C, C = codN a b c d e x p q → ((C / 2 % 3 : Nat) : Int) - 1 = dg p 0 - dg q 0 ∧ ((C / 6 % 3 : Nat) : Int) - 1 = dg p 1 - dg q 1 ∧ ((C / 18 % 3 : Nat) : Int) - 1 = dg p 2 - dg q 2 ∧ ((C / 54 % 3 : Nat) : Int) - 1 = dg p 3 - dg q 3 ∧ C % 2 = (oddN a b c d p + oddN a b c d q + x * (dN p e + dN q e)) % 2 := by
  rintro C rfl
  unfold codN
  generalize (oddN a b c d p + oddN a b c d q + x * (dN p e + dN q e)) = z
  rw [nest4, div6, div18, div54, (qm (Nat.mod_lt z (Nat.succ_pos 1))).1, (qm (Nat.mod_lt z (Nat.succ_pos 1))).2, (qm (lt3 (dN_le p 0))).1, (qm (lt3 (dN_le p 0))).2, (qm (lt3 (dN_le p 1))).1, (qm (lt3 (dN_le p 1))).2, (qm (lt3 (dN_le p 2))).1, (qm (lt3 (dN_le p 2))).2, Nat.mod_eq_of_lt (lt3 (dN_le p 3))]
  exact ⟨sub_one (dN_le q 0), sub_one (dN_le q 1), sub_one (dN_le q 2), sub_one (dN_le q 3), rfl⟩
theorem fmod_shift {X hn m k : Int} (h : k = m + 2 * (X)) (Y : Int) : (Y + hn * k).fmod (2 * hn) = (Y + hn * m).fmod (2 * hn) := by
  rw [h, show Y + hn * (m + 2 * X) = (Y + hn * m) + (2 * hn) * X by rw [Int.mul_add, Int.mul_comm 2 hn, Int.mul_assoc]; omega]
  exact Int.add_mul_fmod_self_left ..
theorem row1_sub (o wt : Nat → Int) (hn bg : Int) (p q : Nat) : row1 o wt hn bg p - row1 o wt hn bg q = (wt 0 * (dg p 0 - dg q 0) + wt 1 * (dg p 1 - dg q 1) + wt 2 * (dg p 2 - dg q 2) + wt 3 * (dg p 3 - dg q 3)) + hn * (oddF o p 3 - oddF o q 3) := by
  have e : ∀ b p, valF wt b p 4 = b + wt 0 * dg p 0 + wt 1 * dg p 1 + wt 2 * dg p 2 + wt 3 * dg p 3 := fun b p => rfl
  unfold row1
  rw [e, e]
  simp only [Int.mul_sub]
  omega
theorem oddN_le (a b c d p : Nat) : oddN a b c d p ≤ 1 := by unfold oddN; omega
theorem tn1 (o wt : Nat → Int) (hn bg : Int) (e : Nat) (p q : Nat) : (row1 o wt hn bg p - row1 o wt hn bg q).fmod (2 * hn) = gC wt hn (codN (o 0).toNat (o 1).toNat (o 2).toNat (o 3).toNat e 0 p q) := by
  obtain ⟨h0, h1, h2, h3, h4⟩ := cod_split _ (rfl : codN (o 0).toNat (o 1).toNat (o 2).toNat (o 3).toNat e 0 p q = _)
  unfold gC
  rw [h0, h1, h2, h3, row1_sub, odd_eq, odd_eq, h4]
  have b1 := oddN_le (o 0).toNat (o 1).toNat (o 2).toNat (o 3).toNat p
  have b2 := oddN_le (o 0).toNat (o 1).toNat (o 2).toNat (o 3).toNat q
  generalize oddN (o 0).toNat (o 1).toNat (o 2).toNat (o 3).toNat p = x at *
  generalize oddN (o 0).toNat (o 1).toNat (o 2).toNat (o 3).toNat q = y at *
  rcases (by omega : x = 0 ∨ x = 1) with rfl | rfl <;> rcases (by omega : y = 0 ∨ y = 1) with rfl | rfl
  · exact fmod_shift (X := 0) (by simp) _
  · exact fmod_shift (X := -1) (by simp) _
  · exact fmod_shift (X := 0) (by simp) _
  · exact fmod_shift (X := 0) (by simp) _
theorem tn2 (o wt : Nat → Int) (hn bg lift en : Int) (p q : Nat) : (row2 o wt hn bg lift en p - row2 o wt hn bg lift en q).fmod (2 * hn) = gC wt hn (codN (o 0).toNat (o 1).toNat (o 2).toNat (o 3).toNat en.toNat 1 p q) := by
  obtain ⟨h0, h1, h2, h3, h4⟩ := cod_split _ (rfl : codN (o 0).toNat (o 1).toNat (o 2).toNat (o 3).toNat en.toNat 1 p q = _)
  unfold gC
  have e : row2 o wt hn bg lift en p - row2 o wt hn bg lift en q = (wt 0 * (dg p 0 - dg q 0) + wt 1 * (dg p 1 - dg q 1) + wt 2 * (dg p 2 - dg q 2) + wt 3 * (dg p 3 - dg q 3)) + hn * (oddF o p 3 - oddF o q 3 + dg p en.toNat - dg q en.toNat) := by
    have h := row1_sub o wt hn bg p q
    unfold row2
    simp only [Int.mul_sub, Int.mul_add] at h ⊢
    omega
  rw [h0, h1, h2, h3, e, odd_eq, odd_eq, h4, dg_dN p en.toNat, dg_dN q en.toNat]
  have b1 := oddN_le (o 0).toNat (o 1).toNat (o 2).toNat (o 3).toNat p
  have b2 := oddN_le (o 0).toNat (o 1).toNat (o 2).toNat (o 3).toNat q
  have b3 := dN_le p en.toNat
  have b4 := dN_le q en.toNat
  generalize oddN (o 0).toNat (o 1).toNat (o 2).toNat (o 3).toNat p = x at *
  generalize oddN (o 0).toNat (o 1).toNat (o 2).toNat (o 3).toNat q = y at *
  generalize dN p en.toNat = u at *
  generalize dN q en.toNat = v at *
  generalize (wt 0 * (dg p 0 - dg q 0) + wt 1 * (dg p 1 - dg q 1) + wt 2 * (dg p 2 - dg q 2) + wt 3 * (dg p 3 - dg q 3)) = Y
  rcases (by omega : x = 0 ∨ x = 1) with rfl | rfl <;> rcases (by omega : y = 0 ∨ y = 1) with rfl | rfl <;> rcases (by omega : u = 0 ∨ u = 1) with rfl | rfl <;> rcases (by omega : v = 0 ∨ v = 1) with rfl | rfl <;>
    first
    | exact fmod_shift (X := 0) (by decide) _
    | exact fmod_shift (X := -1) (by decide) _
    | exact fmod_shift (X := 1) (by decide) _
noncomputable def oppF (hn t : Int) : Int := (t + hn).fmod (2 * hn)
theorem g_flip (wt : Nat → Int) (hn : Int) (c : Nat) : gC wt hn (flipN c) = oppF hn (gC wt hn c) := by
  unfold gC oppF flipN
  have e0 : (c + 1 - 2 * (c % 2)) / 2 = c / 2 := by omega
  have e1 : (c + 1 - 2 * (c % 2)) / 6 = c / 6 := by rw [div6, div6, e0]
  have e2 : (c + 1 - 2 * (c % 2)) / 18 = c / 18 := by rw [div18, div18, e0]
  have e3 : (c + 1 - 2 * (c % 2)) / 54 = c / 54 := by rw [div54, div54, e0]
  have e4 : (c + 1 - 2 * (c % 2)) % 2 = 1 - c % 2 := by omega
  rw [e0, e1, e2, e3, e4, Int.fmod_add_fmod]
  generalize wt 0 * _ + _ + _ + _ = Y
  rcases (by omega : c % 2 = 0 ∨ c % 2 = 1) with h | h <;> rw [h]
  · rw [Int.add_assoc]
    exact congrArg (fun z => Int.fmod (Y + z) (2 * hn)) (by simp)
  · rw [Int.add_assoc, show hn * ((1 : Nat) : Int) + hn = hn * 2 by omega]
    exact (fmod_shift (X := 1) (m := 0) (by decide) Y).symm
theorem rows_sig {o wt : Nat → Int} {hn bg lift en : Int} {sh : Nat} {r1 r2 : Nat → Int} (h1 : r1 = row1 o wt hn bg) (h2 : r2 = row2 o wt hn bg lift en) :
    preT (2 * hn) sh r1 r2 (16 - sh) 2 = (sgN (o 0).toNat (o 1).toNat (o 2).toNat (o 3).toNat en.toNat sh).map (gC wt hn) := by
  show ([] ++ rowT (2 * hn) sh r1 (16 - sh)) ++ rowT (2 * hn) sh r2 (16 - sh) = _
  subst h1 h2
  unfold sgN rowT
  rw [List.nil_append, List.map_append, List.map_map, List.map_map]
  congr 1
  · exact List.map_congr_left fun i _ => tn1 o wt hn bg en.toNat i (i + sh)
  · exact List.map_congr_left fun i _ => tn2 o wt hn bg lift en i (i + sh)
structure Gol (hn : Int) (sh : Nat) (T : List Int) : Prop where
  perm : (T.map (oppF hn)).Perm T
  len : T.length = 2 * (16 - sh)
  bd : ∀ t ∈ T, 0 ≤ t ∧ t < 2 * hn
theorem golay {wt : Nat → Int} {hn bg lift k : Int} {en : Int} {sh : Nat} (hh : 1 ≤ hn) (k0 : 0 ≤ k) (k1 : k < 24) (he : en = ordF k 0 ∨ en = ordF k 3) (s1 : 1 ≤ sh) (s2 : sh ≤ 15) :
    Gol hn sh (preT (2 * hn) sh (row1 (ordF k) wt hn bg) (row2 (ordF k) wt hn bg lift en) (16 - sh) 2) := by
  obtain ⟨n, rfl⟩ : ∃ n : Nat, k = (n : Int) := ⟨k.toNat, by omega⟩
  have hp := perm_of (n := n) (e := en.toNat) (by omega) s1 s2 (he.elim (fun h => .inl (by rw [h]; rfl)) (fun h => .inr (by rw [h]; rfl)))
  rw [rows_sig rfl rfl]
  refine ⟨?_, ?_, ?_⟩
  · rw [List.map_map, show (oppF hn ∘ gC wt hn) = gC wt hn ∘ flipN from funext fun c => (g_flip wt hn c).symm, ← List.map_map]
    exact List.Perm.map _ hp
  · unfold sgN; simp; omega
  · intro t ht
    obtain ⟨c, _, rfl⟩ := List.mem_map.mp ht
    exact ⟨Int.fmod_nonneg_of_pos _ (by omega), Int.fmod_lt_of_pos _ (by omega)⟩
theorem opp_lo {hn t : Int} (h0 : 0 ≤ t) (h1 : t < hn) : oppF hn t = t + hn := Int.fmod_eq_of_lt (by omega) (by omega)
theorem opp_hi {hn t : Int} (h0 : hn ≤ t) (h1 : t < 2 * hn) : oppF hn t = t - hn := by
  unfold oppF
  rw [show t + hn = (t - hn) + 2 * hn * 1 by omega, Int.add_mul_fmod_self_left]
  exact Int.fmod_eq_of_lt (by omega) (by omega)
theorem opp_opp {hn t : Int} (h0 : 0 ≤ t) (h1 : t < 2 * hn) : oppF hn (oppF hn t) = t := by
  rcases Int.lt_or_le t hn with h | h
  · rw [opp_lo h0 h, opp_hi (by omega) (by omega)]; omega
  · rw [opp_hi h h1, opp_lo (by omega) (by omega)]; omega
theorem count_map_inv {f : Int → Int} {P : Int → Prop} (hi : ∀ t, P t → f (f t) = t) : ∀ (T : List Int) (x : Int), P x → (∀ t ∈ T, P t) → (T.map f).count (f x) = T.count x
  | [], _, _, _ => rfl
  | a :: T, x, hx, hT => by
    rw [List.map_cons, List.count_cons, List.count_cons, count_map_inv hi T x hx fun t ht => hT t (.tail _ ht)]
    congr 1
    have : (f a == f x) = (a == x) := by
      rw [Bool.eq_iff_iff, beq_iff_eq, beq_iff_eq]
      exact ⟨fun h => by rw [← hi a (hT a (.head _)), h, hi x hx], fun h => by rw [h]⟩
    rw [this]
theorem Gol.count {hn : Int} {sh : Nat} {T : List Int} (g : Gol hn sh T) {t : Int} (h0 : 0 ≤ t) (h1 : t < hn) : T.count (t + hn) = T.count t := by
  have h := count_map_inv (f := oppF hn) (P := fun t => 0 ≤ t ∧ t < 2 * hn) (fun t h => opp_opp h.1 h.2) T t ⟨h0, by omega⟩ g.bd
  rw [opp_lo h0 h1] at h
  rw [← h]
  exact (g.perm.count_eq _).symm
theorem sum_pair {f g : Int → Int} {C : Int} : ∀ (T : List Int), (∀ t ∈ T, f t + f (g t) = C) → (T.map f).sum + ((T.map g).map f).sum = C * (T.length : Int)
  | [], _ => by simp
  | a :: T, h => by
    have e := sum_pair T fun t ht => h t (.tail _ ht)
    have e2 := h a (.head _)
    simp only [List.map_cons, List.sum_cons, List.length_cons, Int.natCast_add, Int.mul_add]
    have e3 : C * ((1 : Nat) : Int) = C := by simp
    rw [e3]
    omega
theorem perm_sum {S T : List Int} (h : S.Perm T) : S.sum = T.sum := by
  induction h with
  | nil => rfl
  | cons x _ ih => simp only [List.sum_cons, ih]
  | swap x y l => simp only [List.sum_cons]; omega
  | trans _ _ a b => exact a.trans b
theorem Gol.sum {hn : Int} {sh : Nat} {T : List Int} (g : Gol hn sh T) {f : Int → Int} {C : Int} (h : ∀ t, 0 ≤ t → t < hn → f t + f (t + hn) = C) (hsh : sh ≤ 15) : (T.map f).sum = C * ((16 - sh : Nat) : Int) := by
  have h1 := sum_pair (f := f) (g := oppF hn) (C := C) T fun t ht => by
    have hb := g.bd t ht
    rcases Int.lt_or_le t hn with hl | hl
    · rw [opp_lo hb.1 hl]; exact h t hb.1 hl
    · rw [opp_hi hl hb.2]
      have := h (t - hn) (by omega) (by omega)
      rw [show t - hn + hn = t by omega] at this
      omega
  have h2 : ((T.map (oppF hn)).map f).sum = (T.map f).sum := perm_sum (g.perm.map f)
  rw [h2, g.len] at h1
  rw [Int.natCast_mul, show C * (((2 : Nat) : Int) * ((16 - sh : Nat) : Int)) = 2 * (C * ((16 - sh : Nat) : Int)) by rw [← Int.mul_assoc, Int.mul_comm C, Int.mul_assoc]; rfl] at h1
  omega
theorem Gol.far {hn : Int} {sh : Nat} {T : List Int} (g : Gol hn sh T) (hsh : sh ≤ 15) : (T.map (far (2 * hn))).sum = hn * ((16 - sh : Nat) : Int) :=
  g.sum (fun t h0 h1 => by unfold Mine.far; omega) hsh
end Mine
end
section
open PySem PySem.W PyProof.Rows PySem.Flt
set_option exponentiation.threshold 3000
namespace Mine
section
open PySem.Float64
theorem p1074 : (2 : Nat) ^ 1074 = 2 ^ 1068 * 64 := by decide +kernel
noncomputable def DF (n : Nat) : UInt64 := ofFrac false n 64
theorem exT {n : Nat} (h0 : n ≠ 0) (h : n < 2 ^ 53) : ∃ t, t < infMag ∧ V t = n * 2 ^ 1068 := by
  have hl : n.log2 < 53 := (Nat.log2_lt h0).mpr h
  have h1 : 2 ^ n.log2 ≤ n := Nat.log2_self_le h0
  have h2 : n < 2 ^ (n.log2 + 1) := Nat.lt_log2_self
  have hq1 : 2 ^ 52 ≤ n * 2 ^ (52 - n.log2) := by
    calc 2 ^ 52 = 2 ^ n.log2 * 2 ^ (52 - n.log2) := by rw [← Nat.pow_add]; congr 1; omega
      _ ≤ _ := Nat.mul_le_mul_right _ h1
  have hq2 : n * 2 ^ (52 - n.log2) < 2 ^ 53 := by
    calc n * 2 ^ (52 - n.log2) < 2 ^ (n.log2 + 1) * 2 ^ (52 - n.log2) := Nat.mul_lt_mul_of_pos_right h2 (Nat.two_pow_pos _)
      _ = 2 ^ 53 := by rw [← Nat.pow_add]; congr 1; omega
  refine ⟨(1016 + n.log2) * 2 ^ 52 + n * 2 ^ (52 - n.log2), ?_, ?_⟩
  · show _ < 2047 * 2 ^ 52
    omega
  · rw [V_at (by omega) (.inl hq1), Nat.mul_assoc, ← Nat.pow_add]
    congr 2
    omega
theorem exT' {n : Nat} (h : n < 2 ^ 53) : ∃ t, t < infMag ∧ V t = n * 2 ^ 1068 := by
  by_cases h0 : n = 0
  · subst h0; exact ⟨0, by decide, by unfold V; simp⟩
  · exact exT h0 h
theorem V_inj {a b : Nat} (h : V a = V b) : a = b := by
  rcases Nat.lt_trichotomy a b with q | q | q
  · have := V_lt q; omega
  · exact q
  · have := V_lt q; omega
theorem right_exact {r : UInt64} {neg : Bool} {W D t0 : Nat} (hD : 0 < D) (h : Right r neg W D) (hV : W = D * V t0) (ht : t0 < infMag) : r = pack neg t0 := by
  obtain ⟨t, rfl, hle, hov, hn⟩ := h
  have hlt : t < infMag := by
    rcases Nat.lt_or_ge t infMag with q | q
    · exact q
    · exfalso
      have e : t = infMag := Nat.le_antisymm hle q
      have h1 := hov.mp e
      subst hV
      have h2 : (2 ^ 54 - 1) * 2 ^ 2045 ≤ 2 * V t0 := by
        rcases Nat.lt_or_ge (2 * V t0) ((2 ^ 54 - 1) * 2 ^ 2045) with z | z
        · exfalso
          have := Nat.mul_lt_mul_of_pos_left z hD
          rw [show D * (2 * V t0) = 2 * (D * V t0) by ac_rfl] at this
          omega
        · exact z
      have h3 : V t0 ≤ V (infMag - 1) := V_mono (by omega)
      have h4 : V (infMag - 1) = (2 ^ 53 - 1) * 2 ^ 2045 := by decide +kernel
      have h5 : 2 * ((2 ^ 53 - 1) * 2 ^ 2045) < (2 ^ 54 - 1) * 2 ^ 2045 := by decide +kernel
      have h6 : 2 * V t0 < (2 ^ 54 - 1) * 2 ^ 2045 := Nat.lt_of_le_of_lt (Nat.mul_le_mul_left 2 (h4 ▸ h3)) h5
      exact absurd h2 (Nat.not_le.mpr h6)
  have hd := (hn hlt t0).1
  subst hV
  have e0 : dist (D * V t0) (D * V t0) = 0 := by unfold dist; omega
  rw [e0] at hd
  have e1 : D * V t0 = D * V t := by unfold dist at hd; omega
  rw [V_inj (Nat.eq_of_mul_eq_mul_left hD e1)]
theorem frac_exact {neg : Bool} {n d k : Nat} {r : UInt64} {W D : Nat} (h : Right r false W D) (hD : 0 < D) (hW : W = D * (n * 2 ^ 1068)) (hn : n < 2 ^ 53) : r = DF n := by
  obtain ⟨t, ht, hv⟩ := exT' hn
  have e1 := right_exact hD h (t0 := t) (by rw [hv]; exact hW) ht
  have e2 := right_exact (by decide) (ofFrac_right (neg := false) (n := n) (d := 64) (W := n * 2 ^ 1068) (D := 1) (by decide) (by rw [p1074]; generalize (2 : Nat) ^ 1068 = K; ac_rfl) (by decide)) (t0 := t) (by rw [hv]; omega) ht
  exact e1.trans e2.symm
theorem DF_dec {n : Nat} (hn : n < 2 ^ 53) : ∃ m e, decode (DF n) = .fin false m e ∧ m * 2 ^ (e + 1074).toNat = n * 2 ^ 1068 := by
  obtain ⟨t, ht, hv⟩ := exT' hn
  have e2 := right_exact (by decide) (ofFrac_right (neg := false) (n := n) (d := 64) (W := n * 2 ^ 1068) (D := 1) (by decide) (by rw [p1074]; generalize (2 : Nat) ^ 1068 = K; ac_rfl) (by decide)) (t0 := t) (by rw [hv]; omega) ht
  obtain ⟨m, e, hd, h2⟩ := decode_pack false ht
  exact ⟨m, e, by unfold DF; rw [e2]; exact hd, h2.trans hv⟩
theorem DF_val {n : Nat} (hn : n < 2 ^ 53) : val (DF n) = ((n * 2 ^ 1068 : Nat) : Int) := by
  obtain ⟨m, e, hd, h2⟩ := DF_dec hn
  rw [val_eq hd, h2]; rfl
theorem DF_zero : DF 0 = 0 := by decide +kernel
theorem frac_DF {K d c : Nat} (hd : 0 < d) (hc : d * c = 64) (hn : K * c < 2 ^ 53) : ofFrac false K d = DF (K * c) :=
  frac_exact (neg := false) (d := 1) (k := 0) (ofFrac_right (neg := false) (n := K) (d := d) (W := K * c * 2 ^ 1068) (D := 1) hd (by
    rw [p1074, ← hc]; generalize (2 : Nat) ^ 1068 = Z; ac_rfl) (by decide)) (by decide) (by omega) hn
theorem int_DF {k : Nat} (hn : k * 64 < 2 ^ 53) : ofInt (k : Int) = DF (k * 64) := by
  have e : decide ((k : Int) < 0) = false := decide_eq_false (by omega)
  unfold ofInt
  rw [e]
  exact frac_DF (d := 1) (by decide) (by decide) hn
theorem DF_add {a b : Nat} (hn : a + b < 2 ^ 53) : add (DF a) (DF b) = DF (a + b) := by
  obtain ⟨m, e, h1, h2⟩ := DF_dec (n := a) (by omega)
  obtain ⟨m', e', h1', h2'⟩ := DF_dec (n := b) (by omega)
  have h := add_right h1 h1'
  rw [DF_val (n := a) (by omega), DF_val (n := b) (by omega), ← Int.natCast_add, ← Nat.add_mul] at h
  by_cases h0 : a + b = 0
  · have ha : a = 0 := by omega
    have hb : b = 0 := by omega
    subst ha hb
    decide +kernel
  · have hne : (((a + b) * 2 ^ 1068 : Nat) : Int) ≠ 0 := by
      intro q
      have : (a + b) * 2 ^ 1068 = 0 := by exact_mod_cast q
      rcases Nat.mul_eq_zero.mp this with q | q
      · exact h0 q
      · exact absurd q (Nat.ne_of_gt (Nat.two_pow_pos _))
    have h := h.2 hne
    rw [show decide ((((a + b) * 2 ^ 1068 : Nat) : Int) < 0) = false from decide_eq_false (by omega), Int.natAbs_natCast] at h
    exact frac_exact (neg := false) (d := 1) (k := 0) h (by decide) (by omega) hn
theorem DF_sub {a b : Nat} (hn : a < 2 ^ 53) (hb : b ≤ a) : sub (DF a) (DF b) = DF (a - b) := by
  obtain ⟨m, e, h1, h2⟩ := DF_dec (n := a) (by omega)
  obtain ⟨m', e', h1', h2'⟩ := DF_dec (n := b) (by omega)
  have h := sub_right h1 h1'
  have ev : val (DF a) - val (DF b) = (((a - b) * 2 ^ 1068 : Nat) : Int) := by
    rw [DF_val (n := a) (by omega), DF_val (n := b) (by omega), Nat.sub_mul, Int.ofNat_sub (Nat.mul_le_mul_right _ hb)]
  rw [ev] at h
  by_cases h0 : a - b = 0
  · rw [h0] at h
    rw [h0, h.1 (by simp)]
    decide +kernel
  · have hne : (((a - b) * 2 ^ 1068 : Nat) : Int) ≠ 0 := by
      intro q
      have : (a - b) * 2 ^ 1068 = 0 := by exact_mod_cast q
      rcases Nat.mul_eq_zero.mp this with q | q
      · exact h0 q
      · exact absurd q (Nat.ne_of_gt (Nat.two_pow_pos _))
    have h := h.2 hne
    rw [show decide ((((a - b) * 2 ^ 1068 : Nat) : Int) < 0) = false from decide_eq_false (by omega), Int.natAbs_natCast] at h
    exact frac_exact (neg := false) (d := 1) (k := 0) h (by decide) (by omega) (by omega)
theorem six_eq : (0x4018000000000000 : UInt64) = DF 384 := by decide +kernel
theorem DF_mul6 {a : Nat} (hn : a * 6 < 2 ^ 53) : mul (DF a) 0x4018000000000000 = DF (a * 6) := by
  rw [six_eq]
  obtain ⟨m, e, h1, h2⟩ := DF_dec (n := a) (by omega)
  obtain ⟨m', e', h1', h2'⟩ := DF_dec (n := 384) (by decide)
  have h := mul_right h1 h1'
  rw [DF_val (n := a) (by omega), DF_val (n := 384) (by decide), Int.natAbs_natCast, Int.natAbs_natCast] at h
  refine frac_exact (neg := false) (d := 1) (k := 0) h (Nat.two_pow_pos _) ?_ hn
  rw [p1074, show (384 : Nat) = 6 * 64 by decide]
  generalize (2 : Nat) ^ 1068 = K
  ac_rfl
theorem DF_nan {n : Nat} (hn : n < 2 ^ 53) : PySem.Float64.isNaN (DF n) = false := by
  obtain ⟨m, e, h1, _⟩ := DF_dec hn
  unfold PySem.Float64.isNaN; rw [h1]
theorem DF_inf {n : Nat} (hn : n < 2 ^ 53) : PySem.Float64.isInf (DF n) = false := by
  obtain ⟨m, e, h1, _⟩ := DF_dec hn
  unfold PySem.Float64.isInf; rw [h1]
theorem DF_trunc {n : Nat} (hn : n < 2 ^ 53) : toInt truncOf (DF n) = ((n / 64 : Nat) : Int) := by
  obtain ⟨m, e, h1, h2⟩ := DF_dec hn
  have hge := decode_ge h1
  have e0 : toInt truncOf (DF n) = truncOf false m e := by unfold toInt; rw [h1]
  rw [e0]
  show floorOf false m e = _
  unfold floorOf
  have hs : sgn false m = (m : Int) := rfl
  rw [hs, show (2 : Nat) ^ 1068 = 2 ^ 1068 * 1 by omega] at *
  split
  · rename_i h
    have h3 : m * 2 ^ e.toNat * 64 = n := by
      have e1 : (e + 1074).toNat = e.toNat + 6 + 1068 := by omega
      rw [e1, Nat.pow_add, Nat.pow_add] at h2
      have h4 : (m * 2 ^ e.toNat * 64) * 2 ^ 1068 = n * 2 ^ 1068 := by
        rw [show (2 : Nat) ^ 6 = 64 by decide] at h2
        generalize (2 : Nat) ^ 1068 = K at *
        generalize (2 : Nat) ^ e.toNat = J at *
        rw [Nat.mul_one] at h2
        rw [← h2]; ac_rfl
      exact Nat.eq_of_mul_eq_mul_right (Nat.two_pow_pos _) h4
    have h5 : n / 64 = m * 2 ^ e.toNat := by omega
    rw [h5, Int.natCast_mul, Int.natCast_pow]; rfl
  · rename_i h
    have h3 : m * 64 = n * 2 ^ (-e).toNat := by
      have e1 : (e + 1074).toNat + (-e).toNat = 1068 + 6 := by omega
      have h4 : m * 2 ^ (e + 1074).toNat * 2 ^ (-e).toNat = n * 2 ^ 1068 * 2 ^ (-e).toNat := by rw [h2, Nat.mul_one]
      rw [Nat.mul_assoc, ← Nat.pow_add, e1, Nat.pow_add, show (2 : Nat) ^ 6 = 64 by decide] at h4
      have h5 : (m * 64) * 2 ^ 1068 = (n * 2 ^ (-e).toNat) * 2 ^ 1068 := by
        generalize (2 : Nat) ^ 1068 = K at *
        generalize (2 : Nat) ^ (-e).toNat = J at *
        calc m * 64 * K = m * (K * 64) := by ac_rfl
          _ = n * K * J := h4
          _ = n * J * K := by ac_rfl
      exact Nat.eq_of_mul_eq_mul_right (Nat.two_pow_pos _) h5
    have hp : 0 < 2 ^ (-e).toNat := Nat.two_pow_pos _
    have h6 : m / 2 ^ (-e).toNat = n / 64 := by
      rw [← Nat.mul_div_mul_right m _ (show 0 < 64 by decide), h3, Nat.mul_comm n, Nat.mul_div_mul_left _ _ hp]
    rw [show ((2 : Int) ^ (-e).toNat) = ((2 ^ (-e).toNat : Nat) : Int) by rw [Int.natCast_pow]; rfl, Int.fdiv_eq_ediv_of_nonneg _ (Int.natCast_nonneg _), ← Int.natCast_ediv, h6]
end
end Mine
end
section
open PySem PySem.W PyProof.Rows PySem.Flt
set_option exponentiation.threshold 3000
namespace Mine
noncomputable def S4 (i : Nat) : UInt64 := Float64.ofFrac false i 4
noncomputable def x6 (hn r : Nat) : Nat := 6 * r * (32 / hn)
noncomputable def rgbN (hn : Nat) (S V : UInt64) (r : Nat) : Option (UInt64 × UInt64 × UInt64) := rgbF ((x6 hn r / 64 % 6 : Nat) : Int) (DF (x6 hn r % 64)) S V
noncomputable def HN (hn r : Nat) : UInt64 := Float64.ofFrac false r (2 * hn)
noncomputable def nV (x : UInt64) : Nat := (Float64.val x).toNat / 2 ^ 1068
noncomputable def colC (hn i j r : Nat) : Bool :=
  match rgbN hn (S4 i) (S4 j) r with
  | none => false
  | some (x, y, z) => (Float64.cmp (mn3 x y z) (mx3 x y z) == some .eq) == false && (hsvF x y z == some (HN hn r, S4 i, S4 j)) && (Float64.cmp (HN hn r) (HN hn r) == some .eq) &&
      (x == DF (nV x) && y == DF (nV y) && z == DF (nV z)) && (Nat.ble (nV x) 64 && Nat.ble (nV y) 64 && Nat.ble (nV z) 64)
noncomputable def tri (hn i j r : Nat) : UInt64 × UInt64 × UInt64 := (rgbN hn (S4 i) (S4 j) r).getD (0, 0, 0)
noncomputable def sumC (hn i j r : Nat) : Bool :=
  Nat.beq (nV (tri hn i j r).1 + nV (tri hn i j (r + hn)).1) (4 * j * (8 - i)) && Nat.beq (nV (tri hn i j r).2.1 + nV (tri hn i j (r + hn)).2.1) (4 * j * (8 - i)) && Nat.beq (nV (tri hn i j r).2.2 + nV (tri hn i j (r + hn)).2.2) (4 * j * (8 - i))
noncomputable def allC3 (hn i j : Nat) : Bool := (List.range (2 * hn)).all (colC hn i j) && (List.range hn).all (sumC hn i j)
set_option maxRecDepth 100000
theorem col_1_1_1 : allC3 1 1 1 = true := by decide +kernel
theorem col_1_1_2 : allC3 1 1 2 = true := by decide +kernel
theorem col_1_1_3 : allC3 1 1 3 = true := by decide +kernel
theorem col_1_1_4 : allC3 1 1 4 = true := by decide +kernel
theorem col_1_2_1 : allC3 1 2 1 = true := by decide +kernel
theorem col_1_2_2 : allC3 1 2 2 = true := by decide +kernel
theorem col_1_2_3 : allC3 1 2 3 = true := by decide +kernel
theorem col_1_2_4 : allC3 1 2 4 = true := by decide +kernel
theorem col_1_3_1 : allC3 1 3 1 = true := by decide +kernel
theorem col_1_3_2 : allC3 1 3 2 = true := by decide +kernel
theorem col_1_3_3 : allC3 1 3 3 = true := by decide +kernel
theorem col_1_3_4 : allC3 1 3 4 = true := by decide +kernel
theorem col_1_4_1 : allC3 1 4 1 = true := by decide +kernel
theorem col_1_4_2 : allC3 1 4 2 = true := by decide +kernel
theorem col_1_4_3 : allC3 1 4 3 = true := by decide +kernel
theorem col_1_4_4 : allC3 1 4 4 = true := by decide +kernel
theorem col_2_1_1 : allC3 2 1 1 = true := by decide +kernel
theorem col_2_1_2 : allC3 2 1 2 = true := by decide +kernel
theorem col_2_1_3 : allC3 2 1 3 = true := by decide +kernel
theorem col_2_1_4 : allC3 2 1 4 = true := by decide +kernel
theorem col_2_2_1 : allC3 2 2 1 = true := by decide +kernel
theorem col_2_2_2 : allC3 2 2 2 = true := by decide +kernel
theorem col_2_2_3 : allC3 2 2 3 = true := by decide +kernel
theorem col_2_2_4 : allC3 2 2 4 = true := by decide +kernel
theorem col_2_3_1 : allC3 2 3 1 = true := by decide +kernel
theorem col_2_3_2 : allC3 2 3 2 = true := by decide +kernel
theorem col_2_3_3 : allC3 2 3 3 = true := by decide +kernel
theorem col_2_3_4 : allC3 2 3 4 = true := by decide +kernel
theorem col_2_4_1 : allC3 2 4 1 = true := by decide +kernel
theorem col_2_4_2 : allC3 2 4 2 = true := by decide +kernel
theorem col_2_4_3 : allC3 2 4 3 = true := by decide +kernel
theorem col_2_4_4 : allC3 2 4 4 = true := by decide +kernel
theorem col_4_1_1 : allC3 4 1 1 = true := by decide +kernel
theorem col_4_1_2 : allC3 4 1 2 = true := by decide +kernel
theorem col_4_1_3 : allC3 4 1 3 = true := by decide +kernel
theorem col_4_1_4 : allC3 4 1 4 = true := by decide +kernel
theorem col_4_2_1 : allC3 4 2 1 = true := by decide +kernel
theorem col_4_2_2 : allC3 4 2 2 = true := by decide +kernel
theorem col_4_2_3 : allC3 4 2 3 = true := by decide +kernel
theorem col_4_2_4 : allC3 4 2 4 = true := by decide +kernel
theorem col_4_3_1 : allC3 4 3 1 = true := by decide +kernel
theorem col_4_3_2 : allC3 4 3 2 = true := by decide +kernel
theorem col_4_3_3 : allC3 4 3 3 = true := by decide +kernel
theorem col_4_3_4 : allC3 4 3 4 = true := by decide +kernel
theorem col_4_4_1 : allC3 4 4 1 = true := by decide +kernel
theorem col_4_4_2 : allC3 4 4 2 = true := by decide +kernel
theorem col_4_4_3 : allC3 4 4 3 = true := by decide +kernel
theorem col_4_4_4 : allC3 4 4 4 = true := by decide +kernel
end Mine
end
section
open PySem PySem.W PyProof.Rows PySem.Flt
set_option exponentiation.threshold 3000
namespace Mine
theorem colAll {hn i j : Nat} (hh : hn = 1 ∨ hn = 2 ∨ hn = 4) (i1 : 1 ≤ i) (i4 : i ≤ 4) (j1 : 1 ≤ j) (j4 : j ≤ 4) : allC3 hn i j = true := by
  rcases hh with rfl | rfl | rfl
  · match i, j, i1, i4, j1, j4 with
    | 1, 1, _, _, _, _ => exact col_1_1_1
    | 1, 2, _, _, _, _ => exact col_1_1_2
    | 1, 3, _, _, _, _ => exact col_1_1_3
    | 1, 4, _, _, _, _ => exact col_1_1_4
    | 2, 1, _, _, _, _ => exact col_1_2_1
    | 2, 2, _, _, _, _ => exact col_1_2_2
    | 2, 3, _, _, _, _ => exact col_1_2_3
    | 2, 4, _, _, _, _ => exact col_1_2_4
    | 3, 1, _, _, _, _ => exact col_1_3_1
    | 3, 2, _, _, _, _ => exact col_1_3_2
    | 3, 3, _, _, _, _ => exact col_1_3_3
    | 3, 4, _, _, _, _ => exact col_1_3_4
    | 4, 1, _, _, _, _ => exact col_1_4_1
    | 4, 2, _, _, _, _ => exact col_1_4_2
    | 4, 3, _, _, _, _ => exact col_1_4_3
    | 4, 4, _, _, _, _ => exact col_1_4_4
    | 0, _, h, _, _, _ => exact absurd h (by omega)
    | i + 5, _, _, h, _, _ => exact absurd h (by omega)
    | _, 0, _, _, h, _ => exact absurd h (by omega)
    | _, j + 5, _, _, _, h => exact absurd h (by omega)
  · match i, j, i1, i4, j1, j4 with
    | 1, 1, _, _, _, _ => exact col_2_1_1
    | 1, 2, _, _, _, _ => exact col_2_1_2
    | 1, 3, _, _, _, _ => exact col_2_1_3
    | 1, 4, _, _, _, _ => exact col_2_1_4
    | 2, 1, _, _, _, _ => exact col_2_2_1
    | 2, 2, _, _, _, _ => exact col_2_2_2
    | 2, 3, _, _, _, _ => exact col_2_2_3
    | 2, 4, _, _, _, _ => exact col_2_2_4
    | 3, 1, _, _, _, _ => exact col_2_3_1
    | 3, 2, _, _, _, _ => exact col_2_3_2
    | 3, 3, _, _, _, _ => exact col_2_3_3
    | 3, 4, _, _, _, _ => exact col_2_3_4
    | 4, 1, _, _, _, _ => exact col_2_4_1
    | 4, 2, _, _, _, _ => exact col_2_4_2
    | 4, 3, _, _, _, _ => exact col_2_4_3
    | 4, 4, _, _, _, _ => exact col_2_4_4
    | 0, _, h, _, _, _ => exact absurd h (by omega)
    | i + 5, _, _, h, _, _ => exact absurd h (by omega)
    | _, 0, _, _, h, _ => exact absurd h (by omega)
    | _, j + 5, _, _, _, h => exact absurd h (by omega)
  · match i, j, i1, i4, j1, j4 with
    | 1, 1, _, _, _, _ => exact col_4_1_1
    | 1, 2, _, _, _, _ => exact col_4_1_2
    | 1, 3, _, _, _, _ => exact col_4_1_3
    | 1, 4, _, _, _, _ => exact col_4_1_4
    | 2, 1, _, _, _, _ => exact col_4_2_1
    | 2, 2, _, _, _, _ => exact col_4_2_2
    | 2, 3, _, _, _, _ => exact col_4_2_3
    | 2, 4, _, _, _, _ => exact col_4_2_4
    | 3, 1, _, _, _, _ => exact col_4_3_1
    | 3, 2, _, _, _, _ => exact col_4_3_2
    | 3, 3, _, _, _, _ => exact col_4_3_3
    | 3, 4, _, _, _, _ => exact col_4_3_4
    | 4, 1, _, _, _, _ => exact col_4_4_1
    | 4, 2, _, _, _, _ => exact col_4_4_2
    | 4, 3, _, _, _, _ => exact col_4_4_3
    | 4, 4, _, _, _, _ => exact col_4_4_4
    | 0, _, h, _, _, _ => exact absurd h (by omega)
    | i + 5, _, _, h, _, _ => exact absurd h (by omega)
    | _, 0, _, _, h, _ => exact absurd h (by omega)
    | _, j + 5, _, _, _, h => exact absurd h (by omega)
structure ColP (hn i j r : Nat) : Prop where
  rgb : rgbN hn (S4 i) (S4 j) r = some (tri hn i j r)
  ne : (Float64.cmp (mn3 (tri hn i j r).1 (tri hn i j r).2.1 (tri hn i j r).2.2) (mx3 (tri hn i j r).1 (tri hn i j r).2.1 (tri hn i j r).2.2) == some .eq) = false
  hsv : hsvF (tri hn i j r).1 (tri hn i j r).2.1 (tri hn i j r).2.2 = some (HN hn r, S4 i, S4 j)
  same : (Float64.cmp (HN hn r) (HN hn r) == some .eq) = true
  dx : (tri hn i j r).1 = DF (nV (tri hn i j r).1)
  dy : (tri hn i j r).2.1 = DF (nV (tri hn i j r).2.1)
  dz : (tri hn i j r).2.2 = DF (nV (tri hn i j r).2.2)
  bx : nV (tri hn i j r).1 ≤ 64
  bY : nV (tri hn i j r).2.1 ≤ 64
  bz : nV (tri hn i j r).2.2 ≤ 64
theorem colP {hn i j r : Nat} (h : colC hn i j r = true) : ColP hn i j r := by
  unfold colC at h
  cases hr : rgbN hn (S4 i) (S4 j) r with
  | none => rw [hr] at h; cases h
  | some v =>
    obtain ⟨x, y, z⟩ := v
    rw [hr] at h
    have e : tri hn i j r = (x, y, z) := by unfold tri; rw [hr]; rfl
    simp only [Bool.and_eq_true, beq_iff_eq, Nat.ble_eq] at h
    obtain ⟨⟨⟨⟨h1, h2⟩, h3⟩, ⟨⟨h4, h5⟩, h6⟩⟩, ⟨⟨h7, h8⟩, h9⟩⟩ := h
    exact ⟨by rw [hr, e], by rw [e]; simpa using h1, by rw [e]; exact h2, by simpa using h3, by rw [e]; exact h4, by rw [e]; exact h5, by rw [e]; exact h6, by rw [e]; exact h7, by rw [e]; exact h8, by rw [e]; exact h9⟩
theorem col_at {hn i j r : Nat} (hh : hn = 1 ∨ hn = 2 ∨ hn = 4) (i1 : 1 ≤ i) (i4 : i ≤ 4) (j1 : 1 ≤ j) (j4 : j ≤ 4) (hr : r < 2 * hn) : ColP hn i j r := by
  have h := colAll hh i1 i4 j1 j4
  unfold allC3 at h
  rw [Bool.and_eq_true] at h
  exact colP (List.all_eq_true.mp h.1 r (List.mem_range.mpr hr))
theorem sum_at {hn i j r : Nat} (hh : hn = 1 ∨ hn = 2 ∨ hn = 4) (i1 : 1 ≤ i) (i4 : i ≤ 4) (j1 : 1 ≤ j) (j4 : j ≤ 4) (hr : r < hn) :
    nV (tri hn i j r).1 + nV (tri hn i j (r + hn)).1 = 4 * j * (8 - i) ∧ nV (tri hn i j r).2.1 + nV (tri hn i j (r + hn)).2.1 = 4 * j * (8 - i) ∧ nV (tri hn i j r).2.2 + nV (tri hn i j (r + hn)).2.2 = 4 * j * (8 - i) := by
  have h := colAll hh i1 i4 j1 j4
  unfold allC3 at h
  rw [Bool.and_eq_true] at h
  have h := List.all_eq_true.mp h.2 r (List.mem_range.mpr hr)
  unfold sumC at h
  simp only [Bool.and_eq_true, Nat.beq_eq] at h
  exact ⟨h.1.1, h.1.2, h.2⟩
theorem K_mod {hn : Nat} {a b : Int} (h1 : 1 ≤ hn) (ha : 0 ≤ a) (hb : 0 ≤ b) : ∃ q : Nat, (a + (2 * (hn : Int) - 1) * b).natAbs = ((a - b).fmod (2 * (hn : Int))).toNat + 2 * hn * q := by
  have hw : (0 : Int) < 2 * (hn : Int) := by omega
  have hm : 0 ≤ (2 * (hn : Int) - 1) * b := Int.mul_nonneg (by omega) hb
  have e : (a - b).fmod (2 * (hn : Int)) = (a + (2 * (hn : Int) - 1) * b).fmod (2 * (hn : Int)) := by
    rw [show a + (2 * (hn : Int) - 1) * b = (a - b) + (2 * (hn : Int)) * b by rw [Int.sub_mul, Int.one_mul]; omega]
    exact (Int.add_mul_fmod_self_left ..).symm
  rw [e]
  generalize hK : a + (2 * (hn : Int) - 1) * b = K at *
  have hK0 : 0 ≤ K := by omega
  have h0 := Int.fmod_nonneg_of_pos K hw
  have h2 := Int.mul_fdiv_add_fmod K (2 * (hn : Int))
  have h3 : 0 ≤ K.fdiv (2 * (hn : Int)) := Int.fdiv_nonneg hK0 (by omega)
  refine ⟨(K.fdiv (2 * (hn : Int))).toNat, ?_⟩
  generalize K.fmod (2 * (hn : Int)) = r at *
  obtain ⟨q, hq⟩ : ∃ q : Nat, K.fdiv (2 * (hn : Int)) = (q : Int) := ⟨(K.fdiv (2 * (hn : Int))).toNat, by omega⟩
  rw [hq] at h2 ⊢
  rw [Int.toNat_natCast]
  have h4 : (2 * (hn : Int)) * (q : Int) = ((2 * hn * q : Nat) : Int) := by rw [Int.natCast_mul, Int.natCast_mul]; rfl
  rw [h4] at h2
  omega
theorem hue_DF {hn K : Nat} (hh : hn = 1 ∨ hn = 2 ∨ hn = 4) (hK : K < 1000000) : Float64.mul (Float64.ofFrac false K (2 * hn)) 0x4018000000000000 = DF (K * (32 / hn) * 6) := by
  rcases hh with rfl | rfl | rfl
  · rw [frac_DF (K := K) (d := 2 * 1) (c := 32 / 1) (by decide) (by decide) (by omega), DF_mul6 (by omega)]
  · rw [frac_DF (K := K) (d := 2 * 2) (c := 32 / 2) (by decide) (by decide) (by omega), DF_mul6 (by omega)]
  · rw [frac_DF (K := K) (d := 2 * 4) (c := 32 / 4) (by decide) (by decide) (by omega), DF_mul6 (by omega)]
theorem x6_eq {hn r q : Nat} (hh : hn = 1 ∨ hn = 2 ∨ hn = 4) : (r + 2 * hn * q) * (32 / hn) * 6 = x6 hn r + 384 * q := by
  unfold x6
  rcases hh with rfl | rfl | rfl <;> simp <;> omega
theorem col_all {hn i j : Nat} (hh : hn = 1 ∨ hn = 2 ∨ hn = 4) (i1 : 1 ≤ i) (i4 : i ≤ 4) (j1 : 1 ≤ j) (j4 : j ≤ 4) {a b : Int} (ha : 0 ≤ a) (ha5 : a < 500) (hb : 0 ≤ b) (hb5 : b < 500) :
    Col (2 * (hn : Int)) (S4 i) (S4 j) (fun t => HN hn t.toNat) (fun t => (tri hn i j t.toNat).1) (fun t => (tri hn i j t.toNat).2.1) (fun t => (tri hn i j t.toNat).2.2) a b := by
  have hn8 : 2 * (hn : Int) ≤ 8 := by omega
  have hw : (0 : Int) < 2 * (hn : Int) := by omega
  obtain ⟨q, hq⟩ := K_mod (hn := hn) (by omega) ha hb
  have h0 := Int.fmod_nonneg_of_pos (a - b) hw
  have h1 := Int.fmod_lt_of_pos (a - b) hw
  have hKb : (a + (2 * (hn : Int) - 1) * b).natAbs < 1000000 := by
    have p1 : 0 ≤ (2 * (hn : Int) - 1) * b := Int.mul_nonneg (by omega) hb
    have p2 : (2 * (hn : Int) - 1) * b ≤ 7 * 500 := Int.mul_le_mul (by omega) (by omega) hb (by omega)
    omega
  have hwn : (2 * (hn : Int)).natAbs = 2 * hn := by omega
  have P := col_at (r := ((a - b).fmod (2 * (hn : Int))).toNat) hh i1 i4 j1 j4 (by omega)
  have hD : Float64.mul (Float64.ofFrac false (a + (2 * (hn : Int) - 1) * b).natAbs (2 * (hn : Int)).natAbs) 0x4018000000000000 = DF (x6 hn ((a - b).fmod (2 * (hn : Int))).toNat + 384 * q) := by
    rw [hwn, hue_DF hh hKb, hq, x6_eq hh]
  have hD3 : x6 hn ((a - b).fmod (2 * (hn : Int))).toNat + 384 * q < 2 ^ 53 := by
    rw [← x6_eq hh, ← hq]
    have h32 : 32 / hn ≤ 32 := Nat.div_le_self _ _
    have : (a + (2 * (hn : Int) - 1) * b).natAbs * (32 / hn) ≤ 1000000 * 32 := Nat.mul_le_mul (Nat.le_of_lt hKb) h32
    omega
  have hrb : ((a - b).fmod (2 * (hn : Int))).natAbs = ((a - b).fmod (2 * (hn : Int))).toNat := by omega
  generalize hr : ((a - b).fmod (2 * (hn : Int))).toNat = r at *
  generalize hx : x6 hn r = x at *
  refine ⟨?_, ?_, ⟨((x + 384 * q) / 64 : Nat), ?_, by omega, ?_, ?_⟩, by simp only [hr]; exact P.ne, by simp only [hr]; exact P.hsv, ?_, by simp only [hr]; exact P.same⟩
  · rw [hD]; exact DF_nan hD3
  · rw [hD]; exact DF_inf hD3
  · rw [hD]; exact DF_trunc hD3
  · have : x + 384 * q < 1000000 * 32 * 6 + 1 := by
      have e := x6_eq (hn := hn) (r := r) (q := q) hh
      rw [hx, ← hq] at e
      have h32 : 32 / hn ≤ 32 := Nat.div_le_self _ _
      have : (a + (2 * (hn : Int) - 1) * b).natAbs * (32 / hn) ≤ 1000000 * 32 := Nat.mul_le_mul (Nat.le_of_lt hKb) h32
      omega
    have p2 : (2 * (hn : Int) - 1) * b ≤ 7 * 500 := Int.mul_le_mul (by omega) (by omega) hb (by omega)
    have p1 : 0 ≤ (2 * (hn : Int) - 1) * b := Int.mul_nonneg (by omega) hb
    have e := x6_eq (hn := hn) (r := r) (q := q) hh
    rw [hx, ← hq] at e
    have h32 : 32 / hn ≤ 32 := Nat.div_le_self _ _
    have h33 : (a + (2 * (hn : Int) - 1) * b).natAbs * (32 / hn) ≤ 4000 * 32 := Nat.mul_le_mul (by omega) h32
    omega
  · rw [hD, int_DF (by omega), DF_sub hD3 (by omega)]
    have e1 : ((((x + 384 * q) / 64 : Nat) : Int)).fmod 6 = ((x / 64 % 6 : Nat) : Int) := by
      rw [Int.fmod_eq_emod_of_nonneg _ (by decide)]
      omega
    have e2 : x + 384 * q - (x + 384 * q) / 64 * 64 = x % 64 := by omega
    rw [e1, e2]
    have h := P.rgb
    unfold rgbN at h
    rw [hx] at h
    simp only [hr]
    exact h
  · simp only [hr]
    unfold HN
    rw [hrb, hwn]
end Mine
end
section
open PySem PySem.W PyProof.Rows PySem.Flt
set_option exponentiation.threshold 3000
namespace Mine
theorem fold_DF {R : Int → UInt64} {f : Int → Nat} : ∀ (T : List Int) (acc : Nat), (∀ t ∈ T, R t = DF (f t)) → (∀ t ∈ T, f t ≤ 64) → acc + 64 * T.length < 2 ^ 53 → T.foldl (fun a t => Float64.add a (R t)) (DF acc) = DF (acc + (T.map f).sum)
  | [], acc, _, _, _ => by simp
  | t :: T, acc, hR, hb, hl => by
    have h1 := hb t (.head _)
    rw [List.length_cons] at hl
    rw [List.foldl_cons, hR t (.head _), DF_add (by omega), fold_DF T (acc + f t) (fun u hu => hR u (.tail _ hu)) (fun u hu => hb u (.tail _ hu)) (by omega), List.map_cons, List.sum_cons, Nat.add_assoc]
theorem sum_cast {f : Int → Nat} : ∀ T : List Int, (((T.map f).sum : Nat) : Int) = (T.map (fun t => ((f t : Nat) : Int))).sum
  | [] => rfl
  | t :: T => by rw [List.map_cons, List.sum_cons, Int.natCast_add, sum_cast T, List.map_cons, List.sum_cons]
theorem fold_far (wh : Int) : ∀ (T : List Int) (a : Int), T.foldl (fun a t => a + Mine.far wh t) a = a + (T.map (Mine.far wh)).sum
  | [], a => by simp
  | t :: T, a => by rw [List.foldl_cons, fold_far wh T, List.map_cons, List.sum_cons]; omega
noncomputable def meanC (i j n : Nat) : Bool := Float64.div (DF (4 * j * (8 - i) * n)) (Float64.ofInt (2 * (n : Int))) == DF (2 * j * (8 - i))
noncomputable def lightC (i j : Nat) : Bool := Float64.mul (S4 j) (Float64.sub (Float64.ofInt 1) (Float64.div (S4 i) (Float64.ofInt 2))) == DF (2 * j * (8 - i)) && Float64.cmp (DF (2 * j * (8 - i))) (DF (2 * j * (8 - i))) == some .eq && Float64.div (Float64.add (DF (2 * j * (8 - i))) (DF (2 * j * (8 - i)))) 0x4000000000000000 == DF (2 * j * (8 - i)) &&
  (Float64.cmp (S4 i) 0 == some .eq) == false && Float64.cmp (S4 i) (S4 i) == some .eq && Float64.cmp (S4 j) (S4 j) == some .eq
set_option maxRecDepth 100000
theorem mean_c1 : ((List.range 4).all fun j => (List.range 15).all fun n => meanC 1 (j + 1) (n + 1)) = true := by decide +kernel
theorem mean_c2 : ((List.range 4).all fun j => (List.range 15).all fun n => meanC 2 (j + 1) (n + 1)) = true := by decide +kernel
theorem mean_c3 : ((List.range 4).all fun j => (List.range 15).all fun n => meanC 3 (j + 1) (n + 1)) = true := by decide +kernel
theorem mean_c4 : ((List.range 4).all fun j => (List.range 15).all fun n => meanC 4 (j + 1) (n + 1)) = true := by decide +kernel
theorem light_c : ((List.range 4).all fun i => (List.range 4).all fun j => lightC (i + 1) (j + 1)) = true := by decide +kernel
theorem allr {n : Nat} {f : Nat → Bool} (h : ((List.range n).all f) = true) {k : Nat} (hk : k < n) : f k = true := List.all_eq_true.mp h k (List.mem_range.mpr hk)
theorem mean_ok {i j n : Nat} (i1 : 1 ≤ i) (i4 : i ≤ 4) (j1 : 1 ≤ j) (j4 : j ≤ 4) (n1 : 1 ≤ n) (n15 : n ≤ 15) : Float64.div (DF (4 * j * (8 - i) * n)) (Float64.ofInt (2 * (n : Int))) = DF (2 * j * (8 - i)) := by
  have key : meanC i j n = true := by
    have h : ((List.range 4).all fun j => (List.range 15).all fun n => meanC i (j + 1) (n + 1)) = true := by
      rcases (by omega : i = 1 ∨ i = 2 ∨ i = 3 ∨ i = 4) with rfl | rfl | rfl | rfl
      · exact mean_c1
      · exact mean_c2
      · exact mean_c3
      · exact mean_c4
    have h := allr (allr h (k := j - 1) (by omega)) (k := n - 1) (by omega)
    rw [Nat.sub_add_cancel j1, Nat.sub_add_cancel n1] at h
    exact h
  unfold meanC at key
  exact beq_iff_eq.mp key
structure LightP (i j : Nat) : Prop where
  light : Float64.mul (S4 j) (Float64.sub (Float64.ofInt 1) (Float64.div (S4 i) (Float64.ofInt 2))) = DF (2 * j * (8 - i))
  self : (Float64.cmp (DF (2 * j * (8 - i))) (DF (2 * j * (8 - i))) == some .eq) = true
  half : Float64.div (Float64.add (DF (2 * j * (8 - i))) (DF (2 * j * (8 - i)))) 0x4000000000000000 = DF (2 * j * (8 - i))
  s0 : (Float64.cmp (S4 i) 0 == some .eq) = false
  ss : (Float64.cmp (S4 i) (S4 i) == some .eq) = true
  vv : (Float64.cmp (S4 j) (S4 j) == some .eq) = true
theorem light_ok {i j : Nat} (i1 : 1 ≤ i) (i4 : i ≤ 4) (j1 : 1 ≤ j) (j4 : j ≤ 4) : LightP i j := by
  have h := allr (allr light_c (k := i - 1) (by omega)) (k := j - 1) (by omega)
  rw [Nat.sub_add_cancel j1, Nat.sub_add_cancel i1] at h
  unfold lightC at h
  simp only [Bool.and_eq_true] at h
  obtain ⟨⟨⟨⟨⟨h1, h2⟩, h3⟩, h4⟩, h5⟩, h6⟩ := h
  exact ⟨beq_iff_eq.mp h1, h2, beq_iff_eq.mp h3, beq_iff_eq.mp h4, h5, h6⟩
theorem mix_ok {hn i j sh : Nat} {T : List Int} {f : Int → Nat} {R : Int → UInt64} (i1 : 1 ≤ i) (i4 : i ≤ 4) (j1 : 1 ≤ j) (j4 : j ≤ 4) (s1 : 1 ≤ sh) (s2 : sh ≤ 15) (g : Gol (hn : Int) sh T) (hl : T.length ≤ 30)
    (hR : ∀ t ∈ T, R t = DF (f t)) (hb : ∀ t ∈ T, f t ≤ 64) (hs : ∀ t, 0 ≤ t → t < (hn : Int) → f t + f (t + hn) = 4 * j * (8 - i)) : Float64.div (foldF R T) (Float64.ofInt (2 * (16 - (sh : Int)))) = DF (2 * j * (8 - i)) := by
  have e := fold_DF T 0 hR hb (by omega)
  have hsum := g.sum (f := fun t => ((f t : Nat) : Int)) (C := ((4 * j * (8 - i) : Nat) : Int)) (fun t h0 h1 => by have := hs t h0 h1; omega) s2
  rw [← sum_cast, ← Int.natCast_mul] at hsum
  have hsum : (T.map f).sum = 4 * j * (8 - i) * (16 - sh) := by omega
  rw [DF_zero, Nat.zero_add, hsum] at e
  have e2 : (16 - (sh : Int)) = ((16 - sh : Nat) : Int) := by omega
  show Float64.div (T.foldl (fun a t => Float64.add a (R t)) 0) _ = _
  rw [e, e2]
  exact mean_ok i1 i4 j1 j4 (by omega) (by omega)
noncomputable def cmpC (hn t r : Nat) : Bool := (Float64.cmp (HN hn t) (HN hn r) == some .eq) == (t == r)
theorem cmp1 : ((List.range 2).all fun t => (List.range 2).all fun r => cmpC 1 t r) = true := by decide +kernel
theorem cmp2 : ((List.range 4).all fun t => (List.range 4).all fun r => cmpC 2 t r) = true := by decide +kernel
theorem cmp4 : ((List.range 8).all fun t => (List.range 8).all fun r => cmpC 4 t r) = true := by decide +kernel
theorem cmp_ok {hn t r : Nat} (hh : hn = 1 ∨ hn = 2 ∨ hn = 4) (ht : t < 2 * hn) (hr : r < 2 * hn) : (Float64.cmp (HN hn t) (HN hn r) == some .eq) = (t == r) := by
  have h : cmpC hn t r = true := by
    rcases hh with rfl | rfl | rfl
    · exact allr (allr cmp1 ht) hr
    · exact allr (allr cmp2 ht) hr
    · exact allr (allr cmp4 ht) hr
  unfold cmpC at h
  exact beq_iff_eq.mp h
theorem told_bits {H : Int → UInt64} {dv : List Value} {T : List Int} {TK : Nat} (h : ToldA H dv T TK) : dv.map bits = T.map H := by
  refine List.ext_getElem? fun k => ?_
  rw [List.getElem?_map, List.getElem?_map]
  rcases Nat.lt_or_ge k T.length with hk | hk
  · obtain ⟨t, e, _, _⟩ := h.2 k hk
    rw [e, List.getElem?_eq_getElem hk]
    simp [bits, List.getD_eq_getElem?_getD, List.getElem?_eq_getElem hk]
  · rw [List.getElem?_eq_none (by rw [h.1]; exact hk), List.getElem?_eq_none hk]; rfl
theorem cnt_told {hn : Nat} {dv : List Value} {T : List Int} {TK : Nat} (hh : hn = 1 ∨ hn = 2 ∨ hn = 4) (h : ToldA (fun t => HN hn t.toNat) dv T TK) (hb : ∀ t ∈ T, 0 ≤ t ∧ t < 2 * (hn : Int)) {r : Int} (r0 : 0 ≤ r) (r1 : r < 2 * (hn : Int)) : cntF (HN hn r.toNat) dv = ((T.count r : Nat) : Int) := by
  unfold cntF
  have e1 : (dv.filter fun v => Float64.cmp (bits v) (HN hn r.toNat) == some .eq).length = ((dv.map bits).filter fun x => Float64.cmp x (HN hn r.toNat) == some .eq).length := by
    rw [List.filter_map, List.length_map]; rfl
  rw [e1, told_bits h, List.filter_map, List.length_map, ← List.countP_eq_length_filter]
  show ((T.countP _ : Nat) : Int) = ((T.countP (fun x => x == r) : Nat) : Int)
  congr 1
  refine List.countP_congr fun t ht => ?_
  have hb1 := hb t ht
  show (Float64.cmp (HN hn t.toNat) (HN hn r.toNat) == some .eq) = true ↔ (t == r) = true
  rw [cmp_ok hh (by omega) (by omega), beq_iff_eq, beq_iff_eq]
  omega
theorem counts_ok {hn sh : Nat} {dv : List Value} {T : List Int} {TK : Nat} (hh : hn = 1 ∨ hn = 2 ∨ hn = 4) (h : ToldA (fun t => HN hn t.toNat) dv T TK) (g : Gol (hn : Int) sh T) (i : Nat) (hi : i < hn) :
    cntF (Float64.ofFrac false ((0 : Int) + (i : Int)).natAbs (2 * (hn : Int)).natAbs) dv = ((T.count ((0 : Int) + (i : Int)) : Nat) : Int) ∧ cntF (Float64.ofFrac false ((0 : Int) + (i : Int) + (hn : Int)).natAbs (2 * (hn : Int)).natAbs) dv = ((T.count ((0 : Int) + (i : Int)) : Nat) : Int) := by
  have hw : (2 * (hn : Int)).natAbs = 2 * hn := by omega
  have e1 := cnt_told hh h g.bd (r := (0 : Int) + (i : Int)) (by omega) (by omega)
  have e2 := cnt_told hh h g.bd (r := (0 : Int) + (i : Int) + (hn : Int)) (by omega) (by omega)
  rw [g.count (by omega) (by omega)] at e2
  unfold HN at e1 e2
  have n1 : ((0 : Int) + (i : Int)).toNat = ((0 : Int) + (i : Int)).natAbs := by omega
  have n2 : ((0 : Int) + (i : Int) + (hn : Int)).toNat = ((0 : Int) + (i : Int) + (hn : Int)).natAbs := by omega
  rw [n1] at e1
  rw [n2] at e2
  rw [hw]
  exact ⟨e1, e2⟩
theorem apart_ok {hn sh : Nat} {T : List Int} (s2 : sh ≤ 15) (g : Gol (hn : Int) sh T) : foldI (2 * (hn : Int)) T = (hn : Int) * (16 - (sh : Int)) := by
  show T.foldl (fun a t => a + Mine.far (2 * (hn : Int)) t) 0 = _
  rw [fold_far, Int.zero_add, g.far s2]
  have e2 : (16 - (sh : Int)) = ((16 - sh : Nat) : Int) := by omega
  rw [e2]
end Mine
end
section
open PySem PySem.W PyProof.Rows PySem.Flt
namespace Mine
noncomputable def wdN (hn j : Nat) : Str := wP (gE (j : Int) (hn : Int)) (hn : Int).toNat
noncomputable def levN (hn p q : Nat) : Bool :=
  (wdN hn p).length == hn && (wdN hn q).length == hn &&
  ((List.range hn).all fun i => (List.range hn).all fun j => subC ⟨#[ch (wdN hn q) i]⟩ ⟨#[ch (wdN hn p) j]⟩ == if i = j then df (wdN hn p) (wdN hn q) i else 2) &&
  hU (wdN hn p) (wdN hn q) hn == far (2 * (hn : Int)) (((p : Int) - (q : Int)).fmod (2 * (hn : Int)))
set_option maxRecDepth 100000
theorem lev1 : ((List.range 2).all fun p => (List.range 2).all fun q => levN 1 p q) = true := by decide +kernel
theorem lev2 : ((List.range 4).all fun p => (List.range 4).all fun q => levN 2 p q) = true := by decide +kernel
theorem lev4_0 : ((List.range 8).all fun q => levN 4 0 q) = true := by decide +kernel
theorem lev4_1 : ((List.range 8).all fun q => levN 4 1 q) = true := by decide +kernel
theorem lev4_2 : ((List.range 8).all fun q => levN 4 2 q) = true := by decide +kernel
theorem lev4_3 : ((List.range 8).all fun q => levN 4 3 q) = true := by decide +kernel
theorem lev4_4 : ((List.range 8).all fun q => levN 4 4 q) = true := by decide +kernel
theorem lev4_5 : ((List.range 8).all fun q => levN 4 5 q) = true := by decide +kernel
theorem lev4_6 : ((List.range 8).all fun q => levN 4 6 q) = true := by decide +kernel
theorem lev4_7 : ((List.range 8).all fun q => levN 4 7 q) = true := by decide +kernel
theorem levAll {hn : Nat} (hh : hn = 1 ∨ hn = 2 ∨ hn = 4) {p q : Nat} (hp : p < 2 * hn) (hq : q < 2 * hn) : levN hn p q = true := by
  have key : ∀ {n : Nat} {f : Nat → Bool}, ((List.range n).all f) = true → ∀ k, k < n → f k = true := fun h k hk => List.all_eq_true.mp h k (List.mem_range.mpr hk)
  rcases hh with rfl | rfl | rfl
  · exact key (key lev1 p hp) q hq
  · exact key (key lev2 p hp) q hq
  · match p, hp with
    | 0, _ => exact key lev4_0 q hq
    | 1, _ => exact key lev4_1 q hq
    | 2, _ => exact key lev4_2 q hq
    | 3, _ => exact key lev4_3 q hq
    | 4, _ => exact key lev4_4 q hq
    | 5, _ => exact key lev4_5 q hq
    | 6, _ => exact key lev4_6 q hq
    | 7, _ => exact key lev4_7 q hq
    | p + 8, h => exact absurd h (by omega)
theorem fmod_sub' (a b n : Int) (hn : 0 < n) : (a.fmod n - b.fmod n).fmod n = (a - b).fmod n := by
  rw [Int.fmod_eq_emod_of_nonneg _ (Int.le_of_lt hn), Int.fmod_eq_emod_of_nonneg _ (Int.le_of_lt hn), Int.fmod_eq_emod_of_nonneg _ (Int.le_of_lt hn), Int.fmod_eq_emod_of_nonneg _ (Int.le_of_lt hn), ← Int.sub_emod]
theorem lev_ok {hn : Nat} (hh : hn = 1 ∨ hn = 2 ∨ hn = 4) (a b : Int) : LevOk (2 * (hn : Int)) hn (wdN hn) a b := by
  have hw : (0 : Int) < 2 * (hn : Int) := by omega
  have a0 := Int.fmod_nonneg_of_pos a hw
  have a1 := Int.fmod_lt_of_pos a hw
  have b0 := Int.fmod_nonneg_of_pos b hw
  have b1 := Int.fmod_lt_of_pos b hw
  have h := levAll hh (p := (a.fmod (2 * (hn : Int))).toNat) (q := (b.fmod (2 * (hn : Int))).toNat) (by omega) (by omega)
  unfold levN at h
  simp only [Bool.and_eq_true, beq_iff_eq, List.all_eq_true, List.mem_range] at h
  obtain ⟨⟨⟨h1, h2⟩, h3⟩, h4⟩ := h
  rw [Int.toNat_of_nonneg a0, Int.toNat_of_nonneg b0, fmod_sub' a b _ hw] at h4
  exact ⟨h1, h2, fun i j hi hj => h3 i hi j hj, h4⟩
end Mine
end
section
open PySem PySem.W PyProof.Rows PySem.Flt
namespace Mine
theorem wd_bd {w : Int} (p k : Nat) (h : 0 ≤ w ∧ w < 64) : 0 ≤ w * dg p k ∧ w * dg p k < 64 := by
  rw [dg_dN]
  have := dN_le p k
  rcases (by omega : dN p k = 0 ∨ dN p k = 1) with e | e <;> rw [e] <;> simp <;> omega
theorem hb_bd {hn x : Int} (h1 : 0 ≤ hn) (h4 : hn ≤ 4) (hx : 0 ≤ x ∧ x ≤ 1) : 0 ≤ hn * x ∧ hn * x ≤ 4 := by
  rcases bit01 hx with rfl | rfl <;> simp <;> omega
theorem row1_bd {o wt : Nat → Int} {hn bg : Int} (hw : ∀ j, 0 ≤ wt j ∧ wt j < 64) (h1 : 0 ≤ hn) (h4 : hn ≤ 4) (b0 : 0 ≤ bg) (b1 : bg < 64) (i : Nat) : 0 ≤ row1 o wt hn bg i ∧ row1 o wt hn bg i < 400 := by
  have e : row1 o wt hn bg i = bg + hn * oddF o i 3 + wt 0 * dg i 0 + wt 1 * dg i 1 + wt 2 * dg i 2 + wt 3 * dg i 3 := rfl
  have h := hb_bd h1 h4 (oddF_bd o i 3)
  have a0 := wd_bd i 0 (hw 0)
  have a1 := wd_bd i 1 (hw 1)
  have a2 := wd_bd i 2 (hw 2)
  have a3 := wd_bd i 3 (hw 3)
  rw [e]
  omega
theorem row2_bd {o wt : Nat → Int} {hn bg lift en : Int} (hw : ∀ j, 0 ≤ wt j ∧ wt j < 64) (h1 : 0 ≤ hn) (h4 : hn ≤ 4) (b0 : 0 ≤ bg) (b1 : bg < 64) (l0 : 0 ≤ lift) (l1 : lift < 64) (i : Nat) : 0 ≤ row2 o wt hn bg lift en i ∧ row2 o wt hn bg lift en i < 500 := by
  have e : row2 o wt hn bg lift en i = row1 o wt hn bg i + lift + hn * dg i en.toNat := rfl
  have h := row1_bd (o := o) hw h1 h4 b0 b1 i
  have a := hb_bd h1 h4 (dg_bd i en.toNat)
  rw [e]
  omega
theorem half_124 {hn : Nat} {x : Int} (h : (hn : Int) = (2 : Int) ^ (Int.fmod x 3).toNat) : hn = 1 ∨ hn = 2 ∨ hn = 4 := by
  have h1 := Int.fmod_nonneg_of_pos x (show (0:Int) < 3 by decide)
  have h2 := Int.fmod_lt_of_pos x (show (0:Int) < 3 by decide)
  generalize Int.fmod x 3 = y at *
  rcases (by omega : y = 0 ∨ y = 1 ∨ y = 2) with rfl | rfl | rfl
  · have e : (2 : Int) ^ (Int.toNat 0) = 1 := by decide
    omega
  · have e : (2 : Int) ^ (Int.toNat 1) = 2 := by decide
    omega
  · have e : (2 : Int) ^ (Int.toNat 2) = 4 := by decide
    omega
theorem quarter (x : Int) : 1 ≤ (1 + Int.fmod x 4).natAbs ∧ (1 + Int.fmod x 4).natAbs ≤ 4 := by
  have h1 := Int.fmod_nonneg_of_pos x (show (0:Int) < 4 by decide)
  have h2 := Int.fmod_lt_of_pos x (show (0:Int) < 4 by decide)
  omega
theorem end_of (k x : Int) : ordF k (Int.fmod x 2 * 3).toNat = ordF k 0 ∨ ordF k (Int.fmod x 2 * 3).toNat = ordF k 3 := by
  have h1 := Int.fmod_nonneg_of_pos x (show (0:Int) < 2 by decide)
  have h2 := Int.fmod_lt_of_pos x (show (0:Int) < 2 by decide)
  generalize Int.fmod x 2 = y at *
  rcases (by omega : y = 0 ∨ y = 1) with rfl | rfl
  · exact .inl rfl
  · exact .inr rfl
theorem words_W {ys : List Value} {hn : Nat} (h : WordsF ys (2 * (hn : Int)).toNat (hn : Int)) : WordsW ys (2 * hn) (wdN hn) := by
  have e : (2 * (hn : Int)).toNat = 2 * hn := by omega
  rw [e] at h
  exact h
theorem told_fl {H : Int → UInt64} {dv : List Value} {T : List Int} {TK : Nat} (h : ToldA H dv T TK) : ∀ v ∈ dv, ∃ x t, v = .float x t := fun v hv =>
  let ⟨x, t, e, _, _⟩ := told_ne h (Nat.le_refl TK) v hv
  ⟨x, t, e⟩
set_option maxRecDepth 100000 in
set_option maxHeartbeats 4000000 in
set_option pp.deepTerms false in
set_option pp.deepTerms.threshold 4 in
theorem c_all (w : World) (mean : ExcName → Option Value) (mg mb : Str → Option Value) (ln : Addr) (kn : Nat) (xs : List Value) (ms : List Int) (oU oS oW oH : Obj) (vU vS vW vH : Option Value) :
  ∀ (dp un : Nat) (gd : Option (List Code)) (outer : List Env) (A₀ : Around) (base h₀ : Heap) (L fa : Addr) (cd : Value) (m : Str → Option Value) (s : Shared) (Q : Flow → Shared → Prop) (E : Value → Shared → Prop)
  (_ : Below A₀ base outer h₀) (_ : Fr h₀ L s.heap (kstB m [(Str.ofString "numbers", .ref ln)])) (_ : (Mine.hd.heap_1 w.params).In h₀) (_ : News h₀ L s.heap [(ln, listOf xs.toArray kn), (L + 1 + 1 + 1 + 1, oU), (L + 1 + 1 + 1, oS), (L + 1 + 1, oW), (L + 1, oH)]) (_ : Top Mine.hdview (looseW Mine.hdview []) mean mg mb h₀)
  (_ : dp + 20 < recursionLimit) (_ : un + 100 < cLine) (_ : @LT.lt Nat _ (L + 1 + 1 + 1 + 1) ln) (_ : IntsAre xs ms) (_ : ms.length = 10) (_ : oU.data = .cell vU) (_ : oS.data = .cell vS) (_ : oW.data = .cell vW) (_ : oH.data = .cell vH)
  (_ : PassesOwn (model PySem.Challenge.rw_sw0044_01.row.prog w) (ktrTop dp un gd (Str.ofString "law") (scopeAt (Mine.hd.heap_1 w.params) 157) L fa cd (cellsFrom (L + 1) (scopeAt (Mine.hd.heap_1 w.params) 157).names []) outer) (envOfC (Str.ofString "law") (scopeAt (Mine.hd.heap_1 w.params) 157) L fa cd) E)
  (_ : ∀ (h' : Heap) (tk' : Nat) (m' : Loc), Fr h₀ L h' m' → Q (.ret (.bool true)) { s with heap := h', toks := tk' }),
  wpAny (model PySem.Challenge.rw_sw0044_01.row.prog w) (ktrTop dp un gd (Str.ofString "law") (scopeAt (Mine.hd.heap_1 w.params) 157) L fa cd (cellsFrom (L + 1) (scopeAt (Mine.hd.heap_1 w.params) 157).names []) outer) (execs ((bodyAt (Mine.hd.heap_1 w.params) 157).drop 2) (envOfC (Str.ofString "law") (scopeAt (Mine.hd.heap_1 w.params) 157) L fa cd)) Q E s := by
  intro dp un gd outer A₀ base h₀ L fa cd m s Q E kB kF kX kN kT kD kU hln hI hlen hdU hdS hdW hdH hE hret
  refine c_mid w mean mg mb ln kn xs ms oU oS oW oH vU vS vW vH dp un gd outer A₀ base h₀ L fa cd m s Q E kB kF kX kN kT kD kU hln hI hlen hdU hdS hdW hdH hE ?_
  intro h1 tk1 m1 hn lr la lb lws lt ld lf lm va vb wv na nb nw pU pS pW pH uv tS tW tH ts tl ta f1 f2 f3 hhn hra hrb hwv dU dS dW dH q1 q2 q3 q4 q5 q6 q7 q8 htk hts htl F1 N1
  have hh := half_124 hhn
  have bi := quarter (Int.fdiv (ms.getD 1 0) 3)
  have bj := quarter (Int.fdiv (ms.getD 1 0) 12)
  have hsh : ∃ sh : Nat, (1 + Int.fmod (ms.getD 2 0) 15) = (sh : Int) ∧ 1 ≤ sh ∧ sh ≤ 15 := by
    have a := Int.fmod_nonneg_of_pos (ms.getD 2 0) (show (0:Int) < 15 by decide)
    have b := Int.fmod_lt_of_pos (ms.getD 2 0) (show (0:Int) < 15 by decide)
    exact ⟨(1 + Int.fmod (ms.getD 2 0) 15).toNat, by omega, by omega, by omega⟩
  obtain ⟨sh, esh, s1, s2⟩ := hsh
  rw [esh] at dS
  have k0 := Int.fmod_nonneg_of_pos (ms.getD 0 0) (show (0:Int) < 24 by decide)
  have k1 := Int.fmod_lt_of_pos (ms.getD 0 0) (show (0:Int) < 24 by decide)
  have g := golay (wt := fun i => Int.fmod (ms.getD (i + 3) 0) 64) (hn := (hn : Int)) (bg := Int.fmod (ms.getD 7 0) 64) (lift := Int.fmod (ms.getD 8 0) 64) (sh := sh) (by omega) k0 k1 (end_of (Int.fmod (ms.getD 0 0) 24) (ms.getD 9 0)) s1 s2
  have hw : ∀ j : Nat, 0 ≤ Int.fmod (ms.getD (j + 3) 0) 64 ∧ Int.fmod (ms.getD (j + 3) 0) 64 < 64 := fun j => ⟨Int.fmod_nonneg_of_pos _ (by decide), Int.fmod_lt_of_pos _ (by decide)⟩
  have g0 := Int.fmod_nonneg_of_pos (ms.getD 7 0) (show (0:Int) < 64 by decide)
  have g1 := Int.fmod_lt_of_pos (ms.getD 7 0) (show (0:Int) < 64 by decide)
  have l0 := Int.fmod_nonneg_of_pos (ms.getD 8 0) (show (0:Int) < 64 by decide)
  have l1 := Int.fmod_lt_of_pos (ms.getD 8 0) (show (0:Int) < 64 by decide)
  have hba : ∀ i, i < 16 → 0 ≤ (row1 (ordF (Int.fmod (ms.getD 0 0) 24)) (fun i => Int.fmod (ms.getD (i + 3) 0) 64) (hn : Int) (Int.fmod (ms.getD 7 0) 64)) i ∧ (row1 (ordF (Int.fmod (ms.getD 0 0) 24)) (fun i => Int.fmod (ms.getD (i + 3) 0) 64) (hn : Int) (Int.fmod (ms.getD 7 0) 64)) i < 500 := fun i _ => by
    have h := row1_bd (o := ordF (Int.fmod (ms.getD 0 0) 24)) (wt := fun i => Int.fmod (ms.getD (i + 3) 0) 64) hw (hn := (hn : Int)) (by omega) (by omega) g0 g1 i
    omega
  have hbb : ∀ i, i < 16 → 0 ≤ (row2 (ordF (Int.fmod (ms.getD 0 0) 24)) (fun i => Int.fmod (ms.getD (i + 3) 0) 64) (hn : Int) (Int.fmod (ms.getD 7 0) 64) (Int.fmod (ms.getD 8 0) 64) (ordF (Int.fmod (ms.getD 0 0) 24) (Int.fmod (ms.getD 9 0) 2 * 3).toNat)) i ∧ (row2 (ordF (Int.fmod (ms.getD 0 0) 24)) (fun i => Int.fmod (ms.getD (i + 3) 0) 64) (hn : Int) (Int.fmod (ms.getD 7 0) 64) (Int.fmod (ms.getD 8 0) 64) (ordF (Int.fmod (ms.getD 0 0) 24) (Int.fmod (ms.getD 9 0) 2 * 3).toNat)) i < 500 := fun i _ => row2_bd hw (by omega) (by omega) g0 g1 l0 l1 i
  generalize (row1 (ordF (Int.fmod (ms.getD 0 0) 24)) (fun i => Int.fmod (ms.getD (i + 3) 0) 64) (hn : Int) (Int.fmod (ms.getD 7 0) 64)) = r1 at *
  generalize (row2 (ordF (Int.fmod (ms.getD 0 0) 24)) (fun i => Int.fmod (ms.getD (i + 3) 0) 64) (hn : Int) (Int.fmod (ms.getD 7 0) 64) (Int.fmod (ms.getD 8 0) 64) (ordF (Int.fmod (ms.getD 0 0) 24) (Int.fmod (ms.getD 9 0) 2 * 3).toNat)) = r2 at *
  generalize (1 + Int.fmod (Int.fdiv (ms.getD 1 0) 3) 4).natAbs = i at *
  generalize (1 + Int.fmod (Int.fdiv (ms.getD 1 0) 12) 4).natAbs = j at *
  obtain ⟨i1, i4⟩ := bi
  obtain ⟨j1, j4⟩ := bj
  have P := light_ok i1 i4 j1 j4
  refine c_loop w mean mg mb hn sh r1 r2 (S4 i) (S4 j) (fun t => HN hn t.toNat) (fun t => (tri hn i j t.toNat).1) (fun t => (tri hn i j t.toNat).2.1) (fun t => (tri hn i j t.toNat).2.2) (wdN hn) lr la lb lws lt ld lf lm va vb wv na nb nw pU pS pW pH uv tS tW tH ts tl ta f1 f2 f3 dp un gd outer A₀ base h₀ L fa cd m1 { s with heap := h1, toks := tk1 } Q E kB F1 kX N1 kT kD kU (by omega) (by omega) s1 s2 hra hrb hba hbb (words_W hwv) dU dS dW dH q1 q2 q3 q4 q5 q6 q7 q8 htk hts htl (fun a b a0 a5 b0 b5 => col_all hh i1 i4 j1 j4 a0 a5 b0 b5) (fun a b _ _ => lev_ok hh a b) P.s0 P.ss P.vv hE ?_
  intro h2 tk2 m2 c hLP htk2 F2 N2
  generalize hT : preT (2 * (hn : Int)) sh r1 r2 (16 - sh) 2 = T at *
  have hlen30 := hLP.len
  have cp : ∀ t ∈ T, ColP hn i j t.toNat := fun t ht => by
    have hb := g.bd t ht
    exact col_at hh i1 i4 j1 j4 (by omega)
  have hsum : ∀ t : Int, 0 ≤ t → t < (hn : Int) → _ := fun t t0 t1 => sum_at (r := t.toNat) hh i1 i4 j1 j4 (by omega)
  have eT : ∀ t : Int, 0 ≤ t → (t + (hn : Int)).toNat = t.toNat + hn := fun t t0 => by omega
  have mx := mix_ok (R := fun t => (tri hn i j t.toNat).1) (f := fun t => nV (tri hn i j t.toNat).1) i1 i4 j1 j4 s1 s2 g hlen30 (fun t ht => (cp t ht).dx) (fun t ht => (cp t ht).bx) (fun t t0 t1 => by show nV (tri hn i j t.toNat).1 + nV (tri hn i j (t + (hn : Int)).toNat).1 = _; rw [eT t t0]; exact (hsum t t0 t1).1)
  have my := mix_ok (R := fun t => (tri hn i j t.toNat).2.1) (f := fun t => nV (tri hn i j t.toNat).2.1) i1 i4 j1 j4 s1 s2 g hlen30 (fun t ht => (cp t ht).dy) (fun t ht => (cp t ht).bY) (fun t t0 t1 => by show nV (tri hn i j t.toNat).2.1 + nV (tri hn i j (t + (hn : Int)).toNat).2.1 = _; rw [eT t t0]; exact (hsum t t0 t1).2.1)
  have mz := mix_ok (R := fun t => (tri hn i j t.toNat).2.2) (f := fun t => nV (tri hn i j t.toNat).2.2) i1 i4 j1 j4 s1 s2 g hlen30 (fun t ht => (cp t ht).dz) (fun t ht => (cp t ht).bz) (fun t t0 t1 => by show nV (tri hn i j t.toNat).2.2 + nV (tri hn i j (t + (hn : Int)).toNat).2.2 = _; rw [eT t t0]; exact (hsum t t0 t1).2.2)
  rw [← hLP.hx] at mx
  rw [← hLP.hy] at my
  rw [← hLP.hz] at mz
  have hq : @LT.lt Nat _ (L + 1 + 1 + 1 + 1) lt := Nat.lt_trans q1 (Nat.lt_trans q2 (Nat.lt_trans q3 q4))
  refine c_tA w mean mg mb hn sh (S4 i) (S4 j) c.x c.y c.z (DF (2 * j * (8 - i))) c.lm lf ld lt c.fv c.dv c.tv c.fn c.dn c.tn pU pS pW pH uv tS tW tH ts tl c.tx c.ty c.tz c.apt c.ap dp un gd outer A₀ base h₀ L fa cd m2 { s with heap := h2, toks := tk2 } Q E kB F2 kX N2 kT kD kU s1 s2 dU dS dW dH hq q6 q7 hLP.ord htk2 mx my mz P.light P.self P.half hE ?_
  intro h3 tk3 m3 lg lp t1 t2 t3 t4 t5 t6 hk3 o1 o2 p1 p2 p3 p4 p5 p6 F3 N3
  refine c_tB w mean mg mb hn sh (DF (2 * j * (8 - i))) (fun t => HN hn t.toNat) T lf ld lt lg lp c.fv c.dv c.tv c.fn c.dn c.tn pU pS pW pH uv tS tW tH c.apt t1 t2 t3 t4 t5 t6 c.ap dp un gd outer A₀ base h₀ L fa cd m3 { s with heap := h3, toks := tk3 } Q E kB F3 kX N3 kT kD kU dU dS dW dH hq q6 q7 o1 o2 (Nat.lt_of_lt_of_le htk2 hk3) (toldA_len hLP.told) hlen30 (told_fl hLP.told) hE ?_
  intro h4 tk4 m4 hk4 F4 N4
  refine c_tC w mean mg mb hn sh tk2 (fun t => HN hn t.toNat) T lf ld lt c.fv c.dv c.tv c.fn c.dn c.tn pU pS pW pH uv tS tW tH c.apt c.ap dp un gd outer A₀ base h₀ L fa cd m4 { s with heap := h4, toks := tk4 } Q E kB F4 kX N4 kT kD kU (by omega) (by omega) dU dS dW dH hq q6 q7 htk2 (Nat.le_trans hk3 hk4) hLP.turns hLP.told hlen30 (counts_ok hh hLP.told g) hE ?_
  intro h5 tk5 m5 pU2 uv2 dU2 F5 N5
  refine c_tD w mean mg mb hn sh T lf ld lt c.fv c.dv c.tv c.fn c.dn c.tn pU2 pS pW pH uv2 tS tW tH c.apt c.ap dp un gd outer A₀ base h₀ L fa cd m5 { s with heap := h5, toks := tk5 } Q E kB F5 kX N5 kT kD kU (by omega) (by omega) s1 s2 dU2 dS dW dH hq q6 q7 hLP.turns hLP.fars hlen30 g.bd (by rw [hLP.ap]; exact apart_ok s2 g) hE ?_
  intro h6 tk6 m6 F6
  exact hret h6 tk6 m6 F6
end Mine
end
section
open PySem PySem.W PyProof.Rows PySem.Flt
namespace Mine
theorem topOffS1 : True := by
  w_top off
  trivial
local macro_rules | `(tactic| k_qdec) => `(tactic| decide +kernel)
theorem lit10 (a0 a1 a2 a3 a4 a5 a6 a7 a8 a9 : Int) (t0 t1 t2 t3 t4 t5 t6 t7 t8 t9 : Tok) : IntsAre [.int a0 t0, .int a1 t1, .int a2 t2, .int a3 t3, .int a4 t4, .int a5 t5, .int a6 t6, .int a7 t7, .int a8 t8, .int a9 t9] [a0, a1, a2, a3, a4, a5, a6, a7, a8, a9] :=
  .cons _ _ (.cons _ _ (.cons _ _ (.cons _ _ (.cons _ _ (.cons _ _ (.cons _ _ (.cons _ _ (.cons _ _ (.cons _ _ .nil)))))))))
theorem led2 {h₀ h : Heap} {L : Addr} {a x1 x2 x3 c1 c2 c3 c4 : Addr × Obj} (N : News h₀ L h [a, x1, x2, x3, c1, c2, c3, c4]) : News h₀ L h [a, c1, c2, c3, c4] := news_sub (.cons₂ _ (.cons _ (.cons _ (.cons _ (.cons₂ _ (.cons₂ _ (.cons₂ _ (.cons₂ _ (.refl _))))))))) N
theorem len10 {ms : List Int} : (List.take 10 ms ++ List.drop (((List.take 10 ms).length : Nat) : Int).toNat ([9, 17, 10, 3, 0, 6, 1, 2, 5, 0] : List Int)).length = 10 := by
  rw [Int.toNat_natCast, List.length_append, List.length_take, List.length_drop]
  simp only [List.length_cons, List.length_nil]
  omega
set_option maxRecDepth 100000 in
set_option maxHeartbeats 4000000 in
set_option pp.deepTerms false in
set_option pp.deepTerms.threshold 5 in
theorem holdsM : PySem.Challenge.rw_sw0044_01.Holds := by
  refine Mine.hd ?_
  k_go0
  all_goals try k_fold
  k_with_none
  k_with "call ref" => (k_extra "my call")
  k_with "execs cons" => (k_extra "my stop")
  k_with "subscriptTail" => (k_extra "my slice")
  k_with "binaryOp Add ref ref" => (k_extra "my cat")
  k_with "my stop" => ((with_reducible show wpAny _ _ (execs (List.cons (Stmt.Assign [Expr.Name (Str.ofString "order") _] _ _) _) _) _ _ _); refine stop_here ?_)
  k_with "my slice" => ((with_reducible show wpAny _ _ (subscriptTail (Expr.List _ _) (PySem.Expr.Slice (some _) none none _) (Value.ref _) (Value.ref _)) _ _ _); k_dflt (refine' slice_go ?sF ?sN ?sl ?sp ?sq ?sm ?_ ?ss ?sz; (case sF => k_asm); (case sN => k_asm); (case sl => kmk_list); (case sp => exact IsPart.int _ _); (case sq => exact IsPart.none); (case sm => exact kmk_from (lit10 ..) (by omega)); (case ss => with_unfolding_all rfl); (case sz => exact Nat.le_of_ble_eq_true rfl)); intro D' ws' h' F' N' l1 hI'; (try k_lt l1))
  k_steps
  all_goals
    unfold Stop
    rename Fr _ _ _ _ => lF'
    rename News _ _ _ _ => lN'
    rename IntsAre _ (List.take _ _ ++ _) => hI9
    rename World => w9
    rename Top _ _ _ _ _ _ => T9
    rename Below _ _ _ _ => B9
    rename Frag.In _ _ => X9
    have key := c_all w9
    generalize hsc : scopeAt (Mine.hd.heap_1 w9.params) 157 = sc at key
    conv at hsc => lhs; whnf
    subst hsc
    generalize hbd : List.drop 2 (bodyAt (Mine.hd.heap_1 w9.params) 157) = bd at key
    conv at hbd => lhs; whnf
    subst hbd
    have F9 := fr_kst (ps := [(Str.ofString "numbers", Value.ref _)]) (all1 (by rfl)) lF'
    refine' key _ _ _ _ _ _ _ _ _ _ _ _ _ _ _ _ _ _ _ _ _ _ _ _ _ _ _ _ _ B9 F9 X9 (led2 lN') T9 ?D ?U ?p1 hI9 len10 ?d1 ?d2 ?d3 ?d4 ?pE ?R
    case d1 => assumption
    case d2 => assumption
    case d3 => assumption
    case d4 => assumption
    case D => first | decide +kernel | ktr_room
    case U => first | decide +kernel | ktr_units
    case p1 => first | omega
    case pE => first | k_dflt passes_own
    case' R => (clear F9 lF'; intro h9 tk9 m9 F9; (try dsimp only))
  k_steps
end Mine
end
set_option maxRecDepth 100000 in
set_option maxHeartbeats 8000000 in
theorem PySem.Challenge.cw_sw0044_01_holds : PySem.Challenge.rw_sw0044_01.Holds := by
  exact Mine.holdsM
