import PyProof.Rows.All
import Wide.All
import OpenK.AllK
import Wide.FinOn
import PySem.Challenge.RW_pe0247_01

section
open PySem PySem.W PyProof.Rows
set_option Elab.async false
set_option maxRecDepth 100000
set_option maxHeartbeats 8000000
namespace Mine
theorem sub_cons {α : Type} {a : α} {l b : List α} (h : a ∈ b) (t : ∀ q ∈ l, q ∈ b) : ∀ q ∈ a :: l, q ∈ b := List.forall_mem_cons.mpr ⟨h, t⟩
theorem all_cons {α : Type} {p : α → Prop} {a : α} {l : List α} (h : p a) (t : ∀ q ∈ l, p q) : ∀ q ∈ a :: l, p q := List.forall_mem_cons.mpr ⟨h, t⟩
def nth (l : List Stmt) (k : Nat) : Stmt := match l.drop k with | s :: _ => s | [] => .Pass ⟨0, 0, 0, 0⟩
def topDef (k : Nat) : Stmt := nth PySem.Challenge.pw_pe0247_01.main.body k
/-- the text without its loose names -/
def lawView : Program := { PySem.Challenge.pw_pe0247_01 with main := { PySem.Challenge.pw_pe0247_01.main with body := [topDef 1, topDef 2, topDef 3, topDef 4, topDef 5, topDef 6, topDef 7, topDef 14, topDef 15, topDef 16, topDef 18, topDef 19, topDef 20] } }
abbrev lawLoose : List PySem.Str := ["insort_right", "bisect_right", "insort_left", "bisect_left"]
local macro_rules | `(tactic| o_head $H) => `(tactic| (
  refine holds_open (q := lawView) (loose := lawLoose) (Xt := fun s => xlAt lawView [] s && recOk (RowW.records (OpenRow.toRowW PySem.Challenge.rw_pe0247_01.row)) s) (XP := XL lawView []) (Yf := Hook.obs $H) (Ya := Hook.val $H) (YP := Hook.says $H) (N := 1382) ?hl (Hook.of $H) (Hook.keeps $H) (fun s e => xl_of s (Bool.and_eq_true_iff.mp e).1) XL.keeps (by rfl) (by rfl) (by rfl) (fun s e => recFacts_of (Bool.and_eq_true_iff.mp e).2) (by rfl) (by assumption) (by decide +kernel) ⟨rfl, rfl, rfl, rfl, rfl, by decide +kernel⟩ ?hw ?hc
  case hl => exact fun w => by kernel_rfl))
open_top hd for PySem.Challenge.rw_pe0247_01
theorem topOff : True := by
  w_top off
  trivial
end Mine
end

section
open PySem PySem.W PyProof.Rows PySem.Spec PySem.Calls
set_option Elab.async false
set_option maxRecDepth 100000
set_option maxHeartbeats 8000000
namespace Mine
theorem setGen_toks (s : Shared) (g : Nat) (x : GenState) : (s.setGen g x).toks = s.toks := rfl
theorem runs_toks {M : Model} {Γ : PySem.Ctx} {p : Pos} {t : Sem PySem.Fin} {fs : List Frame} {s s' : Shared} {e : End} (h : Runs M Γ p t fs s e s') : s.toks ≤ s'.toks := by
  induction h <;> (try simp only [setGen_toks] at *) <;> (try dsimp only at *) <;> first | assumption | omega
theorem wp_toks {α : Type} {M : Model} {Γ : PySem.Ctx} (n : Nat) : ∀ (t : Sem α) {Q : α → Pos → Shared → Prop} {E : Value → Pos → Shared → Prop} (p : Pos) (s : Shared), n ≤ s.toks →
    Sem.wp M Γ t (fun a p' s' => n ≤ s'.toks → Q a p' s') (fun e p' s' => n ≤ s'.toks → E e p' s') p s → Sem.wp M Γ t Q E p s := by
  intro t
  induction t with
  | pure a => intro Q E p s hn h; exact h hn
  | raise e => intro Q E p s hn h; exact h hn
  | unsupported w => intro Q E p s hn h; exact h
  | finish e => intro Q E p s hn h; exact h
  | rule tg k ih => intro Q E p s hn h; simp only [Sem.wp] at h ⊢; exact ih _ _ _ hn h
  | «at» q k ih => intro Q E p s hn h; simp only [Sem.wp] at h ⊢; exact ih _ _ _ hn h
  | load a pt k ih => intro Q E p s hn h; simp only [Sem.wp] at h ⊢; obtain ⟨o, h1, h2⟩ := h; exact ⟨o, h1, ih _ _ _ hn h2⟩
  | update a pt f k ih => intro Q E p s hn h; simp only [Sem.wp] at h ⊢; exact ⟨h.1, ih () p { s with heap := s.heap.update a f } hn h.2⟩
  | alloc o k ih => intro Q E p s hn h; simp only [Sem.wp] at h ⊢; exact ih _ p { s with heap := s.heap.push o } hn h
  | loadIfAlive a k ih => intro Q E p s hn h; simp only [Sem.wp] at h ⊢; exact ih _ _ _ hn h
  | point l k ih => intro Q E p s hn h; simp only [Sem.wp] at h ⊢; exact ih _ _ _ hn h
  | register a k ih => intro Q E p s hn h; simp only [Sem.wp] at h
  | fresh k ih => intro Q E p s hn h; simp only [Sem.wp] at h ⊢; exact ih _ p { s with toks := s.toks + 1 } (Nat.le_succ_of_le hn) h
  | ask k ih => intro Q E p s hn h; simp only [Sem.wp] at h ⊢; exact ih _ _ _ hn h
  | choose src m k ih => intro Q E p s hn h; simp only [Sem.wp] at h ⊢; exact ⟨h.1, ih _ p { s with drawn := s.drawn.bump src } hn h.2⟩
  | os q l k ih => intro Q E p s hn h; simp only [Sem.wp] at h ⊢; exact ih _ p { s with os := (Os.step s.os q).1 } hn h
  | call c hd g l k ih =>
    intro Q E p s hn h
    simp only [Sem.wp] at h ⊢
    obtain ⟨r, s', h1, h2⟩ := h
    exact ⟨r, s', h1, ih _ _ _ (Nat.le_trans hn (runs_toks h1)) h2⟩
  | handled o k ih => intro Q E p s hn h; simp only [Sem.wp] at h ⊢; exact ih _ _ _ hn h
  | newGen c k ih => intro Q E p s hn h; simp only [Sem.wp] at h ⊢; exact ih _ p { s with gens := s.gens.push (.fresh c) } hn h
  | genState g k ih => intro Q E p s hn h; simp only [Sem.wp] at h ⊢; obtain ⟨o, h1, h2⟩ := h; exact ⟨o, h1, ih _ _ _ hn h2⟩
  | resume g r l k ih =>
    intro Q E p s hn h
    simp only [Sem.wp] at h ⊢
    obtain ⟨res, s', h1, h2⟩ := h
    refine ⟨res, s', h1, ih _ _ _ (Nat.le_trans hn ?_) h2⟩
    unfold Wakes at h1
    split at h1
    · exact h1.elim
    · split at h1
      · obtain ⟨e₁, s₁, h3, _, _, rfl⟩ := h1; have := runs_toks h3; simpa only [setGen_toks] using this
      · obtain ⟨_, rfl⟩ := h1; exact Nat.le_refl _
      · obtain ⟨_, rfl⟩ := h1; exact Nat.le_refl _
    · obtain ⟨e₁, s₁, h3, _, _, rfl⟩ := h1; have := runs_toks h3; simpa only [setGen_toks] using this
    · obtain ⟨_, rfl⟩ := h1; exact Nat.le_refl _
    · obtain ⟨_, rfl⟩ := h1; exact Nat.le_refl _
  | yield v g l k ih => intro Q E p s hn h; simp only [Sem.wp] at h
  | stack k ih => intro Q E p s hn h; simp only [Sem.wp] at h ⊢; exact ih _ _ _ hn h
  | fork c k ih => intro Q E p s hn h; simp only [Sem.wp] at h
  | thread k ih => intro Q E p s hn h; simp only [Sem.wp] at h ⊢; exact ih _ _ _ hn h
  | await a tk d l k ih => intro Q E p s hn h; simp only [Sem.wp] at h
/-- the tokens never fall: what comes behind a tree may use it -/
theorem wpAny_toks {α : Type} {M : Model} {A : Around} {t : Sem α} {Q : α → Shared → Prop} {E : Value → Shared → Prop} {s : Shared}
    (h : wpAny M A t (fun a s' => s.toks ≤ s'.toks → Q a s') (fun e s' => s.toks ≤ s'.toks → E e s') s) : wpAny M A t Q E s := fun Γ p hΓ => wp_toks s.toks t p s (Nat.le_refl _) (h Γ p hΓ)
theorem noneBooked {w : World} {h : Heap} (X : (hd.heap_39 w.params).In h) : NoneBooked h := by
  revert X; 
  have e : PySem.Challenge.rw_pe0247_01.row.prog = PySem.Challenge.rw_pe0247_01.row.prog → (hd.heap_39 w.params).In h → NoneBooked h := by
    k_fill
    intro _ X
    exact ⟨h.nsMap cStatics, .of_isNs (isNs_of_in X (by kernel_rfl)), nsMap_none_of_in X (by kernel_rfl) (by k_is)⟩
  exact e rfl
end Mine
end

section
open PySem PySem.W PyProof.Rows PySem.Spec PySem.Calls PySem.Flt
set_option Elab.async false
set_option maxRecDepth 100000
set_option maxHeartbeats 8000000
namespace Mine
def mx2 (x y : UInt64) : UInt64 := if Float64.cmp x y == some .lt then y else x
def mx3 (x y z : UInt64) : UInt64 := mx2 (mx2 x y) z
def mn2 (x y : UInt64) : UInt64 := if Float64.cmp y x == some .lt then y else x
def mn3 (x y z : UInt64) : UInt64 := mn2 (mn2 x y) z

theorem max3_float {prog : Program} {w : World} {A : Around} {E : Value → Shared → Prop} {s : Shared} {Q : Value → Shared → Prop} {x y z : UInt64} {t u v : Tok} {h₀ : Heap} {L : Addr} {m : Str → Option Value} {news : List (Addr × Obj)}
    (hh : A.handled = none) (F : Fr h₀ L s.heap m) (N : News h₀ L s.heap news) (ht : 0 < t) (hu : 0 < u) (hv : 0 < v)
    (h : ∀ h' tk v, s.toks ≤ tk → 0 < v → Fr h₀ L h' m → News h₀ L h' news → Q (.float (mx3 x y z) v) { s with heap := h', toks := tk }) :
    wpAny (model prog w) A (call (.builtin "max") [.float x t, .float y u, .float z v]) Q E s := by
  have hT : (s.heap.push { cls := .type "tuple", data := .seq #[.float x t, .float y u, .float z v] }).IsTuple s.heap.objs.size #[.float x t, .float y u, .float z v] := ⟨_, Heap.get?_push_size _ rfl, rfl, 0, rfl⟩
  refine wpAny_toks (call_max_three (wpAny_pyIter_tuple hT ?_))
  have hsz : (s.heap.push { cls := .type "tuple", data := .seq #[.float x t, .float y u, .float z v] }).objs.size = s.heap.objs.size + 1 := Heap.size_push ..
  refine ⟨_, [_, s.heap.objs.size], [_], _, _, _, _, rfl, Walks.tuple (A := A.in1) hh _ s.heap.objs.size (by rw [hsz]; exact Nat.ne_of_lt (Nat.lt_succ_self _)) #[.float x t, .float y u, .float z v],
    ⟨⟨_, Heap.get?_push_size _ rfl, rfl, rfl⟩, hT.push _⟩, fun c hc => ?_, by simp, cmpOf_gt #[.float x t, .float y u, .float z v] (by simp [NumV.float]), fun v' h' tk hP hk => ?_⟩
  · show c < ((s.heap.push _).push _).objs.size
    rw [Heap.size_push, hsz]
    rcases List.mem_cons.mp hc with rfl | hc
    · rw [hsz]; exact Nat.lt_succ_self _
    · rcases List.mem_cons.mp hc with rfl | hc
      · exact Nat.lt_succ_of_lt (Nat.lt_succ_self _)
      · cases hc
  · have hold : ∀ c o, s.heap.get? c = some o → h'.get? c = some o := fun c o e => by
      refine hk c o (fun hm => ?_) (Heap.get?_push_of_some _ (Heap.get?_push_of_some _ e))
      rcases List.mem_cons.mp hm with e1 | hm
      · have := Heap.lt_size e; rw [e1, hsz] at this; exact Nat.lt_irrefl _ (Nat.lt_of_succ_lt this)
      · cases hm
    have hv : ∃ t', 0 < t' ∧ v' = .float (mx3 x y z) t' := by
      unfold mx3 mx2
      cases hc : (Float64.cmp x y == some .lt)
      · cases hd : (Float64.cmp x z == some .lt) <;> simp [argBest, ltV, hc, hd] at hP <;> simp [← hP, hd, ht, hu, hv]
      · cases hd : (Float64.cmp y z == some .lt) <;> simp [argBest, ltV, hc, hd] at hP <;> simp [← hP, hd, ht, hu, hv]
    obtain ⟨t', hpos, rfl⟩ := hv
    exact fun hle => h h' tk t' hle hpos (F.grownK hold) (N.grown hold)
theorem min3_float {prog : Program} {w : World} {A : Around} {E : Value → Shared → Prop} {s : Shared} {Q : Value → Shared → Prop} {x y z : UInt64} {t u v : Tok} {h₀ : Heap} {L : Addr} {m : Str → Option Value} {news : List (Addr × Obj)}
    (hh : A.handled = none) (F : Fr h₀ L s.heap m) (N : News h₀ L s.heap news) (ht : 0 < t) (hu : 0 < u) (hv : 0 < v)
    (h : ∀ h' tk v, s.toks ≤ tk → 0 < v → Fr h₀ L h' m → News h₀ L h' news → Q (.float (mn3 x y z) v) { s with heap := h', toks := tk }) :
    wpAny (model prog w) A (call (.builtin "min") [.float x t, .float y u, .float z v]) Q E s := by
  have hT : (s.heap.push { cls := .type "tuple", data := .seq #[.float x t, .float y u, .float z v] }).IsTuple s.heap.objs.size #[.float x t, .float y u, .float z v] := ⟨_, Heap.get?_push_size _ rfl, rfl, 0, rfl⟩
  refine wpAny_toks (call_min_three (wpAny_pyIter_tuple hT ?_))
  have hsz : (s.heap.push { cls := .type "tuple", data := .seq #[.float x t, .float y u, .float z v] }).objs.size = s.heap.objs.size + 1 := Heap.size_push ..
  refine ⟨_, [_, s.heap.objs.size], [_], _, _, _, _, rfl, Walks.tuple (A := A.in1) hh _ s.heap.objs.size (by rw [hsz]; exact Nat.ne_of_lt (Nat.lt_succ_self _)) #[.float x t, .float y u, .float z v],
    ⟨⟨_, Heap.get?_push_size _ rfl, rfl, rfl⟩, hT.push _⟩, fun c hc => ?_, by simp, cmpOf_lt #[.float x t, .float y u, .float z v] (by simp [NumV.float]), fun v' h' tk hP hk => ?_⟩
  · show c < ((s.heap.push _).push _).objs.size
    rw [Heap.size_push, hsz]
    rcases List.mem_cons.mp hc with rfl | hc
    · rw [hsz]; exact Nat.lt_succ_self _
    · rcases List.mem_cons.mp hc with rfl | hc
      · exact Nat.lt_succ_of_lt (Nat.lt_succ_self _)
      · cases hc
  · have hold : ∀ c o, s.heap.get? c = some o → h'.get? c = some o := fun c o e => by
      refine hk c o (fun hm => ?_) (Heap.get?_push_of_some _ (Heap.get?_push_of_some _ e))
      rcases List.mem_cons.mp hm with e1 | hm
      · have := Heap.lt_size e; rw [e1, hsz] at this; exact Nat.lt_irrefl _ (Nat.lt_of_succ_lt this)
      · cases hm
    have hv : ∃ t', 0 < t' ∧ v' = .float (mn3 x y z) t' := by
      unfold mn3 mn2
      cases hc : (Float64.cmp y x == some .lt)
      · cases hd : (Float64.cmp z x == some .lt) <;> simp [argBest, ltV, hc, hd] at hP <;> simp [← hP, hd, ht, hu, hv]
      · cases hd : (Float64.cmp z y == some .lt) <;> simp [argBest, ltV, hc, hd] at hP <;> simp [← hP, hd, ht, hu, hv]
    obtain ⟨t', hpos, rfl⟩ := hv
    exact fun hle => h h' tk t' hle hpos (F.grownK hold) (N.grown hold)
end Mine
end

section
open PySem PySem.W PyProof.Rows PySem.Spec PySem.Calls
set_option Elab.async false
set_option maxRecDepth 100000
set_option maxHeartbeats 8000000
namespace Mine
theorem isSame_float {M : Model} {A : Around} {E : Value → Shared → Prop} {s : Shared} {x y : UInt64} {t u : Tok} {Q : Bool → Shared → Prop}
    (ht : t ≠ 0) (hu : u ≠ 0) (hb : NoneBooked s.heap) (hq : ∀ b, Q b s) : wpAny M A (isSame (.float x t) (.float y u)) Q E s := by
  show wpAny M A (isSame.created (x == y && !Float64.isNaN x) t u) Q E s
  unfold isSame.created
  refine wpAny_ite ?_
  split
  · rename_i h; simp [ht, hu] at h
  refine wpAny_ite ?_
  split
  · exact wpAny_pure (hq _)
  refine wpAny_ite ?_
  split
  · exact wpAny_pure (hq _)
  refine wpAny_bind (wpAny_sharingNotTold_none hb ?_)
  simp only [Bool.false_eq_true, if_false]
  refine wpAny_bind (wpAny_sharingNotTold_none hb ?_)
  simp only [Bool.false_eq_true, if_false]
  exact wpAny_bind (wpAny_rule (wpAny_bind (wpAny_askSetting (wpAny_pure (hq _)))))
theorem eqAt_float {A : Around} {s : Shared} {x y : UInt64} {t u : Tok} (ht : t ≠ 0) (hu : u ≠ 0) (hb : NoneBooked s.heap) (he : (Float64.cmp x y == some .eq) = true) : SeqAt.EqAt A s (.float x t) (.float y u) true := fun prog w E Q h => by
  unfold eqBool
  refine wpAny_holding ?_
  refine wpAny_ite_split (fun _ => wpAny_bind (wpAny_rule (wpAny_pure h))) (fun _ => ?_)
  dsimp only
  refine wpAny_bind (isSame_float ht hu hb fun b => ?_)
  refine wpAny_ite_split (fun _ => wpAny_pure h) (fun _ => ?_)
  refine wpAny_bind (AutoFloatOps.eq_0 ?_)
  rw [he]
  exact wpAny_truthy_bool h

theorem tup3_all {A : Around} {s : Shared} {x1 x2 x3 y1 y2 y3 : UInt64} {t1 t2 t3 u1 u2 u3 : Tok} (hb : NoneBooked s.heap) (ht1 : t1 ≠ 0) (ht2 : t2 ≠ 0) (ht3 : t3 ≠ 0) (hu1 : u1 ≠ 0) (hu2 : u2 ≠ 0) (hu3 : u3 ≠ 0)
    (e1 : (Float64.cmp x1 y1 == some .eq) = true) (e2 : (Float64.cmp x2 y2 == some .eq) = true) (e3 : (Float64.cmp x3 y3 == some .eq) = true) :
    ∀ j (h1 : j < (#[Value.float x1 t1, Value.float x2 t2, Value.float x3 t3] : Array Value).size) (h2 : j < (#[Value.float y1 u1, Value.float y2 u2, Value.float y3 u3] : Array Value).size),
      SeqAt.EqAt A s (#[Value.float x1 t1, Value.float x2 t2, Value.float x3 t3])[j] (#[Value.float y1 u1, Value.float y2 u2, Value.float y3 u3])[j] ((fun _ => true) j) := by
  intro j h1 h2
  match j, h1 with
  | 0, _ => exact eqAt_float ht1 hu1 hb e1
  | 1, _ => exact eqAt_float ht2 hu2 hb e2
  | 2, _ => exact eqAt_float ht3 hu3 hb e3
  | n + 3, h => simp at h; omega
section
variable {prog : Program} {w : World} {A : Around} {E : Value → Shared → Prop} {s : Shared} {h₀ : Heap} {L : Addr} {m : Str → Option Value} {news : List (Addr × Obj)} {Q : Value → Shared → Prop} {D D' : Addr} {x1 x2 x3 y1 y2 y3 : UInt64} {t1 t2 t3 u1 u2 u3 : Tok} {n n' : Nat}
theorem tup3_eq (F : Fr h₀ L s.heap m) (X : (hd.heap_39 w.params).In h₀) (N : News h₀ L s.heap news) (hu : A.units < cLine)
    (m1 : (D, ({ cls := .type "tuple", data := .seq #[.float x1 t1, .float x2 t2, .float x3 t3] n } : Obj)) ∈ news) (m2 : (D', ({ cls := .type "tuple", data := .seq #[.float y1 u1, .float y2 u2, .float y3 u3] n' } : Obj)) ∈ news)
    (ht1 : t1 ≠ 0) (ht2 : t2 ≠ 0) (ht3 : t3 ≠ 0) (hu1 : u1 ≠ 0) (hu2 : u2 ≠ 0) (hu3 : u3 ≠ 0)
    (e1 : (Float64.cmp x1 y1 == some .eq) = true) (e2 : (Float64.cmp x2 y2 == some .eq) = true) (e3 : (Float64.cmp x3 y3 == some .eq) = true) (h : Q (.bool true) s) :
    wpAny (model prog w) A (compareOp .Eq (.ref D) (.ref D')) Q E s :=
  SeqAt.eq_tupleAt ⟨_, (N _ m1).1, rfl, _, rfl⟩ ⟨_, (N _ m2).1, rfl, _, rfl⟩ hu (tup3_all (noneBooked (X.keeps F.keep)) ht1 ht2 ht3 hu1 hu2 hu3 e1 e2 e3) h
theorem tup3_ne (F : Fr h₀ L s.heap m) (X : (hd.heap_39 w.params).In h₀) (N : News h₀ L s.heap news) (hu : A.units < cLine)
    (m1 : (D, ({ cls := .type "tuple", data := .seq #[.float x1 t1, .float x2 t2, .float x3 t3] n } : Obj)) ∈ news) (m2 : (D', ({ cls := .type "tuple", data := .seq #[.float y1 u1, .float y2 u2, .float y3 u3] n' } : Obj)) ∈ news)
    (ht1 : t1 ≠ 0) (ht2 : t2 ≠ 0) (ht3 : t3 ≠ 0) (hu1 : u1 ≠ 0) (hu2 : u2 ≠ 0) (hu3 : u3 ≠ 0)
    (e1 : (Float64.cmp x1 y1 == some .eq) = true) (e2 : (Float64.cmp x2 y2 == some .eq) = true) (e3 : (Float64.cmp x3 y3 == some .eq) = true) (h : Q (.bool false) s) :
    wpAny (model prog w) A (compareOp .NotEq (.ref D) (.ref D')) Q E s :=
  SeqAt.RcNeAt.tuples ⟨_, (N _ m1).1, rfl, _, rfl⟩ ⟨_, (N _ m2).1, rfl, _, rfl⟩ hu (tup3_all (noneBooked (X.keeps F.keep)) ht1 ht2 ht3 hu1 hu2 hu3 e1 e2 e3) prog w E Q h
end
theorem execs_cons_pos {M : Model} {A : Around} {st : Stmt} {rest : List Stmt} {env : Env} {Q : Flow → Shared → Prop} {E : Value → Shared → Prop} {h : Heap} {g : Array GenState} {d : Drawn} {X : Nat} {o : OsState} (hp : 0 < X)
    (k : ∀ tk, 0 < tk → wpAny M A (exec st env) (fun f s' => match f with | .next => wpAny M A (execs rest env) Q E s' | f => Q f s') E ⟨h, g, d, tk, o⟩) : wpAny M A (execs (st :: rest) env) Q E ⟨h, g, d, X, o⟩ := wpAny_execs_cons (k X hp)
end Mine
end

section
open PySem PySem.W PyProof.Rows PySem.Spec PySem.Calls
set_option Elab.async false
set_option maxRecDepth 100000
set_option maxHeartbeats 8000000
namespace Mine
def defBody : Stmt → List Stmt | .FunctionDef _ _ b _ _ _ _ _ _ _ => b | _ => []
def defParams : Stmt → Arguments | .FunctionDef _ a _ _ _ _ _ _ _ _ => a | _ => ⟨[], [], none, [], [], none, []⟩
def defScope : Stmt → Scope | .FunctionDef _ _ _ _ _ _ sc _ _ _ => sc | _ => { kind := .function, names := [], isGenerator := false, isCoroutine := false, more := [] }
def innerA : Stmt := nth (defBody (topDef 4)) 1
def innerB : Stmt := nth (defBody (topDef 5)) 0
end Mine
end

section
open PySem PySem.W PyProof.Rows PySem.Spec PySem.Calls
set_option Elab.async false
set_option maxRecDepth 100000
set_option maxHeartbeats 8000000
namespace Mine
theorem foldl_rep (v : Value) : ∀ (k : Nat) (acc : List Value), List.foldl (fun (x1 x2 : Array Value) => x1 ++ x2) acc.toArray (List.replicate k #[v]) = (acc ++ List.replicate k v).toArray
  | 0, acc => by simp
  | k + 1, acc => by
    rw [List.replicate_succ, List.foldl_cons]
    have e : acc.toArray ++ #[v] = (acc ++ [v]).toArray := by simp
    rw [e, foldl_rep v k (acc ++ [v])]
    simp [List.replicate_succ]
theorem mul_one_list {prog : Program} {w : World} {A : Around} {E : Value → Shared → Prop} {s : Shared} {h₀ : Heap} {L : Addr} {m : Str → Option Value} {news : List (Addr × Obj)} {l : Addr} {v : Value} {c : Nat} {x : Int} {u : Tok} {Q : Value → Shared → Prop}
    (F : Fr h₀ L s.heap m) (N : News h₀ L s.heap news) (hl : (l, listOf #[v] c) ∈ news) (h0 : 0 ≤ x) (h1 : x ≤ 64)
    (h : ∀ D h', Fr h₀ L h' m → News h₀ L h' ((D, listOf (List.replicate x.toNat v).toArray 0) :: news) → (∀ q ∈ news, q.1 < D) → Q (.ref D) { s with heap := h' }) :
    wpAny (model prog w) A (binaryOp .Mult (.ref l) (.int x u)) Q E s := by
  refine mul_list (k := c) (items := #[v]) F N (N _ hl).1 (by omega) (by omega) (by have : x.toNat ≤ 64 := by omega
                                                                                    simp; omega) fun h' F' N' => ?_
  refine h _ h' F' ?_ (fun q hq => Heap.lt_size (N q hq).1)
  have e := foldl_rep v x.toNat []
  have e2 : (if (#[v] : Array Value).isEmpty = true then 0 else x.toNat) = x.toNat := by simp
  rw [e2] at N'
  have e3 : (#[] : Array Value) = ([] : List Value).toArray := rfl
  rw [e3, e, List.nil_append] at N'
  exact N'
end Mine
end

section
open PySem PySem.W PyProof.Rows PySem.Spec PySem.Calls
set_option Elab.async false
set_option maxRecDepth 100000
set_option maxHeartbeats 8000000
namespace Mine
structure TailLt (B : Nat) (l : List (Addr × Obj)) : Prop where
  lt : ∀ q ∈ l, q.1 < B
theorem TailLt.ne {B e : Nat} {l : List (Addr × Obj)} (h : TailLt B l) (hb : B ≤ e) : ∀ p ∈ l, p.1 ≠ e := fun p hp => Nat.ne_of_lt (Nat.lt_of_lt_of_le (h.lt p hp) hb)
theorem TailLt.of {B : Nat} {l : List (Addr × Obj)} (h : AllLt B l) : TailLt B l := ⟨ktn_ltOf h⟩
/-- a word that no line of the walk takes: the walk stands there -/
def Stop (P : Prop) : Prop := P
theorem stop_of {P : Prop} (h : Stop P) : P := h
/-- the number that a list of digits tells, the least one first -/
def valD (n : Nat) : List Int → Int
  | [] => 0
  | d :: r => d + 2 ^ n * valD n r
theorem valD_append (n : Nat) (a b : List Int) : valD n (a ++ b) = valD n a + 2 ^ (n * a.length) * valD n b := by
  induction a with
  | nil => simp [valD]
  | cons d r ih =>
    simp only [List.cons_append, valD, ih, List.length_cons]
    rw [Nat.mul_add, Nat.mul_one, Nat.add_comm, Int.pow_add, Int.mul_add, Int.mul_assoc, Int.add_assoc]
end Mine
end

section
open PySem PySem.W PyProof.Rows PySem.Spec PySem.Calls
namespace Mine
theorem nat_and_low (a k : Nat) : a &&& (a / 2 ^ k * 2 ^ k) = a / 2 ^ k * 2 ^ k := by
  apply Nat.eq_of_testBit_eq
  intro i
  rw [Nat.testBit_and, ← Nat.shiftLeft_eq, ← Nat.shiftRight_eq_div_pow, Nat.testBit_shiftLeft, Nat.testBit_shiftRight]
  by_cases h : i ≥ k
  · have e : k + (i - k) = i := by omega
    simp [h, e]
  · simp [h]
theorem bitAnd_nat (a b : Nat) : Builtin.bitAnd (a : Int) (b : Int) = ((a &&& b : Nat) : Int) := by
  unfold Builtin.bitAnd
  simp
theorem xor_low (x : Int) (k : Nat) (h0 : 0 ≤ x) : Builtin.bitXor x (x.fdiv (2 ^ k) * 2 ^ k) = x - x / 2 ^ k * 2 ^ k := by
  obtain ⟨a, rfl⟩ := Int.eq_ofNat_of_zero_le h0
  have e1 : ((a : Nat) : Int).fdiv (2 ^ k) = ((a / 2 ^ k : Nat) : Int) := by
    rw [Int.fdiv_eq_ediv_of_nonneg _ (Int.le_of_lt (Int.pow_pos (by decide)))]
    simp
  have e2 : ((a : Nat) : Int) / (2 ^ k) = ((a / 2 ^ k : Nat) : Int) := by simp
  have e3 : ((a / 2 ^ k : Nat) : Int) * 2 ^ k = ((a / 2 ^ k * 2 ^ k : Nat) : Int) := by simp
  rw [e1, e2, e3, bitXor_and, bitAnd_nat, nat_and_low]
  omega
end Mine
end

section
open PySem PySem.W PyProof.Rows PySem.Spec PySem.Calls
set_option Elab.async false
set_option maxRecDepth 100000
set_option maxHeartbeats 8000000
namespace Mine
section
variable {σ : Type} {prog : Program} {w : World} {A : Around} {E : Value → Shared → Prop} {s : Shared} {env : Env} {h₀ : Heap} {x : Str} {body : List Stmt} {Q : Flow → Shared → Prop}
def ForEnd (h₀ : Heap) (L : Addr) (x : Str) (I : Addr) (oI : Obj) (Led : σ → List (Addr × Obj)) (ps : σ → List (Str × Value)) (stored : List Str) (m₀ : Str → Option Value) (P : σ → Prop) (s s₂ : Shared) : Prop :=
  ∃ (c' : σ) (h' : Heap) (tk : Nat) (m' : Str → Option Value) (news' : List (Addr × Obj)), s₂ = { s with heap := h', toks := tk } ∧ Fr h₀ L h' m' ∧ News h₀ L h' news' ∧ (∀ p ∈ (I, oI) :: Led c', p ∈ news') ∧ (∀ p ∈ Led c', p.1 ≠ I) ∧
    (∀ p ∈ ps c', m' p.1 = some p.2) ∧ (∀ z, z ≠ x → (∀ p ∈ ps c', z ≠ p.1) → stored.contains z = false → m' z = m₀ z) ∧ P c'
def ForPost (h₀ : Heap) (L : Addr) (x : Str) (I : Addr) (oI : Obj) (Led : σ → List (Addr × Obj)) (ps : σ → List (Str × Value)) (stored : List Str) (m₀ : Str → Option Value) (P : σ → Prop) (Q : Flow → Shared → Prop) (s : Shared) (f : Flow) (s₂ : Shared) : Prop :=
  match f with
  | .ret v => Q (.ret v) s₂
  | .brk => Q .next s₂
  | _ => ForEnd h₀ L x I oI Led ps stored m₀ P s s₂
theorem for_end {L I : Addr} {oI : Obj} {Led : σ → List (Addr × Obj)} {ps : σ → List (Str × Value)} {stored : List Str} {m₀ m' : Str → Option Value} {P : σ → Prop} {h' : Heap} {tk : Nat} {news' : List (Addr × Obj)} (c' : σ)
    (F : Fr h₀ L h' m') (N : News h₀ L h' news') (hn : ∀ p ∈ (I, oI) :: Led c', p ∈ news') (ho : ∀ p ∈ Led c', p.1 ≠ I) (hk : ∀ p ∈ ps c', m' p.1 = some p.2) (hr : ∀ z, z ≠ x → (∀ p ∈ ps c', z ≠ p.1) → stored.contains z = false → m' z = m₀ z) (hp : P c') :
    ForEnd h₀ L x I oI Led ps stored m₀ P s { s with heap := h', toks := tk } := ⟨c', h', tk, m', news', rfl, F, N, hn, ho, hk, hr, hp⟩
theorem for_walks {PI : Obj → Prop} {I : Addr} {fp : List Addr} {n : Nat} {P : Nat → Value → Prop} {St : Nat → Heap → Prop} {m₀ : Str → Option Value} (W : Walks prog w A I fp [I] n P St) (Led : σ → List (Addr × Obj)) (ps : σ → List (Str × Value)) (stored : List Str) (Inv : Nat → σ → Prop) (c₀ : σ)
    (hIf : I ∈ fp) (hLf : env.locals ∉ fp) (hI₀ : h₀.get? I = none) (hst : St 0 s.heap) (hSt : ∀ i h, St i h → ∃ o, h.get? I = some o ∧ PI o)
    (hfp : ∀ b ∈ fp, b ≠ I → (∃ o, h₀.get? b = some o) ∨ ∃ o, ∀ c, (b, o) ∈ Led c)
    (F : Fr h₀ env.locals s.heap m₀) (N : News h₀ env.locals s.heap (Led c₀)) (hne : ∀ p ∈ Led c₀, p.1 ≠ I) (hk : ∀ p ∈ ps c₀, m₀ p.1 = some p.2) (h0 : Inv 0 c₀)
    (turn : ∀ i v c (u : Str → Option Value) h tk oI, i < n → P i v → Inv i c → (∀ p ∈ Led c, p.1 ≠ I) → PI oI → Fr h₀ env.locals h (fun y => if y = x then some v else kstB (fun z => if stored.contains z then u z else m₀ z) (ps c) y) → News h₀ env.locals h ((I, oI) :: Led c) →
      wpAny (model prog w) A (execs body env) (ForPost h₀ env.locals x I oI Led ps stored m₀ (Inv (i + 1)) Q { s with heap := h, toks := tk }) E { s with heap := h, toks := tk })
    (done : ∀ c (u : Str → Option Value) h tk, Inv n c → Fr h₀ env.locals h (fun y => if y = x then u y else kstB (fun z => if stored.contains z then u z else m₀ z) (ps c) y) → News h₀ env.locals h (Led c) → Q .next { s with heap := h, toks := tk }) :
    LoopAtV prog w A h₀ env x body Q E (.ref I) s := by
  let J : Nat → (Str → Option Value) → List (Addr × Obj) → Prop := fun i m nx => ∃ c, nx = Led c ∧ Inv i c ∧ (∀ p ∈ ps c, m p.1 = some p.2) ∧ (∀ z, z ≠ x → (∀ p ∈ ps c, z ≠ p.1) → stored.contains z = false → m z = m₀ z)
  refine ⟨I, fp, [I], n, P, St, m₀, Led c₀, J, rfl, W, hLf, ?_, ?_, hst, F, N, ⟨c₀, rfl, h0, hk, fun _ _ _ _ => rfl⟩, ?_, ?_⟩
  · intro b hb
    rw [List.mem_singleton.mp hb]
    exact hI₀
  · intro p hp hI
    exact hne p hp (List.mem_singleton.mp hI)
  · rintro i v m₁ news₁ s₁ own ⟨hh', tk', rfl⟩ hin hP ⟨c, hnx, hJ, hm1, hm2⟩ hoff h5 _ h7 hs F₁ N₁
    subst hnx
    obtain ⟨oI, hoI, hPI⟩ := hSt _ _ hs
    have hmemI : (I, oI) ∈ own := h7 I hIf hI₀ oI hoI
    have hoff' : ∀ p ∈ Led c, p.1 ≠ I := fun p hp e => hoff p hp (List.mem_singleton.mpr e)
    have NI : News h₀ env.locals hh' ((I, oI) :: Led c) := fun p hp => by
      rcases List.mem_cons.mp hp with rfl | hp
      · exact N₁ _ (List.mem_append.mpr (.inl hmemI))
      · exact N₁ p (List.mem_append.mpr (.inr hp))
    have own1 : ∀ p ∈ own, p = (I, oI) ∨ ∀ c, p ∈ Led c := fun p hp => by
      have a := N₁ p (List.mem_append.mpr (.inl hp))
      rcases Decidable.em (p.1 = I) with q | q
      · have c := a.1
        rw [q] at c
        exact .inl (Prod.ext q (Option.some.inj (c.symm.trans hoI)))
      · rcases hfp p.1 (h5 p hp) q with ⟨o, ho⟩ | ⟨o, ho⟩
        · rw [a.2.2] at ho
          cases ho
        · have a2 := (N₁ (p.1, o) (List.mem_append.mpr (.inr (ho c)))).1
          have e3 : p.2 = o := Option.some.inj (a.1.symm.trans a2)
          refine .inr fun c => ?_
          have := ho c
          rw [← e3] at this
          exact this
    refine wpAny_mono (turn i v c m₁ hh' tk' oI hin hP hJ hoff' hPI (kst_fr hm1 hm2 F₁) NI) (fun f s₂ p => ?_) fun _ _ e => e
    have fin : ForEnd h₀ env.locals x I oI Led ps stored m₀ (Inv (i + 1)) { s with heap := hh', toks := tk' } s₂ → LoopStepU h₀ env.locals [I] own (J (i + 1)) { s with heap := hh', toks := tk' } .next s₂ := by
      rintro ⟨c', h', tk, m', news', e, F', N', hn, ho, hk', hr', hp'⟩
      refine ⟨rfl, h', tk, m', Led c', e, F', fun p hp => ?_, fun p hp hI => ho p hp (List.mem_singleton.mp hI), c', rfl, hp', hk', hr'⟩
      rcases List.mem_append.mp hp with hp | hp
      · rcases own1 p hp with rfl | h
        · exact N' _ (hn _ List.mem_cons_self)
        · exact N' p (hn p (List.mem_cons_of_mem _ (h c')))
      · exact N' p (hn p (List.mem_cons_of_mem _ hp))
    cases f with
    | ret v => exact .ret p
    | brk => exact .brk p
    | next => exact .next (fin p)
    | cont => exact .cont (fin p)
  · rintro h' tk m' news' F' N' _ ⟨c, hnx, hJ, hm1, hm2⟩
    subst hnx
    exact done c m' h' tk hJ (kst_frOut hm1 hm2 F') N'
/-- for x in an iterator of a list from behind, both in the ledger -/
theorem for_rev {ax I : Addr} {lo : Obj} {vs : List Value} {nk : Nat} {m₀ : Str → Option Value} (Led : σ → List (Addr × Obj)) (ps : σ → List (Str × Value)) (stored : List Str) (Inv : Nat → σ → Prop) (c₀ : σ)
    (hh : A.handled = none) (F : Fr h₀ env.locals s.heap m₀) (N : News h₀ env.locals s.heap ((I, revObj ax ((vs.length : Int) - 1)) :: Led c₀)) (hne : ∀ p ∈ Led c₀, p.1 ≠ I) (hm : ∀ c, (ax, lo) ∈ Led c) (hc : lo.cls = .type "list") (hd : lo.data = .seq vs.toArray nk)
    (hk : ∀ p ∈ ps c₀, m₀ p.1 = some p.2) (h0 : Inv 0 c₀)
    (turn : ∀ i v c (u : Str → Option Value) h tk oI, vs.reverse[i]? = some v → Inv i c → (∀ p ∈ Led c, p.1 ≠ I) → Fr h₀ env.locals h (fun y => if y = x then some v else kstB (fun z => if stored.contains z then u z else m₀ z) (ps c) y) → News h₀ env.locals h ((I, oI) :: Led c) →
      wpAny (model prog w) A (execs body env) (ForPost h₀ env.locals x I oI Led ps stored m₀ (Inv (i + 1)) Q { s with heap := h, toks := tk }) E { s with heap := h, toks := tk })
    (done : ∀ c (u : Str → Option Value) h tk, Inv vs.length c → Fr h₀ env.locals h (fun y => if y = x then u y else kstB (fun z => if stored.contains z then u z else m₀ z) (ps c) y) → News h₀ env.locals h (Led c) → Q .next { s with heap := h, toks := tk }) :
    wpAny (model prog w) A (pyIter (.ref I)) (fun it s₂ => LoopAtV prog w A h₀ env x body Q E it s₂) E s := by
  have hIx := N _ (List.mem_cons_self ..)
  have hax := N _ (List.mem_cons_of_mem _ (hm c₀))
  have hl : s.heap.IsList ax vs.toArray := ⟨lo, hax.1, hc, nk, hd⟩
  have hne' : ax ≠ I := hne _ (hm c₀)
  have hit : s.heap.IsRevIter I ax ((vs.length : Int) - 1) := ⟨_, hIx.1, rfl, rfl⟩
  refine wpAny_pyIter_revIter hit ?_
  have W := Walks.listRev (prog := prog) (w := w) hh I ax hne' vs.toArray
  have hlen : vs.toArray.size = vs.length := by simp
  rw [hlen] at W
  refine for_walks (PI := fun _ => True) W Led ps stored Inv c₀ (List.mem_cons_self ..) ?_ hIx.2.2 ⟨Nat.zero_le _, ?_, hl⟩ (fun i h st => by obtain ⟨o, e, _⟩ := st.2.1; exact ⟨o, e, trivial⟩) ?_ F (fun p hp => N p (List.mem_cons_of_mem _ hp)) hne hk h0 ?_ done
  · intro hmm
    rcases List.mem_cons.mp hmm with e | hmm
    · exact hIx.2.1 e.symm
    · exact hax.2.1 (List.mem_singleton.mp hmm).symm
  · have e : (vs.length : Int) - 1 - ((0 : Nat) : Int) = (vs.length : Int) - 1 := by omega
    rw [e]
    exact hit
  · intro b hb q
    rcases List.mem_cons.mp hb with e | hb
    · exact absurd e q
    · rw [List.mem_singleton.mp hb]
      exact .inr ⟨lo, hm⟩
  · intro i v c u h tk oI hi hP hJ hoff _
    refine turn i v c u h tk oI ?_ hJ hoff
    rw [List.getElem?_reverse hi]
    simpa using hP
/-- for x in range(b₀), the range made new -/
theorem for_range {r : Addr} {b₀ : Int} {t₀ u₀ v₀ : Tok} {n : Nat} {m₀ : Str → Option Value} (Led : σ → List (Addr × Obj)) (ps : σ → List (Str × Value)) (stored : List Str) (Inv : Nat → σ → Prop) (c₀ : σ)
    (hh : A.handled = none) (hr : IsRange s.heap r 0 b₀ 1 t₀ u₀ v₀) (hsmall : Builtin.Range.small 0 b₀ 1 = true) (hn : Builtin.Range.rangeSize 0 b₀ 1 = (n : Int)) (F : Fr h₀ env.locals s.heap m₀) (N : News h₀ env.locals s.heap (Led c₀))
    (hk : ∀ p ∈ ps c₀, m₀ p.1 = some p.2) (h0 : Inv 0 c₀)
    (turn : ∀ (i : Nat) t c (u : Str → Option Value) h tk I oI, i < n → Inv i c → (∀ p ∈ Led c, p.1 ≠ I) → (∀ p ∈ Led c₀, p.1 < I) → Fr h₀ env.locals h (fun y => if y = x then some (.int i t) else kstB (fun z => if stored.contains z then u z else m₀ z) (ps c) y) → News h₀ env.locals h ((I, oI) :: Led c) →
      wpAny (model prog w) A (execs body env) (ForPost h₀ env.locals x I oI Led ps stored m₀ (Inv (i + 1)) Q { s with heap := h, toks := tk }) E { s with heap := h, toks := tk })
    (done : ∀ c (u : Str → Option Value) h tk, Inv n c → Fr h₀ env.locals h (fun y => if y = x then u y else kstB (fun z => if stored.contains z then u z else m₀ z) (ps c) y) → News h₀ env.locals h (Led c) → Q .next { s with heap := h, toks := tk }) :
    wpAny (model prog w) A (pyIter (.ref r)) (fun it s₂ => LoopAtV prog w A h₀ env x body Q E it s₂) E s := by
  refine wpAny_pyIter_range hr hsmall ?_
  have W : Walks prog w A s.heap.objs.size [s.heap.objs.size] [s.heap.objs.size] n (fun i v => i < n ∧ ∃ t, v = .int (0 + i * 1) t)
      (fun i h => IsRangeIter h s.heap.objs.size (0 + (i : Nat) * 1) ((n : Int) - (i : Nat)) 1) := (Walks.range hh _ 0 1 n).bound
  refine for_walks (PI := fun _ => True) W Led ps stored Inv c₀ (List.mem_cons_self ..) ?_ (next_is_new F) (by show IsRangeIter _ _ _ _ _; rw [hn]; simpa using Heap.get?_push_size _ rfl) (fun i h st => ⟨_, st, trivial⟩) (fun b hb q => absurd (List.mem_singleton.mp hb) q) (F.push _) (fun p hp => ⟨Heap.get?_push_of_some _ (N p hp).1, (N p hp).2⟩) (fun p hp => Nat.ne_of_lt (Heap.lt_size (N p hp).1)) hk h0 ?_ done
  · intro hm
    exact absurd F.ns.lt ((List.mem_singleton.mp hm) ▸ Nat.lt_irrefl _)
  · rintro i v c u h tk oI hi ⟨_, t, rfl⟩ hJ hoff _ F' N'
    have e : (0 : Int) + (i : Int) * 1 = i := by omega
    rw [e] at F'
    exact turn i t c u h tk _ oI hi hJ hoff (fun p hp => Heap.lt_size (N p hp).1) F' N'
/-- for x in a list of the ledger -/
theorem for_list {ax : Addr} {lo : Obj} {vs : List Value} {nk : Nat} {m₀ : Str → Option Value} (Led : σ → List (Addr × Obj)) (ps : σ → List (Str × Value)) (stored : List Str) (Inv : Nat → σ → Prop) (c₀ : σ)
    (hh : A.handled = none) (F : Fr h₀ env.locals s.heap m₀) (N : News h₀ env.locals s.heap (Led c₀)) (hm : ∀ c, (ax, lo) ∈ Led c) (hc : lo.cls = .type "list") (hd : lo.data = .seq vs.toArray nk)
    (hk : ∀ p ∈ ps c₀, m₀ p.1 = some p.2) (h0 : Inv 0 c₀)
    (turn : ∀ i v c (u : Str → Option Value) h tk I oI, vs[i]? = some v → Inv i c → (∀ p ∈ Led c, p.1 ≠ I) → (∀ p ∈ Led c₀, p.1 < I) → (∃ (l : Addr) (k : Int), oI.data = .fields #[.ref l, .int k 0]) → Fr h₀ env.locals h (fun y => if y = x then some v else kstB (fun z => if stored.contains z then u z else m₀ z) (ps c) y) → News h₀ env.locals h ((I, oI) :: Led c) →
      wpAny (model prog w) A (execs body env) (ForPost h₀ env.locals x I oI Led ps stored m₀ (Inv (i + 1)) Q { s with heap := h, toks := tk }) E { s with heap := h, toks := tk })
    (done : ∀ c (u : Str → Option Value) h tk, Inv vs.length c → Fr h₀ env.locals h (fun y => if y = x then u y else kstB (fun z => if stored.contains z then u z else m₀ z) (ps c) y) → News h₀ env.locals h (Led c) → Q .next { s with heap := h, toks := tk }) :
    wpAny (model prog w) A (pyIter (.ref ax)) (fun it s₂ => LoopAtV prog w A h₀ env x body Q E it s₂) E s := by
  have hax := N _ (hm c₀)
  have hls : s.heap.IsList ax vs.toArray := ⟨lo, hax.1, hc, nk, hd⟩
  have hne : ax ≠ s.heap.objs.size := Nat.ne_of_lt (Heap.lt_size hax.1)
  refine wpAny_pyIter_list hls ?_
  have W := Walks.list (prog := prog) (w := w) hh s.heap.objs.size ax hne vs.toArray
  have hlen : vs.toArray.size = vs.length := by simp
  rw [hlen] at W
  refine for_walks (PI := fun o => ∃ (l : Addr) (k : Int), o.data = .fields #[.ref l, .int k 0]) W Led ps stored Inv c₀ (List.mem_cons_self ..) ?_ (next_is_new F) ⟨⟨_, Heap.get?_push_size _ rfl, rfl, rfl⟩, hls.at fun o e => Heap.get?_push_of_some _ e⟩ (fun i h st => by obtain ⟨o, e, _, hd⟩ := st.1; exact ⟨o, e, _, _, hd⟩) ?_ (F.push _) (fun p hp => ⟨Heap.get?_push_of_some _ (N p hp).1, (N p hp).2⟩) (fun p hp => Nat.ne_of_lt (Heap.lt_size (N p hp).1)) hk h0 ?_ done
  · intro hmm
    rcases List.mem_cons.mp hmm with e | hmm
    · exact absurd F.ns.lt (e ▸ Nat.lt_irrefl _)
    · exact hax.2.1 (List.mem_singleton.mp hmm).symm
  · intro b hb q
    rcases List.mem_cons.mp hb with e | hb
    · exact absurd e q
    · rw [List.mem_singleton.mp hb]
      exact .inr ⟨lo, hm⟩
  · intro i v c u h tk oI hi hP hJ hoff hPI F' N'
    exact turn i v c u h tk _ oI (by simpa using hP) hJ hoff (fun p hp => Heap.lt_size (N p hp).1) hPI F' N'
end
end Mine
end

section
namespace Mine
/-- the sum of the floors of (first + i * leap) / size, i below n -/
def fsum (size leap first : Int) : Nat → Int
  | 0 => 0
  | n + 1 => fsum size leap first n + (first + n * leap) / size
theorem tri_step (n : Nat) : ((n + 1 : Nat) : Int) * (((n + 1 : Nat) : Int) - 1) / 2 = (n : Int) * ((n : Int) - 1) / 2 + n := by
  have e : ((n + 1 : Nat) : Int) * (((n + 1 : Nat) : Int) - 1) = (n : Int) * ((n : Int) - 1) + n * 2 := by
    rw [Int.natCast_add]
    have : ((n : Int) + (1 : Nat) - 1) = n := by (first | lia | omega)
    rw [this, Int.add_mul, Int.mul_sub]
    (first | lia | omega)
  rw [e, Int.add_mul_ediv_right _ _ (by decide)]
theorem fsum_reduce {size : Int} (hs : 0 < size) (leap first : Int) (n : Nat) : fsum size leap first n = (n : Int) * ((n : Int) - 1) / 2 * (leap / size) + n * (first / size) + fsum size (leap % size) (first % size) n := by
  induction n with
  | zero => simp [fsum]
  | succ n ih =>
    have hl := Int.mul_ediv_add_emod leap size
    have hf := Int.mul_ediv_add_emod first size
    have e1 : (first + n * leap) / size = (first % size + n * (leap % size)) / size + (first / size + n * (leap / size)) := by
      have : first + n * leap = (first % size + n * (leap % size)) + size * (first / size + n * (leap / size)) := by
        rw [Int.mul_add]
        have a1 : size * ((n : Int) * (leap / size)) = n * (size * (leap / size)) := by ac_rfl
        rw [a1]
        have a2 : (n : Int) * leap = n * (size * (leap / size)) + n * (leap % size) := by rw [← Int.mul_add, hl]
        (first | lia | omega)
      rw [this, Int.add_mul_ediv_left _ _ (Int.ne_of_gt hs)]
    show fsum size leap first n + (first + n * leap) / size = _ + (fsum size (leap % size) (first % size) n + (first % size + n * (leap % size)) / size)
    rw [ih, e1, tri_step, Int.add_mul, Int.natCast_add, Int.add_mul]
    (first | lia | omega)
theorem fsum_small {size leap first : Int} (h0 : 0 ≤ leap) (hf0 : 0 ≤ first) : ∀ {n : Nat}, leap * n + first < size → fsum size leap first n = 0
  | 0, _ => rfl
  | n + 1, h => by
    have e : leap * ((n + 1 : Nat) : Int) = leap * n + leap := by rw [Int.natCast_add, Int.mul_add]; simp
    have a := Int.mul_nonneg h0 (Int.natCast_nonneg n)
    show fsum size leap first n + (first + n * leap) / size = 0
    rw [fsum_small h0 hf0 (n := n) (by (first | lia | omega)), Int.mul_comm (n : Int), Int.ediv_eq_zero_of_lt (by (first | lia | omega)) (by (first | lia | omega))]; rfl
/-- the sum over 1 .. k of (N - m y) / a -/
def hsum (a m N : Int) : Nat → Int
  | 0 => 0
  | k + 1 => hsum a m N k + (N - m * ((k + 1 : Nat) : Int)) / a
theorem hsum_step {a : Int} (ha : 0 < a) (m N : Int) : ∀ k : Nat, hsum a m (N + a) k = hsum a m N k + k
  | 0 => rfl
  | k + 1 => by
    show hsum a m (N + a) k + (N + a - m * ((k + 1 : Nat) : Int)) / a = hsum a m N k + (N - m * ((k + 1 : Nat) : Int)) / a + ((k + 1 : Nat) : Int)
    have e : N + a - m * ((k + 1 : Nat) : Int) = (N - m * ((k + 1 : Nat) : Int)) + a * 1 := by (first | lia | omega)
    rw [hsum_step ha m N k, e, Int.add_mul_ediv_left _ _ (Int.ne_of_gt ha)]
    (first | lia | omega)
theorem hsum_more {a m N : Int} {k : Nat} : ∀ j : Nat, (∀ y : Nat, k < y → y ≤ k + j → 0 ≤ N - m * (y : Int) ∧ N - m * (y : Int) < a) → hsum a m N (k + j) = hsum a m N k
  | 0, _ => rfl
  | j + 1, h => by
    show hsum a m N (k + j) + (N - m * ((k + j + 1 : Nat) : Int)) / a = _
    have h1 := h (k + j + 1) (by (first | lia | omega)) (by (first | lia | omega))
    rw [hsum_more j (fun y h1 h2 => h y h1 (by (first | lia | omega))), Int.ediv_eq_zero_of_lt h1.1 h1.2, Int.add_zero]
theorem euclid_h {a b m : Int} (ha : 0 < a) (hm : 0 < m) (hb0 : 0 ≤ b) (hb1 : b < m) : ∀ n : Nat, fsum m a b n = hsum a m (a * n + b) ((a * n + b) / m).toNat
  | 0 => by
    have e : (a * ((0 : Nat) : Int) + b) / m = 0 := by simp; exact Int.ediv_eq_zero_of_lt hb0 hb1
    rw [e]; rfl
  | n + 1 => by
    have e0 : a * ((n + 1 : Nat) : Int) + b = (a * n + b) + a := by rw [Int.natCast_add, Int.mul_add]; (first | lia | omega)
    show fsum m a b n + (b + n * a) / m = _
    rw [euclid_h ha hm hb0 hb1 n, e0]
    have hN0 : 0 ≤ a * n + b := Int.add_nonneg (Int.mul_nonneg (Int.le_of_lt ha) (Int.natCast_nonneg n)) hb0
    have ec : b + (n : Int) * a = a * n + b := by rw [Int.mul_comm, Int.add_comm]
    rw [ec]
    generalize a * (n : Int) + b = N at *
    have hq0 : 0 ≤ N / m := Int.ediv_nonneg hN0 (Int.le_of_lt hm)
    have hq1 : N / m ≤ (N + a) / m := Int.ediv_le_ediv hm (by (first | lia | omega))
    have ek : ((N + a) / m).toNat = (N / m).toNat + (((N + a) / m).toNat - (N / m).toNat) := by (first | lia | omega)
    rw [ek, hsum_more, hsum_step ha, Int.toNat_of_nonneg hq0]
    intro y h1 h2
    have y1 : N / m < (y : Int) := by (first | lia | omega)
    have y2 : (y : Int) ≤ (N + a) / m := by (first | lia | omega)
    have z1 := Int.mul_le_of_le_ediv hm y2
    have z2 := Int.lt_mul_of_ediv_lt hm y1
    rw [Int.mul_comm] at z1 z2
    (first | lia | omega)
theorem hsum_rev {a m N : Int} (hm : 0 < m) : ∀ k : Nat, (k : Int) ≤ N / m → hsum a m N k + fsum a m (N % m) ((N / m).toNat - k) = fsum a m (N % m) (N / m).toNat
  | 0, _ => by simp [hsum]
  | k + 1, h => by
    have e1 : (N / m).toNat - k = ((N / m).toNat - (k + 1)) + 1 := by (first | lia | omega)
    have ih := hsum_rev (a := a) (N := N) hm k (by (first | lia | omega))
    rw [e1] at ih
    rw [← ih]
    show hsum a m N k + (N - m * ((k + 1 : Nat) : Int)) / a + _ = hsum a m N k + (fsum a m (N % m) ((N / m).toNat - (k + 1)) + (N % m + (((N / m).toNat - (k + 1) : Nat) : Int) * m) / a)
    have e2 : N % m + (((N / m).toNat - (k + 1) : Nat) : Int) * m = N - m * ((k + 1 : Nat) : Int) := by
      have h1 := Int.mul_ediv_add_emod N m
      have h2 : (((N / m).toNat - (k + 1) : Nat) : Int) = N / m - ((k + 1 : Nat) : Int) := by (first | lia | omega)
      rw [h2, Int.sub_mul, Int.mul_comm (N / m), Int.mul_comm _ m]
      (first | lia | omega)
    rw [e2]
    (first | lia | omega)
/-- Euclid's step: the two axes change places -/
theorem fsum_swap {a b m : Int} {n : Nat} (ha : 0 < a) (hm : 0 < m) (hb0 : 0 ≤ b) (hb1 : b < m) : fsum m a b n = fsum a m ((a * n + b) % m) ((a * n + b) / m).toNat := by
  have hN0 : 0 ≤ a * n + b := Int.add_nonneg (Int.mul_nonneg (Int.le_of_lt ha) (Int.natCast_nonneg n)) hb0
  have hq0 : 0 ≤ (a * n + b) / m := Int.ediv_nonneg hN0 (Int.le_of_lt hm)
  have h := hsum_rev (a := a) (N := a * n + b) hm ((a * n + b) / m).toNat (by (first | lia | omega))
  rw [euclid_h ha hm hb0 hb1, ← h]
  simp [fsum]
/-- how many of the first n places lie below the mark -/
def below (size leap first mark : Int) : Nat → Int
  | 0 => 0
  | n + 1 => below size leap first mark n + (if (first + n * leap) % size < mark then 1 else 0)
theorem floor_less {x size mark : Int} (hs : 0 < size) (h0 : 0 ≤ mark) (h1 : mark ≤ size) : x / size - (x - mark) / size = if x % size < mark then 1 else 0 := by
  have e := Int.mul_ediv_add_emod x size
  have r0 := Int.emod_nonneg x (Int.ne_of_gt hs)
  have r1 := Int.emod_lt_of_pos x hs
  split
  · rename_i h
    have h2 := (Int.ediv_emod_unique (a := x - mark) (b := size) (q := x / size - 1) (r := x % size - mark + size) hs).mpr ⟨by rw [Int.mul_sub, Int.mul_one]; (first | lia | omega), by (first | lia | omega), by (first | lia | omega)⟩
    rw [h2.1]; (first | lia | omega)
  · rename_i h
    have h2 := (Int.ediv_emod_unique (a := x - mark) (b := size) (q := x / size) (r := x % size - mark) hs).mpr ⟨by (first | lia | omega), by (first | lia | omega), by (first | lia | omega)⟩
    rw [h2.1]; (first | lia | omega)
theorem fsum_below {size leap first mark : Int} (hs : 0 < size) (h0 : 0 ≤ mark) (h1 : mark ≤ size) : ∀ n : Nat, fsum size leap first n - fsum size leap (first - mark) n = below size leap first mark n
  | 0 => rfl
  | n + 1 => by
    have ih := fsum_below (leap := leap) (first := first) hs h0 h1 n
    have h2 := floor_less (x := first + n * leap) hs h0 h1
    have e : first - mark + n * leap = first + n * leap - mark := by (first | lia | omega)
    show fsum size leap first n + (first + n * leap) / size - (fsum size leap (first - mark) n + (first - mark + n * leap) / size) = below size leap first mark n + _
    rw [e, ← h2, ← ih]
    (first | lia | omega)
end Mine
end

section
namespace Mine
/-- the upInts below n -/
def upInts (n : Nat) : List Int := (List.range n).map Int.ofNat
theorem upInts_succ (n : Nat) : upInts (n + 1) = upInts n ++ [(n : Int)] := by unfold upInts; rw [List.range_succ, List.map_append]; rfl
theorem mem_upInts {n : Nat} {a : Int} : a ∈ upInts n ↔ 0 ≤ a ∧ a < n := by
  unfold upInts
  rw [List.mem_map]
  constructor
  · rintro ⟨i, hi, rfl⟩
    have := List.mem_range.mp hi
    rw [Int.ofNat_eq_natCast]
    (first | lia | omega)
  · intro h
    exact ⟨a.toNat, List.mem_range.mpr (by (first | lia | omega)), by rw [Int.ofNat_eq_natCast]; (first | lia | omega)⟩
theorem upInts_length (n : Nat) : (upInts n).length = n := by unfold upInts; simp
/-- the upInts below n, laid by rank -/
structure RowOf (r : Int → Int) (n : Nat) (is : List Int) : Prop where
  perm : is.Perm (upInts n)
  sorted : is.Pairwise (fun a b => r a < r b)
theorem RowOf.nil (r : Int → Int) : RowOf r 0 [] := ⟨List.Perm.refl _, List.Pairwise.nil⟩
theorem RowOf.length {r : Int → Int} {n : Nat} {is : List Int} (h : RowOf r n is) : is.length = n := by rw [h.perm.length_eq, upInts_length]
theorem RowOf.mem {r : Int → Int} {n : Nat} {is : List Int} (h : RowOf r n is) {a : Int} (ha : a ∈ is) : 0 ≤ a ∧ a < n := mem_upInts.mp ((h.perm.mem_iff).mp ha)
theorem getD_mem {is : List Int} {j : Nat} (h : j < is.length) : is.getD j 0 ∈ is := by
  rw [List.getD_eq_getElem?_getD, List.getElem?_eq_getElem h]; exact List.getElem_mem h
theorem getD_elem {is : List Int} {j : Nat} (h : j < is.length) : is.getD j 0 = is[j] := by
  rw [List.getD_eq_getElem?_getD, List.getElem?_eq_getElem h]; rfl
theorem RowOf.step {r : Int → Int} {n q : Nat} {is : List Int} (h : RowOf r n is) (hq : q ≤ is.length) (h1 : ∀ j, j < q → r (is.getD j 0) < r n) (h2 : ∀ j, q ≤ j → j < is.length → r n < r (is.getD j 0)) :
    RowOf r (n + 1) (is.take q ++ (n : Int) :: is.drop q) := by
  constructor
  · rw [upInts_succ]
    refine (List.perm_middle).trans ?_
    rw [List.take_append_drop]
    exact (List.Perm.cons _ h.perm).trans (List.perm_append_comm (l₁ := [(n : Int)]))
  · rw [List.pairwise_append]
    have hs := h.sorted
    refine ⟨hs.sublist (List.take_sublist _ _), ?_, ?_⟩
    · rw [List.pairwise_cons]
      refine ⟨fun b hb => ?_, hs.sublist (List.drop_sublist _ _)⟩
      obtain ⟨i, hi, rfl⟩ := List.getElem_of_mem hb
      rw [List.length_drop] at hi
      have := h2 (q + i) (by (first | lia | omega)) (by (first | lia | omega))
      rw [getD_elem (by (first | lia | omega))] at this
      rw [List.getElem_drop]; exact this
    · intro a ha b hb
      obtain ⟨i, hi, rfl⟩ := List.getElem_of_mem ha
      rw [List.length_take] at hi
      rw [List.getElem_take]
      have a1 := h1 i (by (first | lia | omega))
      rw [getD_elem (by (first | lia | omega))] at a1
      rcases List.mem_cons.mp hb with rfl | hb
      · exact a1
      · obtain ⟨j, hj, rfl⟩ := List.getElem_of_mem hb
        rw [List.length_drop] at hj
        have a2 := h2 (q + j) (by (first | lia | omega)) (by (first | lia | omega))
        rw [getD_elem (by (first | lia | omega))] at a2
        rw [List.getElem_drop]
        exact Int.lt_trans a1 a2
theorem RowOf.unique {r : Int → Int} {n : Nat} {is js : List Int} (h : RowOf r n is) (h' : RowOf r n js) : is = js := by
  refine List.Perm.eq_of_pairwise (fun a b _ _ h1 h2 => ?_) h.sorted h'.sorted (h.perm.trans h'.perm.symm)
  (first | lia | omega)
theorem RowOf.get {r : Int → Int} {n : Nat} {is : List Int} (h : RowOf r n is) {i j : Nat} (hij : i ≤ j) (hj : j < n) : i = j ∨ r (is.getD i 0) < r (is.getD j 0) := by
  have hl := h.length
  rcases Nat.lt_or_ge i j with c | c
  · right
    rw [getD_elem (by (first | lia | omega)), getD_elem (by (first | lia | omega))]
    exact (List.pairwise_iff_getElem.mp h.sorted) i j (by (first | lia | omega)) (by (first | lia | omega)) c
  · left; (first | lia | omega)
theorem mono_count (p : Int → Bool) : ∀ l : List Int, (∀ i j : Nat, i ≤ j → j < l.length → p (l.getD j 0) = true → p (l.getD i 0) = true) → ∀ j, j < l.length → (p (l.getD j 0) = true ↔ j < l.countP p)
  | [], _, j, hj => absurd hj (Nat.not_lt_zero _)
  | a :: l, h, j, hj => by
    have ih := mono_count p l (fun i j h1 h2 h3 => by simpa using h (i + 1) (j + 1) (by (first | lia | omega)) (by simpa using h2) (by simpa using h3))
    cases ha : p a with
    | true =>
      rw [List.countP_cons_of_pos ha]
      cases j with
      | zero => simp [ha]
      | succ j => simpa using ih j (by simpa using hj)
    | false =>
      have hz : l.countP p = 0 := by
        rw [List.countP_eq_zero]
        intro b hb
        obtain ⟨i, hi, rfl⟩ := List.getElem_of_mem hb
        intro hp
        have := h 0 (i + 1) (by (first | lia | omega)) (by simpa using hi) (by simpa [hi] using hp)
        simp [ha] at this
      rw [List.countP_cons_of_neg (by simp [ha]), hz]
      constructor
      · intro hp
        have := h 0 j (by (first | lia | omega)) hj hp
        simp [ha] at this
      · intro h0; (first | lia | omega)
theorem clamp_eq {n full lo hi r : Int} {p : Nat → Prop} (h0 : 0 ≤ lo) (h1 : lo ≤ hi) (h2 : hi ≤ n) (hf0 : 0 ≤ full) (hp : ∀ j : Nat, (j : Int) < n → (p j ↔ (j : Int) < full)) (r0 : lo ≤ r) (r1 : r ≤ hi)
    (hl : ∀ j : Nat, lo ≤ (j : Int) → (j : Int) < r → p j) (hr : ∀ j : Nat, r ≤ (j : Int) → (j : Int) < hi → ¬ p j) : r = min (max full lo) hi := by
  have a1 : r ≤ max full lo := by
    by_cases c : lo < r
    · have := (hp (r - 1).toNat (by (first | lia | omega))).mp (hl (r - 1).toNat (by (first | lia | omega)) (by (first | lia | omega)))
      (first | lia | omega)
    · (first | lia | omega)
  have a2 : min (max full lo) hi ≤ r := by
    by_cases c : r < hi
    · have := mt (hp r.toNat (by (first | lia | omega))).mpr (hr r.toNat (by (first | lia | omega)) (by (first | lia | omega)))
      (first | lia | omega)
    · (first | lia | omega)
  (first | lia | omega)
theorem below_count (size leap first mark : Int) : ∀ n : Nat, below size leap first mark n = (((upInts n).countP fun i => decide ((first + i * leap) % size < mark) : Nat) : Int)
  | 0 => rfl
  | n + 1 => by
    rw [upInts_succ, List.countP_append]
    show below size leap first mark n + _ = _
    rw [below_count size leap first mark n]
    by_cases c : (first + n * leap) % size < mark
    · rw [if_pos c]; simp [c]
    · rw [if_neg c]; simp [c]
/-- rank among like hues as they came -/
def rankR (H : Int → Int) (a : Int) : Int := H a * 64 + a
/-- rank among like hues the last first -/
def rankL (H : Int → Int) (a : Int) : Int := H a * 64 - a
theorem RowOf.hueR {H : Int → Int} {n : Nat} {is : List Int} (h : RowOf (rankR H) n is) (hn : n ≤ 64) {i j : Nat} (hij : i ≤ j) (hj : j < n) : H (is.getD i 0) ≤ H (is.getD j 0) := by
  have hl := h.length
  rcases h.get hij hj with e | e
  · rw [e]; exact Int.le_refl _
  · have a1 := h.mem (getD_mem (is := is) (j := i) (by (first | lia | omega)))
    have a2 := h.mem (getD_mem (is := is) (j := j) (by (first | lia | omega)))
    unfold rankR at e
    (first | lia | omega)
theorem RowOf.hueL {H : Int → Int} {n : Nat} {is : List Int} (h : RowOf (rankL H) n is) (hn : n ≤ 64) {i j : Nat} (hij : i ≤ j) (hj : j < n) : H (is.getD i 0) ≤ H (is.getD j 0) := by
  have hl := h.length
  rcases h.get hij hj with e | e
  · rw [e]; exact Int.le_refl _
  · have a1 := h.mem (getD_mem (is := is) (j := i) (by (first | lia | omega)))
    have a2 := h.mem (getD_mem (is := is) (j := j) (by (first | lia | omega)))
    unfold rankL at e
    (first | lia | omega)
theorem RowOf.stepR {H : Int → Int} {n q : Nat} {is : List Int} (h : RowOf (rankR H) n is) (hn : n < 64) (hq : q ≤ is.length) (h1 : ∀ j, j < q → H (is.getD j 0) ≤ H n) (h2 : ∀ j, q ≤ j → j < is.length → ¬ H (is.getD j 0) ≤ H n) :
    RowOf (rankR H) (n + 1) (is.take q ++ (n : Int) :: is.drop q) := by
  have hl := h.length
  refine h.step hq (fun j hj => ?_) (fun j h3 h4 => ?_)
  · have a1 := h.mem (getD_mem (is := is) (j := j) (by (first | lia | omega)))
    have := h1 j hj
    unfold rankR; (first | lia | omega)
  · have a1 := h.mem (getD_mem (is := is) (j := j) (by (first | lia | omega)))
    have := h2 j h3 h4
    unfold rankR; (first | lia | omega)
theorem RowOf.stepL {H : Int → Int} {n q : Nat} {is : List Int} (h : RowOf (rankL H) n is) (hn : n < 64) (hq : q ≤ is.length) (h1 : ∀ j, j < q → H (is.getD j 0) < H n) (h2 : ∀ j, q ≤ j → j < is.length → ¬ H (is.getD j 0) < H n) :
    RowOf (rankL H) (n + 1) (is.take q ++ (n : Int) :: is.drop q) := by
  have hl := h.length
  refine h.step hq (fun j hj => ?_) (fun j h3 h4 => ?_)
  · have a1 := h.mem (getD_mem (is := is) (j := j) (by (first | lia | omega)))
    have := h1 j hj
    unfold rankL; (first | lia | omega)
  · have a1 := h.mem (getD_mem (is := is) (j := j) (by (first | lia | omega)))
    have := h2 j h3 h4
    unfold rankL; (first | lia | omega)
/-- what a search between lo and hi tells, of a row whose hues never fall -/
theorem search_eq {r : Int → Int} {n : Nat} {is : List Int} (h : RowOf r n is) (H : Int → Int) (p : Int → Bool) (hmono : ∀ i j : Nat, i ≤ j → j < n → H (is.getD i 0) ≤ H (is.getD j 0)) (hp : ∀ a b, H a ≤ H b → p b = true → p a = true) {lo hi x : Int} (h0 : 0 ≤ lo) (h1 : lo ≤ hi) (h2 : hi ≤ n)
    (r0 : lo ≤ x) (r1 : x ≤ hi) (hl : ∀ j : Nat, lo ≤ (j : Int) → (j : Int) < x → p (is.getD j 0) = true) (hr : ∀ j : Nat, x ≤ (j : Int) → (j : Int) < hi → ¬ p (is.getD j 0) = true) :
    x = min (max (((upInts n).countP p : Nat) : Int) lo) hi := by
  have hlen := h.length
  have hc := h.perm.countP_eq p
  rw [← hc]
  refine clamp_eq (n := n) (p := fun j => p (is.getD j 0) = true) h0 h1 h2 (Int.natCast_nonneg _) (fun j hj => ?_) r0 r1 hl hr
  have := mono_count p is (fun i j a b c => hp _ _ (hmono i j a (by (first | lia | omega))) c) j (by (first | lia | omega))
  rw [this]
  (first | lia | omega)
theorem count_le (p : Int → Bool) (n : Nat) : (upInts n).countP p ≤ n := by
  have := List.countP_le_length (p := p) (l := upInts n)
  rw [upInts_length] at this
  exact this
/-- the two tests of the rows, laid bare -/
theorem picks_row {r : Nat → Int} {r' : Int → Int} {n : Nat} {idx : List Nat} (hp : idx.Perm (List.range n)) (hs : idx.Pairwise fun a b => r a < r b) (hr : ∀ i : Nat, r i = r' i) : RowOf r' n (idx.map Int.ofNat) := by
  constructor
  · exact hp.map _
  · rw [List.pairwise_map]
    exact hs.imp fun h => by rw [Int.ofNat_eq_natCast, Int.ofNat_eq_natCast, ← hr, ← hr]; exact h
end Mine
end

section
set_option maxRecDepth 100000
namespace Mine
open PySem PySem.Float64
/-- the magnitude's word of n / 2 ^ 20 -/
def tx (n : Nat) : Nat := if n = 0 then 0 else (1002 + n.log2) * 2 ^ 52 + n * 2 ^ (52 - n.log2)
theorem log2_le {n : Nat} (h0 : n ≠ 0) (h : n < 2 ^ 53) : n.log2 ≤ 52 := by
  have := (Nat.log2_lt h0).mpr h
  (first | lia | omega)
theorem tx_q {n : Nat} (h0 : n ≠ 0) (h : n < 2 ^ 53) : 2 ^ 52 ≤ n * 2 ^ (52 - n.log2) ∧ n * 2 ^ (52 - n.log2) < 2 ^ 53 := by
  have hl := log2_le h0 h
  have h1 := Nat.log2_self_le h0
  have h2 := @Nat.lt_log2_self n
  have e1 : (2 : Nat) ^ 52 = 2 ^ n.log2 * 2 ^ (52 - n.log2) := by rw [← Nat.pow_add]; congr 1; (first | lia | omega)
  have e2 : (2 : Nat) ^ 53 = 2 ^ (n.log2 + 1) * 2 ^ (52 - n.log2) := by rw [← Nat.pow_add]; congr 1; (first | lia | omega)
  have hp : 0 < 2 ^ (52 - n.log2) := Nat.two_pow_pos _
  exact ⟨by rw [e1]; exact Nat.mul_le_mul_right _ h1, by rw [e2]; exact Nat.mul_lt_mul_of_pos_right h2 hp⟩
theorem V_tx {n : Nat} (h : n < 2 ^ 53) : V (tx n) = n * 2 ^ 1054 := by
  unfold tx
  split
  · rename_i h0; rw [V_zero, h0, Nat.zero_mul]
  · rename_i h0
    have hq := tx_q h0 h
    have hl := log2_le h0 h
    rw [V_at (Nat.le_of_lt hq.2) (.inl hq.1), Nat.mul_assoc, ← Nat.pow_add]
    congr 2
    (first | lia | omega)
theorem tx_lt {n : Nat} (h : n < 2 ^ 53) : tx n < infMag := by
  unfold tx infMag
  split
  · decide
  · rename_i h0
    have hq := tx_q h0 h
    have hl := log2_le h0 h
    (first | lia | omega)
theorem V_inj {a b : Nat} (h : V a = V b) : a = b := by
  rcases Nat.lt_trichotomy a b with c | c | c
  · have := V_lt c; (first | lia | omega)
  · exact c
  · have := V_lt c; (first | lia | omega)
theorem right_eq {r : UInt64} {neg : Bool} {W D n : Nat} (hn : n < 2 ^ 53) (hD : 0 < D) (hW : W = D * (n * 2 ^ 1054)) (h : Right r neg W D) : r = pack neg (tx n) := by
  obtain ⟨t, rfl, hle, hinf, hnear⟩ := h
  have hlt : t < infMag := by
    refine Nat.lt_of_le_of_ne hle fun e => ?_
    have h1 := hinf.mp e
    rw [hW] at h1
    have h2 : (2 ^ 54 - 1) * 2 ^ 2045 ≤ 2 * (n * 2 ^ 1054) := by
      refine Nat.le_of_mul_le_mul_left (c := D) ?_ hD
      calc D * ((2 ^ 54 - 1) * 2 ^ 2045) ≤ 2 * (D * (n * 2 ^ 1054)) := h1
        _ = D * (2 * (n * 2 ^ 1054)) := by ac_rfl
    have e2 : (2 : Nat) ^ 2045 = 2 ^ 991 * 2 ^ 1054 := by rw [← Nat.pow_add]
    have h3 : 2 ^ 53 ≤ 2 ^ 991 := Nat.pow_le_pow_right (by decide) (by decide)
    have hK : 0 < (2 : Nat) ^ 1054 := Nat.two_pow_pos _
    rw [e2, ← Nat.mul_assoc, ← Nat.mul_assoc] at h2
    have h4 := Nat.le_of_mul_le_mul_right h2 hK
    have h5 : (2 ^ 54 - 1) * 2 ^ 53 ≤ (2 ^ 54 - 1) * 2 ^ 991 := Nat.mul_le_mul_left _ h3
    have h6 := Nat.le_trans h5 h4
    (first | lia | omega)
  have h1 := (hnear hlt (tx n)).1
  rw [V_tx hn, hW] at h1
  have h2 : dist (D * (n * 2 ^ 1054)) (D * (n * 2 ^ 1054)) = 0 := by unfold dist; (first | lia | omega)
  rw [h2] at h1
  have h3 : D * (n * 2 ^ 1054) = D * V t := by
    unfold dist at h1
    generalize D * (n * 2 ^ 1054) = u at *
    (first | lia | omega)
  have h4 := Nat.eq_of_mul_eq_mul_left hD h3
  rw [← V_tx hn] at h4
  rw [V_inj h4.symm]
/-- the double of n / 2 ^ 20 -/
def fx (n : Int) : UInt64 := pack (decide (n < 0)) (tx n.natAbs)
theorem fx_decode {n : Int} (h : n.natAbs < 2 ^ 53) : ∃ m e, decode (fx n) = .fin (decide (n < 0)) m e ∧ m * 2 ^ (e + 1074).toNat = n.natAbs * 2 ^ 1054 := by
  obtain ⟨m, e, h1, h2⟩ := decode_pack (decide (n < 0)) (tx_lt h)
  exact ⟨m, e, h1, by rw [h2, V_tx h]⟩
theorem fx_val {n : Int} (h : n.natAbs < 2 ^ 53) : val (fx n) = n * ((2 ^ 1054 : Nat) : Int) := by
  unfold fx
  rw [val_pack _ (tx_lt h), V_tx h, sgn_mul]
  congr 1
  unfold sgn
  by_cases c : n < 0 <;> simp [c] <;> (first | lia | omega)
theorem cmp_fx {a b : Int} (ha : a.natAbs < 2 ^ 53) (hb : b.natAbs < 2 ^ 53) : cmp (fx a) (fx b) = some (compare a b) := by
  obtain ⟨m, e, h1, _⟩ := fx_decode ha
  obtain ⟨k, f, h2, _⟩ := fx_decode hb
  rw [cmp_right h1 h2, fx_val ha, fx_val hb]
  have hK : (0 : Int) < ((2 ^ 1054 : Nat) : Int) := Int.ofNat_lt.mpr (Nat.two_pow_pos _)
  generalize ((2 ^ 1054 : Nat) : Int) = K at *
  congr 1
  rcases Int.lt_trichotomy a b with h | h | h
  · rw [Int.compare_eq_lt.mpr h, Int.compare_eq_lt.mpr (Int.mul_lt_mul_of_pos_right h hK)]
  · subst h; simp
  · rw [Int.compare_eq_gt.mpr h, Int.compare_eq_gt.mpr (Int.mul_lt_mul_of_pos_right h hK)]
theorem fx_zero : fx 0 = zero false := by decide +kernel
theorem pack_zero_tx (b : Bool) : pack b (tx 0) = zero b := rfl
theorem add_fx {a b : Int} (ha : a.natAbs < 2 ^ 53) (hb : b.natAbs < 2 ^ 53) (hc : (a + b).natAbs < 2 ^ 53) : add (fx a) (fx b) = fx (a + b) := by
  obtain ⟨m, e, h1, _⟩ := fx_decode ha
  obtain ⟨k, f, h2, _⟩ := fx_decode hb
  have h := add_right h1 h2
  rw [fx_val ha, fx_val hb, ← Int.add_mul] at h
  have hK : (0 : Int) < ((2 ^ 1054 : Nat) : Int) := Int.ofNat_lt.mpr (Nat.two_pow_pos _)
  by_cases c : a + b = 0
  · rw [h.1 (by rw [c, Int.zero_mul]), c, fx_zero]
    have e1 : (decide (a < 0) && decide (b < 0)) = false := by
      simp only [Bool.and_eq_false_iff, decide_eq_false_iff_not]; (first | lia | omega)
    rw [e1]
  · have hr := h.2 (fun e => (Int.mul_eq_zero.mp e).elim c (Int.ne_of_gt hK))
    have e1 : decide ((a + b) * ((2 ^ 1054 : Nat) : Int) < 0) = decide (a + b < 0) := by
      apply decide_eq_decide.mpr
      generalize ((2 ^ 1054 : Nat) : Int) = K at *
      constructor
      · intro h
        rcases Int.lt_or_le (a + b) 0 with c | c
        · exact c
        · have := Int.mul_nonneg c (Int.le_of_lt hK); (first | lia | omega)
      · exact fun h => Int.mul_neg_of_neg_of_pos h hK
    rw [e1] at hr
    exact right_eq hc (by decide) (by rw [Int.natAbs_mul, Int.natAbs_natCast, Nat.one_mul]) hr
theorem sub_fx {a b : Int} (ha : a.natAbs < 2 ^ 53) (hb : b.natAbs < 2 ^ 53) (hc : (a - b).natAbs < 2 ^ 53) : sub (fx a) (fx b) = fx (a - b) := by
  obtain ⟨m, e, h1, _⟩ := fx_decode ha
  obtain ⟨k, f, h2, _⟩ := fx_decode hb
  have h := sub_right h1 h2
  rw [fx_val ha, fx_val hb, ← Int.sub_mul] at h
  have hK : (0 : Int) < ((2 ^ 1054 : Nat) : Int) := Int.ofNat_lt.mpr (Nat.two_pow_pos _)
  by_cases c : a - b = 0
  · rw [h.1 (by rw [c, Int.zero_mul]), c, fx_zero]
    have e1 : (decide (a < 0) && !decide (b < 0)) = false := by
      have : a = b := by (first | lia | omega)
      rw [this]; cases decide (b < 0) <;> rfl
    rw [e1]
  · have hr := h.2 (fun e => (Int.mul_eq_zero.mp e).elim c (Int.ne_of_gt hK))
    have e1 : decide ((a - b) * ((2 ^ 1054 : Nat) : Int) < 0) = decide (a - b < 0) := by
      apply decide_eq_decide.mpr
      generalize ((2 ^ 1054 : Nat) : Int) = K at *
      constructor
      · intro h
        rcases Int.lt_or_le (a - b) 0 with c | c
        · exact c
        · have := Int.mul_nonneg c (Int.le_of_lt hK); (first | lia | omega)
      · exact fun h => Int.mul_neg_of_neg_of_pos h hK
    rw [e1] at hr
    exact right_eq hc (by decide) (by rw [Int.natAbs_mul, Int.natAbs_natCast, Nat.one_mul]) hr
theorem val_abs {n : Int} (h : n.natAbs < 2 ^ 53) : (val (fx n)).natAbs = n.natAbs * 2 ^ 1054 := by rw [fx_val h, Int.natAbs_mul, Int.natAbs_natCast]
theorem mul_fx {a b c : Int} (ha : a.natAbs < 2 ^ 53) (hb : b.natAbs < 2 ^ 53) (hc : c.natAbs < 2 ^ 53) (ha0 : 0 ≤ a) (hb0 : 0 ≤ b) (h : a * b = c * 2 ^ 20) : mul (fx a) (fx b) = fx c := by
  obtain ⟨m, e, h1, _⟩ := fx_decode ha
  obtain ⟨k, f, h2, _⟩ := fx_decode hb
  have hr := mul_right h1 h2
  rw [val_abs ha, val_abs hb] at hr
  have hc0 : 0 ≤ c := by have := Int.mul_nonneg ha0 hb0; (first | lia | omega)
  have e1 : (decide (a < 0) != decide (b < 0)) = decide (c < 0) := by
    have x1 : decide (a < 0) = false := decide_eq_false (by (first | lia | omega))
    have x2 : decide (b < 0) = false := decide_eq_false (by (first | lia | omega))
    have x3 : decide (c < 0) = false := decide_eq_false (by (first | lia | omega))
    rw [x1, x2, x3]; rfl
  rw [e1] at hr
  refine right_eq hc (Nat.two_pow_pos _) ?_ hr
  have e2 : a.natAbs * b.natAbs = c.natAbs * 2 ^ 20 := by rw [← Int.natAbs_mul, h, Int.natAbs_mul]; rfl
  have e3 : (2 : Nat) ^ 1074 = 2 ^ 20 * 2 ^ 1054 := by rw [← Nat.pow_add]
  rw [e3]
  generalize (2 : Nat) ^ 1054 = K
  calc a.natAbs * K * (b.natAbs * K) = (a.natAbs * b.natAbs) * K * K := by ac_rfl
    _ = c.natAbs * 2 ^ 20 * K * K := by rw [e2]
    _ = 2 ^ 20 * K * (c.natAbs * K) := by ac_rfl
theorem div_fx {a b c : Int} (ha : a.natAbs < 2 ^ 53) (hb : b.natAbs < 2 ^ 53) (hc : c.natAbs < 2 ^ 53) (hb0 : 0 < b) (h : c * b = a * 2 ^ 20) : div (fx a) (fx b) = fx c := by
  obtain ⟨m, e, h1, _⟩ := fx_decode ha
  obtain ⟨k, f, h2, hk⟩ := fx_decode hb
  have hk0 : k ≠ 0 := by
    intro e0
    rw [e0, Nat.zero_mul] at hk
    have := Nat.mul_pos (show 0 < b.natAbs by (first | lia | omega)) (Nat.two_pow_pos 1054)
    (first | lia | omega)
  have hr := div_right h1 h2 hk0
  rw [val_abs ha, val_abs hb] at hr
  have e1 : (decide (a < 0) != decide (b < 0)) = decide (c < 0) := by
    have x2 : decide (b < 0) = false := decide_eq_false (by (first | lia | omega))
    rw [x2, Bool.bne_false]
    apply decide_eq_decide.mpr
    constructor
    · intro ha
      rcases Int.lt_or_le c 0 with x | x
      · exact x
      · have := Int.mul_nonneg x (Int.le_of_lt hb0); (first | lia | omega)
    · intro hc
      have := Int.mul_neg_of_neg_of_pos hc hb0
      (first | lia | omega)
  rw [e1] at hr
  refine right_eq hc (Nat.mul_pos (by (first | lia | omega)) (Nat.two_pow_pos _)) ?_ hr
  have e2 : c.natAbs * b.natAbs = a.natAbs * 2 ^ 20 := by rw [← Int.natAbs_mul, h, Int.natAbs_mul]; rfl
  have e3 : (2 : Nat) ^ 1074 = 2 ^ 20 * 2 ^ 1054 := by rw [← Nat.pow_add]
  rw [e3]
  generalize (2 : Nat) ^ 1054 = K
  calc a.natAbs * K * (2 ^ 20 * K) = (a.natAbs * 2 ^ 20) * K * K := by ac_rfl
    _ = c.natAbs * b.natAbs * K * K := by rw [e2]
    _ = b.natAbs * K * (c.natAbs * K) := by ac_rfl
theorem frac_fx {n d c : Nat} {neg : Bool} (hd : 0 < d) (hc : c < 2 ^ 53) (h : n * 2 ^ 20 = c * d) : ofFrac neg n d = pack neg (tx c) := by
  have hr := ofFrac_right (neg := neg) (n := n) (d := d) (W := n * 2 ^ 1074) (D := d) hd rfl hd
  refine right_eq hc hd ?_ hr
  have e3 : (2 : Nat) ^ 1074 = 2 ^ 20 * 2 ^ 1054 := by rw [← Nat.pow_add]
  rw [e3, ← Nat.mul_assoc, h]
  ac_rfl
theorem ofInt_fx {i : Int} (h : i.natAbs < 2 ^ 33) : ofInt i = fx (i * 2 ^ 20) := by
  unfold ofInt fx
  have e1 : decide (i * 2 ^ 20 < 0) = decide (i < 0) := decide_eq_decide.mpr (by (first | lia | omega))
  rw [e1]
  exact frac_fx (by decide) (by (first | lia | omega)) (by (first | lia | omega))
theorem bin_fx {neg : Bool} {M c : Nat} {g : Int} (hg : -1074 ≤ g) (hc : c < 2 ^ 53) (h : M * 2 ^ (g + 1074).toNat = c * 2 ^ 1054) : ofBin neg M g = pack neg (tx c) := by
  unfold ofBin
  have h1 := shift_one M g 1074 hg
  have hp := shift_pos M 1 g (by decide)
  have hr := ofFrac_right (neg := neg) (n := (shift M 1 g).1) (d := (shift M 1 g).2) (W := M * 2 ^ (g + 1074).toNat) (D := 1) hp (by rw [Nat.mul_one]; exact h1) (by decide)
  exact right_eq hc (by decide) (by rw [h, Nat.one_mul]) hr
theorem isZero_fx {a : Int} (ha : a.natAbs < 2 ^ 53) : isZero (fx a) = decide (a = 0) := by
  obtain ⟨m, e, h1, h2⟩ := fx_decode ha
  unfold isZero
  rw [h1]
  by_cases c : a = 0
  · subst c
    have : m = 0 := by
      simp only [Int.natAbs_zero, Nat.zero_mul] at h2
      exact (Nat.mul_eq_zero.mp h2).resolve_right (Nat.ne_of_gt (Nat.two_pow_pos _))
    subst this; rfl
  · have : m ≠ 0 := by
      intro e0
      rw [e0, Nat.zero_mul] at h2
      have := Nat.mul_pos (show 0 < a.natAbs by (first | lia | omega)) (Nat.two_pow_pos 1054)
      (first | lia | omega)
    rw [decide_eq_false c]
    cases m with
    | zero => exact absurd rfl this
    | succ => rfl
theorem isNaN_fx {a : Int} (ha : a.natAbs < 2 ^ 53) : isNaN (fx a) = false := by
  obtain ⟨m, e, h1, h2⟩ := fx_decode ha
  unfold isNaN
  rw [h1]
theorem isInf_fx {a : Int} (ha : a.natAbs < 2 ^ 53) : isInf (fx a) = false := by
  obtain ⟨m, e, h1, h2⟩ := fx_decode ha
  unfold isInf
  rw [h1]
theorem trunc_fx {a : Int} (ha : a.natAbs < 2 ^ 53) (h0 : 0 ≤ a) : Flt.toInt truncOf (fx a) = a / 2 ^ 20 := by
  obtain ⟨m, e, h1, h2⟩ := fx_decode ha
  have hg := decode_ge h1
  rw [Flt.toInt_fin h1]
  have e1 : decide (a < 0) = false := decide_eq_false (by (first | lia | omega))
  rw [e1]
  unfold truncOf floorOf
  obtain ⟨n, rfl⟩ := Int.eq_ofNat_of_zero_le h0
  simp only [Int.natAbs_natCast] at h2
  have e3 : (2 : Nat) ^ 1074 = 2 ^ 20 * 2 ^ 1054 := by rw [← Nat.pow_add]
  have hK : 0 < (2 : Nat) ^ 1054 := Nat.two_pow_pos _
  simp only [Bool.false_eq_true, if_false, sgn]
  split
  · rename_i he
    have e4 : (e + 1074).toNat = e.toNat + 1074 := by (first | lia | omega)
    rw [e4, Nat.pow_add, e3, ← Nat.mul_assoc, ← Nat.mul_assoc] at h2
    have h5 := Nat.eq_of_mul_eq_mul_right hK h2
    have : n / 2 ^ 20 = m * 2 ^ e.toNat := by
      rw [← h5]; exact Nat.mul_div_cancel _ (by decide)
    have e6 : ((n : Nat) : Int) / 2 ^ 20 = ((n / 2 ^ 20 : Nat) : Int) := by simp
    rw [e6, this]; simp
  · rename_i he
    have e4 : (1074 : Nat) = (e + 1074).toNat + (-e).toNat := by (first | lia | omega)
    have e5 : m / 2 ^ (-e).toNat = n / 2 ^ 20 := by
      have a1 : m / 2 ^ (-e).toNat = (m * 2 ^ (e + 1074).toNat) / (2 ^ (-e).toNat * 2 ^ (e + 1074).toNat) := (Nat.mul_div_mul_right _ _ (Nat.two_pow_pos _)).symm
      have a2 : (2 : Nat) ^ (-e).toNat * 2 ^ (e + 1074).toNat = 2 ^ 1074 := by rw [← Nat.pow_add]; congr 1; (first | lia | omega)
      rw [a1, a2, h2, e3, Nat.mul_div_mul_right _ _ hK]
    rw [Int.fdiv_eq_ediv_of_nonneg _ (Int.le_of_lt (Int.pow_pos (by decide)))]
    have e6 : ((n : Nat) : Int) / 2 ^ 20 = ((n / 2 ^ 20 : Nat) : Int) := by simp
    rw [e6, ← e5]; simp
theorem fmod_fx {a : Int} (ha : a.natAbs < 2 ^ 20) : fmod (fx a) (fx (2 ^ 20)) = fx a := by
  obtain ⟨m, e, h1, h2⟩ := fx_decode (n := a) (by (first | lia | omega))
  obtain ⟨k, f, h3, h4⟩ := fx_decode (n := 2 ^ 20) (by decide)
  have he := decode_ge h1
  have hf := decode_ge h3
  have hK : 0 < (2 : Nat) ^ 1054 := Nat.two_pow_pos _
  have h5 : ((2 : Int) ^ 20).natAbs = 2 ^ 20 := by decide
  rw [h5] at h4
  have hk : k ≠ 0 := by
    intro e0
    rw [e0, Nat.zero_mul] at h4
    have := Nat.mul_pos (show 0 < 2 ^ 20 by decide) hK
    (first | lia | omega)
  have hfm : fmod (fx a) (fx (2 ^ 20)) = ofBin (decide (a < 0)) ((m * 2 ^ (e - min e f).toNat) % (k * 2 ^ (f - min e f).toNat)) (min e f) := by
    unfold fmod
    rw [h1, h3]
    simp only
    rw [if_neg (by simpa using hk)]
    rfl
  have hp : m * 2 ^ (e - min e f).toNat * 2 ^ (min e f + 1074).toNat = a.natAbs * 2 ^ 1054 := by
    rw [Nat.mul_assoc, ← Nat.pow_add, ← h2]; congr 2; (first | lia | omega)
  have hq : k * 2 ^ (f - min e f).toNat * 2 ^ (min e f + 1074).toNat = 2 ^ 20 * 2 ^ 1054 := by
    rw [Nat.mul_assoc, ← Nat.pow_add, ← h4]; congr 2; (first | lia | omega)
  have hlt : m * 2 ^ (e - min e f).toNat < k * 2 ^ (f - min e f).toNat := by
    refine Nat.lt_of_mul_lt_mul_right (a := 2 ^ (min e f + 1074).toNat) ?_
    rw [hp, hq]
    exact Nat.mul_lt_mul_of_pos_right ha hK
  rw [hfm, Nat.mod_eq_of_lt hlt]
  exact bin_fx (by (first | lia | omega)) (by (first | lia | omega)) hp
theorem lt_fx {a b : Int} (ha : a.natAbs < 2 ^ 53) (hb : b.natAbs < 2 ^ 53) : lt (fx a) (fx b) = decide (a < b) := by
  unfold lt
  rw [cmp_fx ha hb]
  rcases Int.lt_trichotomy a b with h | h | h
  · rw [Int.compare_eq_lt.mpr h, decide_eq_true h]; rfl
  · subst h; simp
  · rw [Int.compare_eq_gt.mpr h, decide_eq_false (by (first | lia | omega))]; rfl
theorem divmod_fx {a : Int} (ha : a.natAbs < 2 ^ 20) : (divmod (fx a) (fx (2 ^ 20))).2 = fx (a % 2 ^ 20) := by
  unfold divmod
  simp only [fmod_fx ha, ← fx_zero]
  rw [isZero_fx (by (first | lia | omega)), lt_fx (a := 2 ^ 20) (by decide) (by decide), lt_fx (by (first | lia | omega)) (by decide)]
  have e1 : decide ((2 : Int) ^ 20 < 0) = false := by decide
  rw [e1]
  by_cases c : a = 0
  · subst c
    simp only [decide_true, if_true]
    decide +kernel
  · rw [decide_eq_false c]
    simp only [Bool.false_eq_true, if_false]
    by_cases d : a < 0
    · rw [decide_eq_true d]
      simp only [Bool.false_bne, if_true]
      rw [add_fx (by (first | lia | omega)) (by decide) (by (first | lia | omega))]
      congr 1
      (first | lia | omega)
    · rw [decide_eq_false d]
      simp only [Bool.false_bne, if_false, Bool.false_eq_true]
      congr 1
      (first | lia | omega)
theorem fx_one : fx (2 ^ 20) = 4607182418800017408 := by decide +kernel
theorem fx_two : fx (2 * 2 ^ 20) = 4611686018427387904 := by decide +kernel
theorem fx_four : fx (4 * 2 ^ 20) = 4616189618054758400 := by decide +kernel
theorem fx_six : fx (6 * 2 ^ 20) = 4618441417868443648 := by decide +kernel
theorem fx_half : fx (2 ^ 19) = 4602678819172646912 := by decide +kernel
theorem fx_32 : fx (32 * 2 ^ 20) = 4629700416936869888 := by decide +kernel
end Mine
end

section
open PySem PySem.W PyProof.Rows PySem.Spec PySem.Calls
set_option Elab.async false
set_option maxRecDepth 100000
namespace Mine
section
variable {cmp : Nat → Nat → (Bool → Shared → Prop) → Shared → Prop} {r : Nat → Int} {N : Nat} {G : Shared → Prop}
/-- the answers are those of an order by rank -/
def Ranks (cmp : Nat → Nat → (Bool → Shared → Prop) → Shared → Prop) (r : Nat → Int) (N : Nat) (G : Shared → Prop) : Prop :=
  ∀ i j C s, i < N → j < N → G s → (∀ s', G s' → C (decide (r i < r j)) s') → cmp i j C s
def vAt (r : Nat → Int) (p : Array Nat) (i : Nat) : Int := r (p.getD i 0)
/-- a row of N places, each below N, no rank twice -/
structure Row (r : Nat → Int) (N : Nat) (p : Array Nat) : Prop where
  size : p.size = N
  lt : ∀ i, i < N → p.getD i 0 < N
  ne : ∀ i j, i < N → j < N → i ≠ j → vAt r p i ≠ vAt r p j
  perm : p.Perm (List.toArray (List.range N))
theorem getD_of {p : Array Nat} {i x : Nat} (h : p[i]? = some x) : p.getD i 0 = x := by
  rw [Array.getD_eq_getD_getElem?, h]; rfl
theorem getD_congr {p q : Array Nat} {i j : Nat} (h : p[i]? = q[j]?) : p.getD i 0 = q.getD j 0 := by
  rw [Array.getD_eq_getD_getElem?, Array.getD_eq_getD_getElem?, h]
theorem rev_at {p : Array Nat} {n : Nat} (hn : n ≤ p.size) (k : Nat) : (kas_rev p 0 n).getD k 0 = if k < n then p.getD (n - 1 - k) 0 else p.getD k 0 := by
  have e := getElem?_mirror_all (xs := p) (i := 0) (j := n) hn k
  unfold kas_rev
  by_cases h : k < n
  · rw [if_pos h]
    rw [if_pos ⟨Nat.zero_le _, h⟩, Nat.zero_add] at e
    exact getD_congr e
  · rw [if_neg h]
    rw [if_neg (fun c => h c.2)] at e
    exact getD_congr e
theorem rev_row {p : Array Nat} {n : Nat} (hp : Row r N p) (hn : n ≤ N) : Row r N (kas_rev p 0 n) := by
  have hn' : n ≤ p.size := by rw [hp.size]; exact hn
  refine ⟨by rw [← hp.size]; exact mirror_size _ _ _ _, fun i hi => ?_, fun i j hi hj hij => ?_, (mirror_perm _ _ _ _).trans hp.perm⟩
  · rw [rev_at hn']; split
    · exact hp.lt _ (by (first | lia | omega))
    · exact hp.lt _ hi
  · unfold vAt
    rw [rev_at hn', rev_at hn']
    split <;> split
    · exact hp.ne _ _ (by (first | lia | omega)) (by (first | lia | omega)) (by (first | lia | omega))
    · exact hp.ne _ _ (by (first | lia | omega)) (by (first | lia | omega)) (by (first | lia | omega))
    · exact hp.ne _ _ (by (first | lia | omega)) (by (first | lia | omega)) (by (first | lia | omega))
    · exact hp.ne _ _ (by (first | lia | omega)) (by (first | lia | omega)) (by (first | lia | omega))
theorem asc_wp (hc : Ranks cmp r N G) {p : Array Nat} (hp : Row r N p) {Q : Nat → Shared → Prop} : ∀ (f n : Nat) (s : Shared), 1 ≤ n → n + f ≤ N → G s →
    (∀ m s', n ≤ m → m ≤ n + f → (∀ j, n ≤ j → j < m → vAt r p (j - 1) ≤ vAt r p j) → (m < n + f → vAt r p m < vAt r p (m - 1)) → G s' → Q m s') → (kas_asc p f n).kasWp cmp Q s
  | 0, n, s, _, _, hg, k => k n s (Nat.le_refl _) (Nat.le_refl _) (fun j h1 h2 => absurd h2 (by (first | lia | omega))) (fun h => absurd h (by (first | lia | omega))) hg
  | f + 1, n, s, h1, h2, hg, k => by
    refine hc _ _ _ _ (hp.lt _ (by (first | lia | omega))) (hp.lt _ (by (first | lia | omega))) hg fun s' hg' => ?_
    show KasT.kasWp cmp (ite _ _ _) _ _
    by_cases c : r (p.getD n 0) < r (p.getD (n - 1) 0)
    · rw [if_pos (decide_eq_true c)]
      exact k n s' (Nat.le_refl _) (by (first | lia | omega)) (fun j h1 h2 => absurd h2 (by (first | lia | omega))) (fun _ => c) hg'
    · rw [if_neg (fun h => c (of_decide_eq_true h))]
      refine asc_wp hc hp f (n + 1) s' (by (first | lia | omega)) (by (first | lia | omega)) hg' fun m s'' g1 g2 g3 g4 g5 => ?_
      refine k m s'' (by (first | lia | omega)) (by (first | lia | omega)) (fun j h3 h4 => ?_) (fun h => g4 (by (first | lia | omega))) g5
      by_cases e : j = n
      · subst e; unfold vAt; (first | lia | omega)
      · exact g3 j (by (first | lia | omega)) h4
theorem desc_wp (hc : Ranks cmp r N G) {p : Array Nat} (hp : Row r N p) {Q : Array Nat × Nat × Nat → Shared → Prop} : ∀ (f n : Nat) (s : Shared), 1 ≤ n → n + f ≤ N → G s →
    (∀ m s', n ≤ m → m ≤ n + f → (∀ j, n ≤ j → j < m → vAt r p j < vAt r p (j - 1)) → G s' → Q (p, m, 0) s') → (kas_desc f p n 0).kasWp cmp Q s
  | 0, n, s, _, _, hg, k => k n s (Nat.le_refl _) (Nat.le_refl _) (fun j h1 h2 => absurd h2 (by (first | lia | omega))) hg
  | f + 1, n, s, h1, h2, hg, k => by
    refine hc _ _ _ _ (hp.lt _ (by (first | lia | omega))) (hp.lt _ (by (first | lia | omega))) hg fun s' hg' => ?_
    show KasT.kasWp cmp (ite _ _ _) _ _
    by_cases c : r (p.getD n 0) < r (p.getD (n - 1) 0)
    · rw [if_pos (decide_eq_true c), if_neg (by (first | lia | omega))]
      refine desc_wp hc hp f (n + 1) s' (by (first | lia | omega)) (by (first | lia | omega)) hg' fun m s'' g1 g2 g3 g5 => ?_
      refine k m s'' (by (first | lia | omega)) (by (first | lia | omega)) (fun j h3 h4 => ?_) g5
      by_cases e : j = n
      · subst e; exact c
      · exact g3 j (by (first | lia | omega)) h4
    · rw [if_neg (fun h => c (of_decide_eq_true h))]
      refine hc _ _ _ _ (hp.lt _ (by (first | lia | omega))) (hp.lt _ (by (first | lia | omega))) hg' fun s'' hg'' => ?_
      show KasT.kasWp cmp (ite _ _ _) _ _
      have hne := hp.ne n (n - 1) (by (first | lia | omega)) (by (first | lia | omega)) (by (first | lia | omega))
      unfold vAt at hne
      rw [if_pos (decide_eq_true (by (first | lia | omega)))]
      exact k n s'' (Nat.le_refl _) (by (first | lia | omega)) (fun j h1 h2 => absurd h2 (by (first | lia | omega))) hg''
def UpTo (r : Nat → Int) (p : Array Nat) (k : Nat) : Prop := ∀ i j, i ≤ j → j < k → vAt r p i ≤ vAt r p j
theorem upTo_of {p : Array Nat} {k : Nat} (h : ∀ j, 1 ≤ j → j < k → vAt r p (j - 1) ≤ vAt r p j) : UpTo r p k := by
  intro i j hij hj
  induction j with
  | zero => have : i = 0 := by (first | lia | omega)
            subst this; exact Int.le_refl _
  | succ j ih =>
    by_cases e : i = j + 1
    · subst e; exact Int.le_refl _
    · have := h (j + 1) (by (first | lia | omega)) hj
      exact Int.le_trans (ih (by (first | lia | omega)) (by (first | lia | omega))) (by simpa using this)
theorem tail3_wp (hc : Ranks cmp r N G) {p : Array Nat} (hp : Row r N p) {n : Nat} {s : Shared} {Q : Nat × Array Nat → Shared → Prop} (h1 : 1 ≤ n) (hn : n ≤ N) (hd : ∀ j, 1 ≤ j → j < n → vAt r p j < vAt r p (j - 1)) (hg : G s)
    (k : ∀ m p' s', 1 ≤ m → m ≤ N → Row r N p' → UpTo r p' m → G s' → Q (m, p') s') : (kas_tail3 n N p).kasWp cmp Q s := by
  unfold kas_tail3
  rw [KasT.kasWp_bind]
  have hr := rev_row hp hn
  have hn' : n ≤ p.size := by rw [hp.size]; exact hn
  refine asc_wp hc hr (N - n) n s h1 (by (first | lia | omega)) hg fun m s' g1 g2 g3 _ g5 => ?_
  refine k m _ s' (by (first | lia | omega)) (by (first | lia | omega)) hr (upTo_of fun j j1 j2 => ?_) g5
  by_cases e : n ≤ j
  · exact g3 j e j2
  · unfold vAt
    rw [rev_at hn', rev_at hn', if_pos (by (first | lia | omega)), if_pos (by (first | lia | omega))]
    have := hd (n - 1 - (j - 1)) (by (first | lia | omega)) (by (first | lia | omega))
    have e2 : n - 1 - (j - 1) - 1 = n - 1 - j := by (first | lia | omega)
    rw [e2] at this
    unfold vAt at this
    (first | lia | omega)
theorem count_wp (hc : Ranks cmp r N G) {p : Array Nat} (hp : Row r N p) {s : Shared} {Q : Nat × Array Nat → Shared → Prop} (hN : 2 ≤ N) (hg : G s)
    (k : ∀ m p' s', 1 ≤ m → m ≤ N → Row r N p' → UpTo r p' m → G s' → Q (m, p') s') : (kas_count N p).kasWp cmp Q s := by
  unfold kas_count
  rw [KasT.kasWp_bind]
  refine asc_wp hc hp (N - 1) 1 s (Nat.le_refl _) (by (first | lia | omega)) hg fun n s' g1 g2 g3 g4 g5 => ?_
  have hup : UpTo r p n := upTo_of g3
  by_cases e : n = N
  · rw [if_pos (by simp [e])]
    exact k n p s' g1 (by (first | lia | omega)) hp hup g5
  · rw [if_neg (by simpa using e)]
    by_cases e1 : n > 1
    · rw [if_pos e1]
      refine hc _ _ _ _ (hp.lt _ (by (first | lia | omega))) (hp.lt _ (by (first | lia | omega))) g5 fun s'' hg'' => ?_
      show KasT.kasWp cmp (ite _ _ _) _ _
      have h1 := hup 0 (n - 1) (by (first | lia | omega)) (by (first | lia | omega))
      have h2 := hp.ne 0 (n - 1) (by (first | lia | omega)) (by (first | lia | omega)) (by (first | lia | omega))
      unfold vAt at h1 h2
      rw [if_pos (decide_eq_true (by (first | lia | omega)))]
      exact k n p s'' g1 (by (first | lia | omega)) hp hup hg''
    · rw [if_neg e1]
      have hn1 : n = 1 := by (first | lia | omega)
      subst hn1
      unfold kas_descPart
      rw [KasT.kasWp_bind]
      refine desc_wp hc hp (N - 2) 2 s' (by (first | lia | omega)) (by (first | lia | omega)) g5 fun m s'' f1 f2 f3 f5 => ?_
      rw [if_neg (by simp)]
      show (kas_tail3 m N p).kasWp cmp Q s''
      refine tail3_wp hc hp (n := m) (by (first | lia | omega)) (by (first | lia | omega)) (fun j j1 j2 => ?_) f5 k
      by_cases e2 : j = 1
      · subst e2; exact g4 (by (first | lia | omega))
      · exact f3 j (by (first | lia | omega)) j2
theorem place_wp (hc : Ranks cmp r N G) {p : Array Nat} (hp : Row r N p) {k : Nat} (hk : k < N) {Q : Nat → Shared → Prop} (hup : UpTo r p k) : ∀ (f l u : Nat) (s : Shared), u - l ≤ f → l ≤ u → u ≤ k → (∀ j, j < l → vAt r p j ≤ vAt r p k) → (∀ j, u ≤ j → j < k → vAt r p k < vAt r p j) → G s →
    (∀ m s', m ≤ k → (∀ j, j < m → vAt r p j ≤ vAt r p k) → (∀ j, m ≤ j → j < k → vAt r p k < vAt r p j) → G s' → Q m s') → (kas_place p k f l u).kasWp cmp Q s
  | 0, l, u, s, h0, h1, h2, hl, hu, hg, ret => ret l s (by (first | lia | omega)) hl (fun j a b => hu j (by (first | lia | omega)) b) hg
  | f + 1, l, u, s, h0, h1, h2, hl, hu, hg, ret => by
    unfold kas_place
    by_cases e : l ≥ u
    · rw [if_pos e]; exact ret l s (by (first | lia | omega)) hl (fun j a b => hu j (by (first | lia | omega)) b) hg
    · rw [if_neg e]
      refine hc _ _ _ _ (hp.lt _ hk) (hp.lt _ (by (first | lia | omega))) hg fun s' hg' => ?_
      show KasT.kasWp cmp (ite _ _ _) _ _
      by_cases c : r (p.getD k 0) < r (p.getD ((l + u) / 2) 0)
      · rw [if_pos (decide_eq_true c)]
        refine place_wp hc hp hk hup f l ((l + u) / 2) s' (by (first | lia | omega)) (by (first | lia | omega)) (by (first | lia | omega)) hl (fun j a b => ?_) hg' ret
        have := hup ((l + u) / 2) j a b
        unfold vAt at *
        (first | lia | omega)
      · rw [if_neg (fun h => c (of_decide_eq_true h))]
        refine place_wp hc hp hk hup f ((l + u) / 2 + 1) u s' (by (first | lia | omega)) (by (first | lia | omega)) h2 (fun j a => ?_) hu hg' ret
        have := hup j ((l + u) / 2) (by (first | lia | omega)) (by (first | lia | omega))
        unfold vAt at *
        (first | lia | omega)
theorem bub_at {p : Array Nat} {k l : Nat} (hk : k < p.size) (hl : l ≤ k) (i : Nat) : (bubble p k (k - l)).getD i 0 = if i = l then p.getD k 0 else if l < i ∧ i ≤ k then p.getD (i - 1) 0 else p.getD i 0 := by
  have e := getElem?_bubble hk (k - l) (by (first | lia | omega)) i
  have e1 : k - (k - l) = l := by (first | lia | omega)
  rw [e1] at e
  by_cases h : i = l
  · rw [if_pos h] at e ⊢; exact getD_congr e
  · rw [if_neg h] at e ⊢
    by_cases h2 : l < i ∧ i ≤ k
    · rw [if_pos h2] at e ⊢; exact getD_congr e
    · rw [if_neg h2] at e ⊢; exact getD_congr e
theorem bub_cases {p : Array Nat} {k l : Nat} (hk : k < p.size) (hl : l ≤ k) (i : Nat) : (i = l ∧ (bubble p k (k - l)).getD i 0 = p.getD k 0) ∨ (l < i ∧ i ≤ k ∧ (bubble p k (k - l)).getD i 0 = p.getD (i - 1) 0) ∨ ((i < l ∨ k < i) ∧ (bubble p k (k - l)).getD i 0 = p.getD i 0) := by
  have e := bub_at hk hl i
  by_cases h : i = l
  · rw [if_pos h] at e; exact .inl ⟨h, e⟩
  · rw [if_neg h] at e
    by_cases h2 : l < i ∧ i ≤ k
    · rw [if_pos h2] at e; exact .inr (.inl ⟨h2.1, h2.2, e⟩)
    · rw [if_neg h2] at e; exact .inr (.inr ⟨by (first | lia | omega), e⟩)
theorem bub_row {p : Array Nat} {k l : Nat} (hp : Row r N p) (hk : k < N) (hl : l ≤ k) : Row r N (bubble p k (k - l)) := by
  have hk' : k < p.size := by rw [hp.size]; exact hk
  refine ⟨by rw [bubble_size, hp.size], fun i hi => ?_, fun i j hi hj hij => ?_, (bubble_perm _ _ _).trans hp.perm⟩
  · rcases bub_cases hk' hl i with ⟨_, e⟩ | ⟨_, _, e⟩ | ⟨_, e⟩ <;> rw [e]
    all_goals exact hp.lt _ (by (first | lia | omega))
  · unfold vAt
    rcases bub_cases hk' hl i with ⟨_, e⟩ | ⟨_, _, e⟩ | ⟨_, e⟩ <;> rcases bub_cases hk' hl j with ⟨_, e'⟩ | ⟨_, _, e'⟩ | ⟨_, e'⟩ <;> rw [e, e']
    all_goals first | (exfalso; (first | lia | omega)) | exact hp.ne _ _ (by (first | lia | omega)) (by (first | lia | omega)) (by (first | lia | omega))
theorem bin_wp (hc : Ranks cmp r N G) {Q : Array Nat → Shared → Prop} (ret : ∀ p s', Row r N p → UpTo r p N → G s' → Q p s') : ∀ (f : Nat) (p : Array Nat) (k : Nat) (s : Shared), k + f = N → Row r N p → UpTo r p k → G s → (kas_bin f p k).kasWp cmp Q s
  | 0, p, k, s, h, hp, hup, hg => ret p s hp (by have : k = N := by (first | lia | omega)
                                                 rw [← this]; exact hup) hg
  | f + 1, p, k, s, h, hp, hup, hg => by
    unfold kas_bin
    rw [KasT.kasWp_bind]
    refine place_wp hc hp (k := k) (by (first | lia | omega)) hup k 0 k s (by (first | lia | omega)) (by (first | lia | omega)) (Nat.le_refl _) (fun j a => absurd a (by (first | lia | omega))) (fun j a b => absurd a (by (first | lia | omega))) hg fun l s' g1 g2 g3 g5 => ?_
    have hk' : k < p.size := by rw [hp.size]; (first | lia | omega)
    refine bin_wp hc ret f _ (k + 1) s' (by (first | lia | omega)) (bub_row hp (by (first | lia | omega)) g1) ?_ g5
    intro i j hij hj
    unfold vAt
    have a1 : ∀ i, i < l → r (p.getD i 0) ≤ r (p.getD k 0) := g2
    have a2 : ∀ i, l ≤ i → i < k → r (p.getD k 0) < r (p.getD i 0) := g3
    have a3 : ∀ i j, i ≤ j → j < k → r (p.getD i 0) ≤ r (p.getD j 0) := hup
    rcases bub_cases hk' g1 i with ⟨_, e⟩ | ⟨_, _, e⟩ | ⟨_, e⟩ <;> rcases bub_cases hk' g1 j with ⟨_, e'⟩ | ⟨_, _, e'⟩ | ⟨_, e'⟩ <;> rw [e, e']
    all_goals first
      | exact Int.le_refl _
      | (exfalso; (first | lia | omega))
      | exact a1 _ (by (first | lia | omega))
      | exact Int.le_of_lt (a2 _ (by (first | lia | omega)) (by (first | lia | omega)))
      | exact a3 _ _ (by (first | lia | omega)) (by (first | lia | omega))
/-- the sort's end, where the answers are those of an order by rank -/
theorem sort_wp (hc : Ranks cmp r N G) (hN : 2 ≤ N) (hr : ∀ i j, i < N → j < N → i ≠ j → r i ≠ r j) {Q : Array Nat → Shared → Prop} {s : Shared} (hg : G s) (ret : ∀ p s', Row r N p → UpTo r p N → G s' → Q p s') : (kas_sort N).kasWp cmp Q s := by
  unfold kas_sort
  rw [KasT.kasWp_bind]
  have e0 : ∀ i, i < N → (List.toArray (List.range N)).getD i 0 = i := fun i hi => getD_of (by simp [hi])
  have h0 : Row r N (List.toArray (List.range N)) := by
    refine ⟨by simp, fun i hi => ?_, fun i j hi hj hij => ?_, Array.Perm.refl _⟩
    · rw [e0 i hi]; exact hi
    · unfold vAt; rw [e0 i hi, e0 j hj]; exact hr i j hi hj hij
  refine count_wp hc h0 hN hg fun m p' s' g1 g2 g3 g4 g5 => ?_
  dsimp only
  have em : max m 1 = m := by (first | lia | omega)
  rw [em]
  by_cases e : m < N
  · rw [if_pos e]
    exact bin_wp hc ret (N - m) p' m s' (by (first | lia | omega)) g3 g4 g5
  · rw [if_neg e]
    have : m = N := by (first | lia | omega)
    subst this
    exact ret p' s' g3 g4 g5
end
end Mine
end

section
open PySem PySem.W PyProof.Rows PySem.Spec PySem.Calls
set_option Elab.async false
set_option maxRecDepth 100000
set_option maxHeartbeats 8000000
namespace Mine
local macro_rules | `(tactic| walk_at "execs cons") => `(tactic| (k_here; (refine' execs_cons_pos ?hp ?_; (case hp => first | assumption | (first | lia | omega) | (dsimp only; (first | lia | omega)) | (simp only [List.length_cons, List.length_nil]; (first | lia | omega)))); intro tk' htk'; (try dsimp only)))
local macro_rules | `(tactic| walk_at "call builtin:max") => `(tactic| (k_here; (with_reducible show wpAny _ _ (call (Value.builtin "max") [Value.float _ _, Value.float _ _, Value.float _ _]) _ _ _); k_dflt (refine' max3_float ?k0 ?k1 ?k2 ?k3 ?k4 ?k5 ?_; (case k0 => exact rfl); (case k1 => k_asm); (case k2 => k_asm); (case k3 => first | assumption | (first | lia | omega)); (case k4 => first | assumption | (first | lia | omega)); (case k5 => first | assumption | (first | lia | omega)); k_whole); intro h' tk' t' hle' hpos' F' N'; (try dsimp only at hle'); (try k_sweep)))
local macro_rules | `(tactic| walk_at "call builtin:min") => `(tactic| (k_here; (with_reducible show wpAny _ _ (call (Value.builtin "min") [Value.float _ _, Value.float _ _, Value.float _ _]) _ _ _); k_dflt (refine' min3_float ?k0 ?k1 ?k2 ?k3 ?k4 ?k5 ?_; (case k0 => exact rfl); (case k1 => k_asm); (case k2 => k_asm); (case k3 => first | assumption | (first | lia | omega)); (case k4 => first | assumption | (first | lia | omega)); (case k5 => first | assumption | (first | lia | omega)); k_whole); intro h' tk' t' hle' hpos' F' N'; (try dsimp only at hle'); (try k_sweep)))
def Tup3 (o : Obj) (x y z : UInt64) : Prop := ∃ t1 t2 t3, t1 ≠ 0 ∧ t2 ≠ 0 ∧ t3 ≠ 0 ∧ o = { cls := .type "tuple", data := .seq #[.float x t1, .float y t2, .float z t3] }
theorem Tup3.mk {o : Obj} {x y z : UInt64} {t1 t2 t3 : Tok} (e : o = { cls := .type "tuple", data := .seq #[.float x t1, .float y t2, .float z t3] }) (h1 : 0 < t1) (h2 : 0 < t2) (h3 : 0 < t3) : Tup3 o x y z := ⟨t1, t2, t3, Nat.ne_of_gt h1, Nat.ne_of_gt h2, Nat.ne_of_gt h3, e⟩
/-- what rgb_to_hsv and rgb_to_hls reckon as the hue -/
def hueOf (r g b : UInt64) : UInt64 :=
  (Float64.divmod (Float64.div
    (if Float64.cmp r (mx3 r g b) == some .eq then Float64.sub (Float64.div (Float64.sub (mx3 r g b) b) (Float64.sub (mx3 r g b) (mn3 r g b))) (Float64.div (Float64.sub (mx3 r g b) g) (Float64.sub (mx3 r g b) (mn3 r g b)))
     else if Float64.cmp g (mx3 r g b) == some .eq then Float64.sub (Float64.add 4611686018427387904 (Float64.div (Float64.sub (mx3 r g b) r) (Float64.sub (mx3 r g b) (mn3 r g b)))) (Float64.div (Float64.sub (mx3 r g b) b) (Float64.sub (mx3 r g b) (mn3 r g b)))
     else Float64.sub (Float64.add 4616189618054758400 (Float64.div (Float64.sub (mx3 r g b) g) (Float64.sub (mx3 r g b) (mn3 r g b)))) (Float64.div (Float64.sub (mx3 r g b) r) (Float64.sub (mx3 r g b) (mn3 r g b))))
    4618441417868443648) 4607182418800017408).2
def lightOf (r g b : UInt64) : UInt64 := Float64.div (Float64.add (mx3 r g b) (mn3 r g b)) 4611686018427387904
def shareOf (r g b : UInt64) : UInt64 :=
  if (Float64.cmp (lightOf r g b) 4602678819172646912 == some .lt || Float64.cmp (lightOf r g b) 4602678819172646912 == some .eq) = true then Float64.div (Float64.sub (mx3 r g b) (mn3 r g b)) (Float64.add (mx3 r g b) (mn3 r g b))
  else Float64.div (Float64.sub (mx3 r g b) (mn3 r g b)) (Float64.sub (Float64.sub 4611686018427387904 (mx3 r g b)) (mn3 r g b))
section
variable {w : World} {p : Program} {loose : List Str} {mean : ExcName → Option Value} {mg mb : Str → Option Value} {dp un : Nat} {gd : Option (List Code)} {cn : Str} {cs : Scope} {a : Addr} {ccd : Value} {cl : List (Str × Addr)} {outer : List Env} {A₀ : Around} {base h₀ : Heap} {L : Addr} {m : Str → Option Value} {news : List (Addr × Obj)} {s : Shared}
    {Q E : Value → Shared → Prop}
theorem hsv_back (r g b : UInt64) (t1 t2 t3 : Tok)
    (B : Below A₀ base outer h₀) (F : Fr h₀ L s.heap m) (X : (hd.heap_39 w.params).In h₀) (N : News h₀ L s.heap news) (T : Top p loose mean mg mb h₀) (hk : cs.kind = .function)
    (hdp : dp + 2 < recursionLimit) (_hun : un + 16 < cLine) (hs0 : 0 < s.toks) (ht1 : 0 < t1) (ht2 : 0 < t2) (ht3 : 0 < t3)
    (hne : (Float64.cmp (mn3 r g b) (mx3 r g b) == some Ordering.eq) = false) (hx : ¬ Float64.isZero (mx3 r g b) = true) (hr : ¬ Float64.isZero (Float64.sub (mx3 r g b) (mn3 r g b)) = true)
    (ret : ∀ D o h' tk, s.toks ≤ tk → Fr h₀ L h' m → News h₀ L h' ((D, o) :: news) → (∀ q ∈ news, q.1 < D) → Tup3 o (hueOf r g b) (Float64.div (Float64.sub (mx3 r g b) (mn3 r g b)) (mx3 r g b)) (mx3 r g b) → Q (.ref D) { s with heap := h', toks := tk }) :
    wpAny (model PySem.Challenge.rw_pe0247_01.row.prog w) (ktrTop dp un gd cn cs L a ccd cl outer) (call (.ref 106) [.float r t1, .float g t2, .float b t3]) Q E s := by
  revert X; k_fill; intro X
  refine wpAny_toks (wpAny_call ?_)
  k_dflt ktr_enter
  refine wpAny_noRaise ?_
  k_steps
  all_goals first
    | (exfalso; simp_all only [Bool.true_eq_false, Bool.false_eq_true, not_true_eq_false]; done)
    | ((try intro hle); refine' ret _ _ _ _ ?k0 ?k1 ?k2 ?k3 (Tup3.mk ?k4 ?k5 ?k6 ?k7); (case k0 => first | assumption | (first | lia | omega)); (case k1 => assumption); (case k2 => assumption); (case k3 => assumption); (case k4 => (simp only [hueOf, *, if_true, if_false, Bool.false_eq_true]; rfl)); (case k5 => first | assumption | exact Nat.succ_pos _ | (first | lia | omega)); (case k6 => first | assumption | exact Nat.succ_pos _ | (first | lia | omega)); (case k7 => first | assumption | exact Nat.succ_pos _ | (first | lia | omega)))
theorem hls_back (r g b : UInt64) (t1 t2 t3 : Tok)
    (B : Below A₀ base outer h₀) (F : Fr h₀ L s.heap m) (X : (hd.heap_39 w.params).In h₀) (N : News h₀ L s.heap news) (T : Top p loose mean mg mb h₀) (hk : cs.kind = .function)
    (hdp : dp + 2 < recursionLimit) (_hun : un + 16 < cLine) (hs0 : 0 < s.toks) (ht1 : 0 < t1) (ht2 : 0 < t2) (ht3 : 0 < t3)
    (hne : (Float64.cmp (mn3 r g b) (mx3 r g b) == some Ordering.eq) = false) (hx : ¬ Float64.isZero (Float64.add (mx3 r g b) (mn3 r g b)) = true) (hr : ¬ Float64.isZero (Float64.sub (mx3 r g b) (mn3 r g b)) = true)
    (hy : ¬ Float64.isZero (Float64.sub (Float64.sub 4611686018427387904 (mx3 r g b)) (mn3 r g b)) = true)
    (ret : ∀ D o h' tk, s.toks ≤ tk → Fr h₀ L h' m → News h₀ L h' ((D, o) :: news) → (∀ q ∈ news, q.1 < D) → Tup3 o (hueOf r g b) (lightOf r g b) (shareOf r g b) → Q (.ref D) { s with heap := h', toks := tk }) :
    wpAny (model PySem.Challenge.rw_pe0247_01.row.prog w) (ktrTop dp un gd cn cs L a ccd cl outer) (call (.ref 99) [.float r t1, .float g t2, .float b t3]) Q E s := by
  revert X; k_fill; intro X
  refine wpAny_toks (wpAny_call ?_)
  k_dflt ktr_enter
  refine wpAny_noRaise ?_
  k_steps
  all_goals first
    | (exfalso; simp_all only [Bool.true_eq_false, Bool.false_eq_true, not_true_eq_false]; done)
    | ((try intro hle); refine' ret _ _ _ _ ?k0 ?k1 ?k2 ?k3 (Tup3.mk ?k4 ?k5 ?k6 ?k7); (case k0 => first | assumption | (first | lia | omega)); (case k1 => assumption); (case k2 => assumption); (case k3 => assumption); (case k4 => (simp only [hueOf, lightOf, shareOf, *, if_true, if_false, Bool.false_eq_true]; rfl)); (case k5 => first | assumption | exact Nat.succ_pos _ | (first | lia | omega)); (case k6 => first | assumption | exact Nat.succ_pos _ | (first | lia | omega)); (case k7 => first | assumption | exact Nat.succ_pos _ | (first | lia | omega)))
end
end Mine
end

section
open PySem PySem.W PyProof.Rows PySem.Spec PySem.Calls
set_option Elab.async false
set_option maxRecDepth 100000
set_option maxHeartbeats 8000000
namespace Mine
local macro_rules | `(tactic| walk_at "execs cons") => `(tactic| (k_here; (refine' execs_cons_pos ?hp ?_; (case hp => first | assumption | (first | lia | omega) | (dsimp only; (first | lia | omega)) | (simp only [List.length_cons, List.length_nil]; (first | lia | omega)))); intro tk' htk'; (try dsimp only)))
def sixth (h : UInt64) : Int := Flt.toInt Float64.truncOf (Float64.mul h 4618441417868443648)
def fracOf (h : UInt64) : UInt64 := Float64.sub (Float64.mul h 4618441417868443648) (Float64.ofInt (sixth h))
def pOf (s v : UInt64) : UInt64 := Float64.mul v (Float64.sub 4607182418800017408 s)
def qOf (h s v : UInt64) : UInt64 := Float64.mul v (Float64.sub 4607182418800017408 (Float64.mul s (fracOf h)))
def tOf (h s v : UInt64) : UInt64 := Float64.mul v (Float64.sub 4607182418800017408 (Float64.mul s (Float64.sub 4607182418800017408 (fracOf h))))
def redOf (h s v : UInt64) : UInt64 := if (sixth h).fmod 6 = 0 then v else if (sixth h).fmod 6 = 1 then qOf h s v else if (sixth h).fmod 6 = 2 then pOf s v else if (sixth h).fmod 6 = 3 then pOf s v else if (sixth h).fmod 6 = 4 then tOf h s v else v
def greenOf (h s v : UInt64) : UInt64 := if (sixth h).fmod 6 = 0 then tOf h s v else if (sixth h).fmod 6 = 1 then v else if (sixth h).fmod 6 = 2 then v else if (sixth h).fmod 6 = 3 then qOf h s v else if (sixth h).fmod 6 = 4 then pOf s v else pOf s v
def blueOf (h s v : UInt64) : UInt64 := if (sixth h).fmod 6 = 0 then pOf s v else if (sixth h).fmod 6 = 1 then pOf s v else if (sixth h).fmod 6 = 2 then tOf h s v else if (sixth h).fmod 6 = 3 then v else if (sixth h).fmod 6 = 4 then v else qOf h s v
theorem six_cases (x : Int) (h0 : x.fmod 6 ≠ 0) (h1 : x.fmod 6 ≠ 1) (h2 : x.fmod 6 ≠ 2) (h3 : x.fmod 6 ≠ 3) (h4 : x.fmod 6 ≠ 4) (h5 : x.fmod 6 ≠ 5) : False := by
  have e : x.fmod 6 = x % 6 := by rw [Int.fmod_eq_emod_of_nonneg]; decide
  (first | lia | omega)
section
variable {w : World} {p : Program} {loose : List Str} {mean : ExcName → Option Value} {mg mb : Str → Option Value} {dp un : Nat} {gd : Option (List Code)} {cn : Str} {cs : Scope} {a : Addr} {ccd : Value} {cl : List (Str × Addr)} {outer : List Env} {A₀ : Around} {base h₀ : Heap} {L : Addr} {m : Str → Option Value} {news : List (Addr × Obj)} {s : Shared}
    {Q E : Value → Shared → Prop}
theorem rgb_back (x y z : UInt64) (t1 t2 t3 : Tok)
    (B : Below A₀ base outer h₀) (F : Fr h₀ L s.heap m) (X : (hd.heap_39 w.params).In h₀) (N : News h₀ L s.heap news) (T : Top p loose mean mg mb h₀) (hk : cs.kind = .function)
    (hdp : dp + 2 < recursionLimit) (_hun : un + 16 < cLine) (hs0 : 0 < s.toks) (ht1 : 0 < t1) (ht2 : 0 < t2) (ht3 : 0 < t3)
    (hs : (Float64.cmp y 0 == some Ordering.eq) = false) (hn : ¬ Float64.isNaN (Float64.mul x 4618441417868443648) = true) (hf : ¬ Float64.isInf (Float64.mul x 4618441417868443648) = true) (hi : (sixth x).natAbs < 2 ^ 1024 - 2 ^ 970)
    (ret : ∀ D o h' tk, s.toks ≤ tk → Fr h₀ L h' m → News h₀ L h' ((D, o) :: news) → (∀ q ∈ news, q.1 < D) → Tup3 o (redOf x y z) (greenOf x y z) (blueOf x y z) → Q (.ref D) { s with heap := h', toks := tk }) :
    wpAny (model PySem.Challenge.rw_pe0247_01.row.prog w) (ktrTop dp un gd cn cs L a ccd cl outer) (call (.ref 113) [.float x t1, .float y t2, .float z t3]) Q E s := by
  revert X; k_fill; intro X
  refine wpAny_toks (wpAny_call ?_)
  k_dflt ktr_enter
  refine wpAny_noRaise ?_
  k_steps
  all_goals first
    | exact absurd (by assumption) hn
    | exact absurd (by assumption) hf
    | exact absurd hi (Nat.not_lt.mpr (by assumption))
    | exact (six_cases _ (by assumption) (by assumption) (by assumption) (by assumption) (by assumption) (by assumption)).elim
    | ((try intro hle); refine' ret _ _ _ _ ?k0 ?k1 ?k2 ?k3 (Tup3.mk ?k4 ?k5 ?k6 ?k7); (case k0 => first | assumption | (first | lia | omega)); (case k1 => assumption); (case k2 => assumption); (case k3 => assumption); (case k4 => (simp only [redOf, greenOf, blueOf, sixth, *, if_true, if_false]; rfl)); (case k5 => first | assumption | exact Nat.succ_pos _ | (first | lia | omega)); (case k6 => first | assumption | exact Nat.succ_pos _ | (first | lia | omega)); (case k7 => first | assumption | exact Nat.succ_pos _ | (first | lia | omega)))
end
end Mine
end

section
open PySem PySem.W PyProof.Rows PySem.Spec PySem.Calls
namespace Mine
local macro_rules | `(tactic| k_mem) => `(tactic| first | exact (List.Mem.head _) | exact (List.Mem.tail _ (List.Mem.head _)) | exact (List.Mem.tail _ (List.Mem.tail _ (List.Mem.head _))) | exact (List.Mem.tail _ (List.Mem.tail _ (List.Mem.tail _ (List.Mem.head _)))) | exact (List.Mem.tail _ (List.Mem.tail _ (List.Mem.tail _ (List.Mem.tail _ (List.Mem.head _))))) | exact (List.Mem.tail _ (List.Mem.tail _ (List.Mem.tail _ (List.Mem.tail _ (List.Mem.tail _ (List.Mem.head _)))))) | exact (List.Mem.tail _ (List.Mem.tail _ (List.Mem.tail _ (List.Mem.tail _ (List.Mem.tail _ (List.Mem.tail _ (List.Mem.head _))))))) | exact (List.Mem.tail _ (List.Mem.tail _ (List.Mem.tail _ (List.Mem.tail _ (List.Mem.tail _ (List.Mem.tail _ (List.Mem.tail _ (List.Mem.head _)))))))) | exact (List.Mem.tail _ (List.Mem.tail _ (List.Mem.tail _ (List.Mem.tail _ (List.Mem.tail _ (List.Mem.tail _ (List.Mem.tail _ (List.Mem.tail _ (List.Mem.head _))))))))) | exact (List.Mem.tail _ (List.Mem.tail _ (List.Mem.tail _ (List.Mem.tail _ (List.Mem.tail _ (List.Mem.tail _ (List.Mem.tail _ (List.Mem.tail _ (List.Mem.tail _ (List.Mem.head _)))))))))) | ktr_member | exact (List.mem_cons_of_mem _ (by ktr_member)) | exact (List.mem_cons_of_mem _ (List.mem_cons_of_mem _ (by ktr_member))) | exact (List.mem_cons_of_mem _ (List.mem_cons_of_mem _ (List.mem_cons_of_mem _ (by ktr_member)))) | exact (List.mem_cons_of_mem _ (List.mem_cons_of_mem _ (List.mem_cons_of_mem _ (List.mem_cons_of_mem _ (by ktr_member))))) | exact (List.mem_cons_of_mem _ (List.mem_cons_of_mem _ (List.mem_cons_of_mem _ (List.mem_cons_of_mem _ (List.mem_cons_of_mem _ (by ktr_member)))))) | exact (List.mem_cons_of_mem _ (List.mem_cons_of_mem _ (List.mem_cons_of_mem _ (List.mem_cons_of_mem _ (List.mem_cons_of_mem _ (List.mem_cons_of_mem _ (by ktr_member))))))) | exact (List.mem_cons_of_mem _ (List.mem_cons_of_mem _ (List.mem_cons_of_mem _ (List.mem_cons_of_mem _ (List.mem_cons_of_mem _ (List.mem_cons_of_mem _ (List.mem_cons_of_mem _ (by ktr_member)))))))) | exact (List.mem_cons_of_mem _ (List.mem_cons_of_mem _ (List.mem_cons_of_mem _ (List.mem_cons_of_mem _ (List.mem_cons_of_mem _ (List.mem_cons_of_mem _ (List.mem_cons_of_mem _ (List.mem_cons_of_mem _ (by ktr_member))))))))) | exact (List.mem_cons_of_mem _ (List.mem_cons_of_mem _ (List.mem_cons_of_mem _ (List.mem_cons_of_mem _ (List.mem_cons_of_mem _ (List.mem_cons_of_mem _ (List.mem_cons_of_mem _ (List.mem_cons_of_mem _ (List.mem_cons_of_mem _ (by ktr_member)))))))))) | exact (List.mem_cons_of_mem _ (List.mem_cons_of_mem _ (List.mem_cons_of_mem _ (List.mem_cons_of_mem _ (List.mem_cons_of_mem _ (List.mem_cons_of_mem _ (List.mem_cons_of_mem _ (List.mem_cons_of_mem _ (List.mem_cons_of_mem _ (List.mem_cons_of_mem _ (by ktr_member))))))))))) | exact (List.mem_cons_of_mem _ (List.mem_cons_of_mem _ (List.mem_cons_of_mem _ (List.mem_cons_of_mem _ (List.mem_cons_of_mem _ (List.mem_cons_of_mem _ (List.mem_cons_of_mem _ (List.mem_cons_of_mem _ (List.mem_cons_of_mem _ (List.mem_cons_of_mem _ (List.mem_cons_of_mem _ (by ktr_member)))))))))))) | exact (List.mem_cons_of_mem _ (List.mem_cons_of_mem _ (List.mem_cons_of_mem _ (List.mem_cons_of_mem _ (List.mem_cons_of_mem _ (List.mem_cons_of_mem _ (List.mem_cons_of_mem _ (List.mem_cons_of_mem _ (List.mem_cons_of_mem _ (List.mem_cons_of_mem _ (List.mem_cons_of_mem _ (List.mem_cons_of_mem _ (by ktr_member))))))))))))) | exact (List.mem_cons_of_mem _ (List.mem_cons_of_mem _ (List.mem_cons_of_mem _ (List.mem_cons_of_mem _ (List.mem_cons_of_mem _ (List.mem_cons_of_mem _ (List.mem_cons_of_mem _ (List.mem_cons_of_mem _ (List.mem_cons_of_mem _ (List.mem_cons_of_mem _ (List.mem_cons_of_mem _ (List.mem_cons_of_mem _ (List.mem_cons_of_mem _ (by ktr_member)))))))))))))))
local macro_rules | `(tactic| k_all) => `(tactic| first | exact List.forall_mem_nil _ | (with_reducible assumption) | exact TailLt.ne (by with_reducible assumption) (by omega) | (refine' List.forall_mem_cons.mpr ⟨?a, ?b⟩; (case a => k_ne); (case b => k_all)))
local macro_rules | `(tactic| walk_at "eval Name") => `(tactic| (k_here; k_dflt (first
  | (refine' nameX_L ?F ?v ?_ ?a ?b; (case F => k_asm); (case a => rfl); (case b => rfl); (case v => rfl); k_whole)
  | (refine' nameX_C ?N ?c ?m ?d ?_ ?a ?b; (case a => rfl); (case b => rfl); (case N => k_asm); (case c => rfl); (case m => k_mem); (case d => k_asm); k_whole)
  | (refine' nameX_F ?N ?c ?m ?d ?_ ?a ?b; (case a => rfl); (case b => rfl); (case N => k_asm); (case c => rfl); (case m => k_mem); (case d => k_asm); k_whole))))

section
open PySem PySem.W PyProof.Rows PySem.Spec PySem.Calls
set_option Elab.async false
set_option maxRecDepth 100000
set_option maxHeartbeats 8000000
structure ToldFacts (r g b hue : UInt64) (sat val : Int) : Prop where
  hvv : ¬ 32 - val * (8 - sat) = 0
  hov : ¬ Flt.Over (val * (8 - sat))
  hne : (Float64.cmp (mn3 r g b) (mx3 r g b) == some Ordering.eq) = false
  hx : ¬ Float64.isZero (mx3 r g b) = true
  hr : ¬ Float64.isZero (Float64.sub (mx3 r g b) (mn3 r g b)) = true
  hx2 : ¬ Float64.isZero (Float64.add (mx3 r g b) (mn3 r g b)) = true
  hy : ¬ Float64.isZero (Float64.sub (Float64.sub 4611686018427387904 (mx3 r g b)) (mn3 r g b)) = true
  e1 : (Float64.cmp (hueOf r g b) hue == some .eq) = true
  e2 : (Float64.cmp (Float64.div (Float64.sub (mx3 r g b) (mn3 r g b)) (mx3 r g b)) (Float64.div (Float64.ofInt sat) 4616189618054758400) == some .eq) = true
  e3 : (Float64.cmp (mx3 r g b) (Float64.div (Float64.ofInt val) 4616189618054758400) == some .eq) = true
  e4 : (Float64.cmp (lightOf r g b) (Float64.div (Float64.ofInt (val * (8 - sat))) 4629700416936869888) == some .eq) = true
  e5 : val * (8 - sat) ≤ 16 → (Float64.cmp (shareOf r g b) (Float64.ofFrac (decide (sat < 0) != decide (8 - sat < 0)) sat.natAbs (8 - sat).natAbs) == some .eq) = true
  e6 : ¬ val * (8 - sat) ≤ 16 → (Float64.cmp (shareOf r g b) (Float64.ofFrac (decide (sat * val < 0) != decide (32 - val * (8 - sat) < 0)) (sat * val).natAbs (32 - val * (8 - sat)).natAbs) == some .eq) = true
  hi : ¬ Float64.isInf (Float64.ofFrac (decide (sat * val < 0) != decide (32 - val * (8 - sat) < 0)) (sat * val).natAbs (32 - val * (8 - sat)).natAbs) = true
local macro_rules | `(tactic| walk_at "execs cons") => `(tactic| (k_here; (refine' execs_cons_pos ?hp ?_; (case hp => first | assumption | omega | (dsimp only; omega) | (simp only [List.length_cons, List.length_nil]; omega))); intro tk' htk'; (try dsimp only)))
local macro_rules | `(tactic| walk_at "call ref") => `(tactic| (k_here; (with_reducible show wpAny _ _ (call (Value.ref 106) [Value.float _ _, Value.float _ _, Value.float _ _]) _ _ _); k_dflt (refine' hsv_back _ _ _ _ _ _ ?k1 ?k2 ?k3 ?k4 ?k5 ?k6 ?k7 ?k8 ?p0 ?p1 ?p2 ?p3 ?k9 ?k10 ?k11 ?_; (case k1 => k_asm); (case k2 => k_asm); (case k3 => k_asm); (case k4 => k_asm); (case k5 => k_asm); (case k6 => first | exact rfl | assumption); (case k7 => ktr_room); (case k8 => ktr_units); (case p0 => (dsimp only; omega)); (case p1 => assumption); (case p2 => assumption); (case p3 => assumption); (case k9 => exact ToldFacts.hne (by assumption)); (case k10 => exact ToldFacts.hx (by assumption)); (case k11 => exact ToldFacts.hr (by assumption)); k_whole); intro D' o' h' tk' hle' F' N' l1 ht'; (try dsimp only at hle'); (obtain ⟨t1', t2', t3', q1', q2', q3', he'⟩ := ht'); subst he'; (try k_lt l1); (try dsimp only); (try k_fold)))
local macro_rules | `(tactic| walk_at "call ref") => `(tactic| (k_here; (with_reducible show wpAny _ _ (call (Value.ref 99) [Value.float _ _, Value.float _ _, Value.float _ _]) _ _ _); k_dflt (refine' hls_back _ _ _ _ _ _ ?k1 ?k2 ?k3 ?k4 ?k5 ?k6 ?k7 ?k8 ?p0 ?p1 ?p2 ?p3 ?k9 ?k10 ?k11 ?k12 ?_; (case k1 => k_asm); (case k2 => k_asm); (case k3 => k_asm); (case k4 => k_asm); (case k5 => k_asm); (case k6 => first | exact rfl | assumption); (case k7 => ktr_room); (case k8 => ktr_units); (case p0 => (dsimp only; omega)); (case p1 => assumption); (case p2 => assumption); (case p3 => assumption); (case k9 => exact ToldFacts.hne (by assumption)); (case k10 => exact ToldFacts.hx2 (by assumption)); (case k11 => exact ToldFacts.hr (by assumption)); (case k12 => exact ToldFacts.hy (by assumption)); k_whole); intro D' o' h' tk' hle' F' N' l1 ht'; (try dsimp only at hle'); (obtain ⟨t1', t2', t3', q1', q2', q3', he'⟩ := ht'); subst he'; (try k_lt l1); (try dsimp only); (try k_fold)))
local macro_rules | `(tactic| walk_at "compareOp NotEq ref ref") => `(tactic| (k_here; (with_reducible show wpAny _ _ (compareOp CmpOp.NotEq (Value.ref _) (Value.ref _)) _ _ _); k_dflt (refine' tup3_ne ?F ?X ?N ?hu ?m1 ?m2 ?a1 ?a2 ?a3 ?b1 ?b2 ?b3 ?e1 ?e2 ?e3 ?_; (case N => k_asm); (case m1 => k_mem); (case m2 => k_mem); (case F => k_asm); (case X => k_asm); (case hu => ktr_units); (case a1 => with_reducible assumption); (case a2 => with_reducible assumption); (case a3 => with_reducible assumption); (case b1 => first | exact Nat.succ_ne_zero _ | exact Nat.ne_of_gt (by assumption) | (with_reducible assumption)); (case b2 => first | exact Nat.succ_ne_zero _ | exact Nat.ne_of_gt (by assumption) | (with_reducible assumption)); (case b3 => first | exact Nat.succ_ne_zero _ | exact Nat.ne_of_gt (by assumption) | (with_reducible assumption)); (case e1 => exact ToldFacts.e1 (by assumption)); (case e2 => exact ToldFacts.e2 (by assumption)); (case e3 => exact ToldFacts.e3 (by assumption)); k_whole)))
local macro_rules | `(tactic| walk_at "compareOp Eq ref ref") => `(tactic| (k_here; (with_reducible show wpAny _ _ (compareOp CmpOp.Eq (Value.ref _) (Value.ref _)) _ _ _); k_dflt (refine' tup3_eq ?F ?X ?N ?hu ?m1 ?m2 ?a1 ?a2 ?a3 ?b1 ?b2 ?b3 ?e1 ?e2 ?e3 ?_; (case N => k_asm); (case m1 => k_mem); (case m2 => k_mem); (case F => k_asm); (case X => k_asm); (case hu => ktr_units); (case a1 => with_reducible assumption); (case a2 => with_reducible assumption); (case a3 => with_reducible assumption); (case b1 => first | exact Nat.succ_ne_zero _ | exact Nat.ne_of_gt (by assumption) | (with_reducible assumption)); (case b2 => first | exact Nat.succ_ne_zero _ | exact Nat.ne_of_gt (by assumption) | (with_reducible assumption)); (case b3 => first | exact Nat.succ_ne_zero _ | exact Nat.ne_of_gt (by assumption) | (with_reducible assumption)); (case e1 => exact ToldFacts.e1 (by assumption)); (case e2 => exact ToldFacts.e4 (by assumption)); (case e3 => first | exact ToldFacts.e5 (by assumption) (by assumption) | exact ToldFacts.e6 (by assumption) (by assumption)); k_whole)))
section
variable {w : World} {p : Program} {loose : List Str} {mean : ExcName → Option Value} {mg mb : Str → Option Value} {dp un : Nat} {gd : Option (List Code)} {cn : Str} {cs : Scope} {a : Addr} {ccd : Value} {cl : List (Str × Addr)} {outer : List Env} {A₀ : Around} {base h₀ : Heap} {L : Addr} {m : Str → Option Value} {news : List (Addr × Obj)} {s : Shared}
    {Q E : Value → Shared → Prop}
theorem told_back (r g b hue : UInt64) (sat val : Int) (t1 t2 t3 t4 t5 t6 : Tok) (c : Addr)
    (B : Below A₀ base outer h₀) (F : Fr h₀ L s.heap m) (X : (hd.heap_39 w.params).In h₀) (N : News h₀ L s.heap news) (T : Top p loose mean mg mb h₀) (hk : cs.kind = .function)
    (hdp : dp + 4 < recursionLimit) (hun : un + 100 < cLine) (hs0 : 0 < s.toks) (ht1 : 0 < t1) (ht2 : 0 < t2) (ht3 : 0 < t3) (ht4 : 0 < t4)
    (hc : (c, ({ cls := .type "tuple", data := .seq #[.float r t1, .float g t2, .float b t3] } : Obj)) ∈ news)
    (hs1 : 1 ≤ sat) (hs2 : sat ≤ 4) (hv0 : 1 ≤ val) (hv1 : val ≤ 4) (H : ToldFacts r g b hue sat val)
    (ret : ∀ h' tk, s.toks ≤ tk → Fr h₀ L h' m → News h₀ L h' news → Q (.bool true) { s with heap := h', toks := tk }) :
    wpAny (model PySem.Challenge.rw_pe0247_01.row.prog w) (ktrTop dp un gd cn cs L a ccd cl outer) (call (.ref 127) [.ref c, .float hue t4, .int sat t5, .int val t6]) Q E s := by
  revert X; k_fill; intro X
  refine wpAny_toks (wpAny_call ?_)
  k_dflt ktr_enter
  refine wpAny_noRaise ?_
  k_steps
  all_goals first
    | exact absurd (by assumption) (ToldFacts.hvv (by assumption))
    | exact absurd (by assumption) (ToldFacts.hi (by assumption))
    | exact absurd (by assumption) (ToldFacts.hov (by assumption))
    | ((try intro hle); refine' ret _ _ ?k0 ?k1 ?k2; (case k0 => first | assumption | omega); (case k1 => assumption); (case k2 => exact fun p hp => (by assumption : News _ _ _ _) p (List.mem_cons_of_mem _ (List.mem_cons_of_mem _ (List.mem_cons_of_mem _ (List.mem_cons_of_mem _ hp))))))
end
end

section
open PySem PySem.W PyProof.Rows PySem.Spec PySem.Calls
set_option Elab.async false
set_option maxRecDepth 100000
set_option maxHeartbeats 8000000
theorem mx2_fx {a b : Int} (ha : a.natAbs < 2 ^ 53) (hb : b.natAbs < 2 ^ 53) : mx2 (fx a) (fx b) = fx (if a < b then b else a) := by
  have h := lt_fx ha hb
  unfold Float64.lt at h
  unfold mx2
  rw [h]
  by_cases c : a < b <;> simp [c]
theorem mn2_fx {a b : Int} (ha : a.natAbs < 2 ^ 53) (hb : b.natAbs < 2 ^ 53) : mn2 (fx a) (fx b) = fx (if b < a then b else a) := by
  have h := lt_fx hb ha
  unfold Float64.lt at h
  unfold mn2
  rw [h]
  by_cases c : b < a <;> simp [c]
theorem eq_fx {a b : Int} (ha : a.natAbs < 2 ^ 53) (hb : b.natAbs < 2 ^ 53) : (Float64.cmp (fx a) (fx b) == some .eq) = decide (a = b) := by
  rw [cmp_fx ha hb]
  rcases Int.lt_trichotomy a b with h | h | h
  · rw [Int.compare_eq_lt.mpr h, decide_eq_false (by (first | lia | omega))]; rfl
  · subst h; simp
  · rw [Int.compare_eq_gt.mpr h, decide_eq_false (by (first | lia | omega))]; rfl
/-- the three parts, given how far each falls short of the value -/
structure Cs (M u : Int) (r g b : UInt64) (i j k : Int) : Prop where
  r : r = fx (M - u * i)
  g : g = fx (M - u * j)
  b : b = fx (M - u * k)
def part (M u i : Int) : Int := M - u * i
theorem mul_le_1024 {u i : Int} (hu : 0 < u) (h1 : i ≤ 1024) : u * i ≤ u * 1024 := Int.mul_le_mul_of_nonneg_left h1 (Int.le_of_lt hu)
theorem part_lt {M u i j : Int} (hu : 0 < u) : (M - u * i < M - u * j) ↔ j < i := by
  constructor
  · intro h
    rcases Int.lt_or_le j i with c | c
    · exact c
    · have := Int.mul_le_mul_of_nonneg_left c (Int.le_of_lt hu); (first | lia | omega)
  · intro h
    have := Int.mul_lt_mul_of_pos_left h hu
    (first | lia | omega)
theorem part_abs {M u i : Int} (hu : 0 < u) (hu1 : u ≤ 1024) (hM : 0 ≤ M) (hM1 : M ≤ 2 ^ 20) (h0 : 0 ≤ i) (h1 : i ≤ 1024) : (M - u * i).natAbs < 2 ^ 53 := by
  have a := Int.mul_nonneg (Int.le_of_lt hu) h0
  have b := mul_le_1024 hu h1
  (first | lia | omega)
section
variable {M u i j k : Int} {r g b : UInt64} (hu : 0 < u) (hu1 : u ≤ 1024) (hM : 0 ≤ M) (hM1 : M ≤ 2 ^ 20) (hi0 : 0 ≤ i) (hi1 : i ≤ 1024) (hj0 : 0 ≤ j) (hj1 : j ≤ 1024) (hk0 : 0 ≤ k) (hk1 : k ≤ 1024)
include hu hu1 hM hM1 hi0 hi1 hj0 hj1 hk0 hk1
theorem mx3_parts (h : i = 0 ∨ j = 0 ∨ k = 0) : mx3 (fx (M - u * i)) (fx (M - u * j)) (fx (M - u * k)) = fx M := by
  have a1 := part_abs hu hu1 hM hM1 hi0 hi1
  have a2 := part_abs hu hu1 hM hM1 hj0 hj1
  have a3 := part_abs hu hu1 hM hM1 hk0 hk1
  have fin : ∀ x, x = 0 → fx (M - u * x) = fx M := fun x hx => by rw [hx, Int.mul_zero, Int.sub_zero]
  unfold mx3
  rw [mx2_fx a1 a2]
  split
  · rename_i c; rw [part_lt hu] at c
    rw [mx2_fx a2 a3]; split
    · rename_i c; rw [part_lt hu] at c; exact fin k (by (first | lia | omega))
    · rename_i c; rw [part_lt hu] at c; exact fin j (by (first | lia | omega))
  · rename_i c; rw [part_lt hu] at c
    rw [mx2_fx a1 a3]; split
    · rename_i c; rw [part_lt hu] at c; exact fin k (by (first | lia | omega))
    · rename_i c; rw [part_lt hu] at c; exact fin i (by (first | lia | omega))
theorem mn3_parts (h : i = 1024 ∨ j = 1024 ∨ k = 1024) : mn3 (fx (M - u * i)) (fx (M - u * j)) (fx (M - u * k)) = fx (M - u * 1024) := by
  have a1 := part_abs hu hu1 hM hM1 hi0 hi1
  have a2 := part_abs hu hu1 hM hM1 hj0 hj1
  have a3 := part_abs hu hu1 hM hM1 hk0 hk1
  have fin : ∀ x, x = 1024 → fx (M - u * x) = fx (M - u * 1024) := fun x hx => by rw [hx]
  unfold mn3
  rw [mn2_fx a1 a2]
  split
  · rename_i c; rw [part_lt hu] at c
    rw [mn2_fx a2 a3]; split
    · rename_i c; rw [part_lt hu] at c; exact fin k (by (first | lia | omega))
    · rename_i c; rw [part_lt hu] at c; exact fin j (by (first | lia | omega))
  · rename_i c; rw [part_lt hu] at c
    rw [mn2_fx a1 a3]; split
    · rename_i c; rw [part_lt hu] at c; exact fin k (by (first | lia | omega))
    · rename_i c; rw [part_lt hu] at c; exact fin i (by (first | lia | omega))
end
theorem gap_fx {M u i : Int} (hu : 0 < u) (hu1 : u ≤ 1024) (hM : 0 ≤ M) (hM1 : M ≤ 2 ^ 20) (h0 : 0 ≤ i) (h1 : i ≤ 1024) : Float64.sub (fx M) (fx (M - u * i)) = fx (u * i) := by
  have a := Int.mul_nonneg (Int.le_of_lt hu) h0
  have b := mul_le_1024 hu h1
  rw [sub_fx (by (first | lia | omega)) (by (first | lia | omega)) (by (first | lia | omega))]
  congr 1
  (first | lia | omega)
theorem ratio_fx {u i : Int} (hu : 0 < u) (hu1 : u ≤ 1024) (h0 : 0 ≤ i) (h1 : i ≤ 1024) : Float64.div (fx (u * i)) (fx (u * 1024)) = fx (i * 1024) := by
  have a := Int.mul_nonneg (Int.le_of_lt hu) h0
  have b := mul_le_1024 hu h1
  refine div_fx (by (first | lia | omega)) (by (first | lia | omega)) (by (first | lia | omega)) (by (first | lia | omega)) ?_
  have e1 : i * 1024 * (u * 1024) = (u * i) * (1024 * 1024) := by ac_rfl
  rw [e1]
  congr 1
/-- the sixth's letter by the three shortfalls -/
def sixOf (i j k : Int) : Int := if i = 0 then k - j else if j = 0 then 2048 + i - k else 4096 + j - i
theorem part_eq {M u i : Int} (hu : 0 < u) : (M - u * i = M) ↔ i = 0 := by
  constructor
  · intro h
    have h1 : u * i = 0 := by (first | lia | omega)
    exact (Int.mul_eq_zero.mp h1).resolve_left (by (first | lia | omega))
  · intro h; rw [h, Int.mul_zero, Int.sub_zero]
theorem hue_parts {M u i j k c : Int} (hu : 0 < u) (hu1 : u ≤ 1024) (hM : 0 ≤ M) (hM1 : M ≤ 2 ^ 20) (hi0 : 0 ≤ i) (hi1 : i ≤ 1024) (hj0 : 0 ≤ j) (hj1 : j ≤ 1024) (hk0 : 0 ≤ k) (hk1 : k ≤ 1024)
    (h0 : i = 0 ∨ j = 0 ∨ k = 0) (h1 : i = 1024 ∨ j = 1024 ∨ k = 1024) (hc : sixOf i j k = 6 * c) (hc1 : -1024 < c) (hc2 : c < 1024) :
    hueOf (fx (M - u * i)) (fx (M - u * j)) (fx (M - u * k)) = fx ((c % 1024) * 1024) := by
  have a1 := part_abs hu hu1 hM hM1 hi0 hi1
  have a2 := part_abs hu hu1 hM hM1 hj0 hj1
  have a3 := part_abs hu hu1 hM hM1 hk0 hk1
  have aM : M.natAbs < 2 ^ 53 := by (first | lia | omega)
  unfold hueOf
  rw [mx3_parts hu hu1 hM hM1 hi0 hi1 hj0 hj1 hk0 hk1 h0, mn3_parts hu hu1 hM hM1 hi0 hi1 hj0 hj1 hk0 hk1 h1]
  rw [gap_fx hu hu1 hM hM1 hi0 hi1, gap_fx hu hu1 hM hM1 hj0 hj1, gap_fx hu hu1 hM hM1 hk0 hk1, gap_fx hu hu1 hM hM1 (by decide : (0 : Int) ≤ 1024) (by decide)]
  rw [ratio_fx hu hu1 hi0 hi1, ratio_fx hu hu1 hj0 hj1, ratio_fx hu hu1 hk0 hk1]
  rw [eq_fx a1 aM, eq_fx a2 aM, ← fx_two, ← fx_four, ← fx_six, ← fx_one]
  simp only [part_eq hu]
  have key : (if decide (i = 0) = true then Float64.sub (fx (k * 1024)) (fx (j * 1024)) else if decide (j = 0) = true then Float64.sub (Float64.add (fx (2 * 2 ^ 20)) (fx (i * 1024))) (fx (k * 1024)) else Float64.sub (Float64.add (fx (4 * 2 ^ 20)) (fx (j * 1024))) (fx (i * 1024))) = fx (6 * c * 1024) := by
    rw [← hc]
    unfold sixOf
    by_cases ci : i = 0
    · rw [if_pos (decide_eq_true ci), if_pos ci, sub_fx (by (first | lia | omega)) (by (first | lia | omega)) (by (first | lia | omega))]; congr 1; (first | lia | omega)
    · rw [if_neg (by simpa using ci), if_neg ci]
      by_cases cj : j = 0
      · rw [if_pos (decide_eq_true cj), if_pos cj, add_fx (by decide) (by (first | lia | omega)) (by (first | lia | omega)), sub_fx (by (first | lia | omega)) (by (first | lia | omega)) (by (first | lia | omega))]; congr 1; (first | lia | omega)
      · rw [if_neg (by simpa using cj), if_neg cj, add_fx (by decide) (by (first | lia | omega)) (by (first | lia | omega)), sub_fx (by (first | lia | omega)) (by (first | lia | omega)) (by (first | lia | omega))]; congr 1; (first | lia | omega)
  rw [key, div_fx (c := c * 1024) (by (first | lia | omega)) (by decide) (by (first | lia | omega)) (by decide) (by (first | lia | omega)), divmod_fx (by (first | lia | omega))]
  congr 1
  (first | lia | omega)
theorem fx_sat {s : Int} (h0 : 1 ≤ s) (h1 : s ≤ 4) : Float64.div (Float64.ofInt s) 4616189618054758400 = fx (s * 2 ^ 18) := by
  rw [ofInt_fx (by (first | lia | omega)), ← fx_four]
  exact div_fx (by (first | lia | omega)) (by decide) (by (first | lia | omega)) (by decide) (by (first | lia | omega))
/-- what hsv_to_rgb gives back, by the shortfalls -/
theorem rgb_parts {R s v : Int} (hR0 : 0 ≤ R) (hR1 : R < 24 * 1024) (hs0 : 1 ≤ s) (hs1 : s ≤ 4) (hv0 : 1 ≤ v) (hv1 : v ≤ 4) :
    sixth (fx (R * 1024)) = 6 * R / 1024 ∧ pOf (fx (s * 2 ^ 18)) (fx (v * 2 ^ 18)) = fx (v * 2 ^ 18 - v * s * 64 * 1024) ∧ qOf (fx (R * 1024)) (fx (s * 2 ^ 18)) (fx (v * 2 ^ 18)) = fx (v * 2 ^ 18 - v * s * 64 * (6 * R % 1024)) ∧
      tOf (fx (R * 1024)) (fx (s * 2 ^ 18)) (fx (v * 2 ^ 18)) = fx (v * 2 ^ 18 - v * s * 64 * (1024 - 6 * R % 1024)) := by
  have e0 : Float64.mul (fx (R * 1024)) 4618441417868443648 = fx (6 * R * 1024) := by
    rw [← fx_six]; exact mul_fx (by (first | lia | omega)) (by decide) (by (first | lia | omega)) (by (first | lia | omega)) (by decide) (by (first | lia | omega))
  have e1 : sixth (fx (R * 1024)) = 6 * R / 1024 := by
    unfold sixth
    rw [e0, trunc_fx (by (first | lia | omega)) (by (first | lia | omega))]; (first | lia | omega)
  have e2 : fracOf (fx (R * 1024)) = fx (6 * R % 1024 * 1024) := by
    unfold fracOf
    rw [e0, e1, ofInt_fx (by (first | lia | omega)), sub_fx (by (first | lia | omega)) (by (first | lia | omega)) (by (first | lia | omega))]; congr 1; (first | lia | omega)
  have hG0 : 0 ≤ 6 * R % 1024 := by (first | lia | omega)
  have hG1 : 6 * R % 1024 < 1024 := by (first | lia | omega)
  generalize 6 * R % 1024 = G at *
  have hvs0 : 0 ≤ v * s := Int.mul_nonneg (by (first | lia | omega)) (by (first | lia | omega))
  have hvs1 : v * s ≤ 4 * 4 := Int.mul_le_mul hv1 hs1 (by (first | lia | omega)) (by decide)
  have hsG0 : 0 ≤ s * G := Int.mul_nonneg (by (first | lia | omega)) hG0
  have hsG1 : s * G ≤ 4 * 1024 := Int.mul_le_mul hs1 (by (first | lia | omega)) hG0 (by decide)
  have hvG0 : 0 ≤ v * s * G := Int.mul_nonneg hvs0 hG0
  have hvG1 : v * s * G ≤ 16 * 1024 := Int.mul_le_mul hvs1 (by (first | lia | omega)) hG0 (by decide)
  have x1 : v * s * 64 * G = 64 * (v * s * G) := by ac_rfl
  refine ⟨e1, ?_, ?_, ?_⟩
  · unfold pOf
    rw [← fx_one, sub_fx (by decide) (by (first | lia | omega)) (by (first | lia | omega))]
    refine mul_fx (by (first | lia | omega)) (by (first | lia | omega)) (by (first | lia | omega)) (by (first | lia | omega)) (by (first | lia | omega)) ?_
    have : v * 2 ^ 18 * (2 ^ 20 - s * 2 ^ 18) = (v * 2 ^ 18 - v * s * 2 ^ 16) * 2 ^ 20 := by
      rw [Int.mul_sub, Int.sub_mul]
      have : v * 2 ^ 18 * (s * 2 ^ 18) = v * s * 2 ^ 36 := by
        calc v * 2 ^ 18 * (s * 2 ^ 18) = v * s * (2 ^ 18 * 2 ^ 18) := by ac_rfl
          _ = _ := by rfl
      (first | lia | omega)
    rw [this]; (first | lia | omega)
  · unfold qOf
    have y1 : Float64.mul (fx (s * 2 ^ 18)) (fx (G * 1024)) = fx (s * G * 256) := by
      refine mul_fx (by (first | lia | omega)) (by (first | lia | omega)) (by (first | lia | omega)) (by (first | lia | omega)) (by (first | lia | omega)) ?_
      calc s * 2 ^ 18 * (G * 1024) = s * G * (2 ^ 18 * 1024) := by ac_rfl
        _ = s * G * 256 * 2 ^ 20 := by rw [Int.mul_assoc (s * G)]; rfl
    rw [e2, y1, ← fx_one, sub_fx (by decide) (by (first | lia | omega)) (by (first | lia | omega)), x1]
    refine mul_fx (by (first | lia | omega)) (by (first | lia | omega)) (by (first | lia | omega)) (by (first | lia | omega)) (by (first | lia | omega)) ?_
    rw [Int.mul_sub, Int.sub_mul]
    have : v * 2 ^ 18 * (s * G * 256) = v * s * G * 2 ^ 26 := by
      calc v * 2 ^ 18 * (s * G * 256) = v * s * G * (2 ^ 18 * 256) := by ac_rfl
        _ = _ := by rfl
    (first | lia | omega)
  · unfold tOf
    have y1 : Float64.mul (fx (s * 2 ^ 18)) (fx ((1024 - G) * 1024)) = fx (s * 1024 * 256 - s * G * 256) := by
      refine mul_fx (by (first | lia | omega)) (by (first | lia | omega)) (by (first | lia | omega)) (by (first | lia | omega)) (by (first | lia | omega)) ?_
      have : s * 2 ^ 18 * ((1024 - G) * 1024) = s * 2 ^ 38 - s * G * 2 ^ 28 := by
        calc s * 2 ^ 18 * ((1024 - G) * 1024) = s * (1024 - G) * (2 ^ 18 * 1024) := by ac_rfl
          _ = (s * 1024 - s * G) * 2 ^ 28 := by rw [Int.mul_sub]; rfl
          _ = _ := by (first | lia | omega)
      (first | lia | omega)
    have y2 : Float64.sub 4607182418800017408 (fx (G * 1024)) = fx ((1024 - G) * 1024) := by
      rw [← fx_one, sub_fx (by decide) (by (first | lia | omega)) (by (first | lia | omega))]; congr 1; (first | lia | omega)
    have x2 : v * s * 64 * (1024 - G) = v * s * 65536 - 64 * (v * s * G) := by
      rw [Int.mul_sub, x1]; (first | lia | omega)
    rw [e2, y2, y1, ← fx_one, sub_fx (by decide) (by (first | lia | omega)) (by (first | lia | omega)), x2]
    refine mul_fx (by (first | lia | omega)) (by (first | lia | omega)) (by (first | lia | omega)) (by (first | lia | omega)) (by (first | lia | omega)) ?_
    have z1 : v * 2 ^ 18 * (2 ^ 20 - (s * 1024 * 256 - s * G * 256)) = v * 2 ^ 38 - v * s * 2 ^ 36 + v * s * G * 2 ^ 26 := by
      have a1 : v * 2 ^ 18 * (s * 1024 * 256) = v * s * 2 ^ 36 := by
        calc v * 2 ^ 18 * (s * 1024 * 256) = v * s * (2 ^ 18 * (1024 * 256)) := by ac_rfl
          _ = _ := by rfl
      have a2 : v * 2 ^ 18 * (s * G * 256) = v * s * G * 2 ^ 26 := by
        calc v * 2 ^ 18 * (s * G * 256) = v * s * G * (2 ^ 18 * 256) := by ac_rfl
          _ = _ := by rfl
      rw [Int.mul_sub, Int.mul_sub, a1, a2]; (first | lia | omega)
    rw [z1]; (first | lia | omega)
end

section
open PySem PySem.W PyProof.Rows PySem.Spec PySem.Calls
set_option Elab.async false
set_option maxRecDepth 100000
set_option maxHeartbeats 8000000
abbrev endsLight (M m : UInt64) : UInt64 := Float64.div (Float64.add M m) 4611686018427387904
abbrev endsShare (M m : UInt64) : UInt64 :=
  if (Float64.cmp (endsLight M m) 4602678819172646912 == some .lt || Float64.cmp (endsLight M m) 4602678819172646912 == some .eq) = true then Float64.div (Float64.sub M m) (Float64.add M m)
  else Float64.div (Float64.sub M m) (Float64.sub (Float64.sub 4611686018427387904 M) m)
/-- what the greatest part and the least one tell, of the sixteen pairs -/
abbrev EndsOk (M m : UInt64) (sat val : Int) : Prop :=
  ¬ 32 - val * (8 - sat) = 0 ∧ (Float64.cmp m M == some Ordering.eq) = false ∧ ¬ Float64.isZero M = true ∧ ¬ Float64.isZero (Float64.sub M m) = true ∧ ¬ Float64.isZero (Float64.add M m) = true ∧
  ¬ Float64.isZero (Float64.sub (Float64.sub 4611686018427387904 M) m) = true ∧
  (Float64.cmp (Float64.div (Float64.sub M m) M) (Float64.div (Float64.ofInt sat) 4616189618054758400) == some .eq) = true ∧ (Float64.cmp M (Float64.div (Float64.ofInt val) 4616189618054758400) == some .eq) = true ∧
  (Float64.cmp (endsLight M m) (Float64.div (Float64.ofInt (val * (8 - sat))) 4629700416936869888) == some .eq) = true ∧
  (val * (8 - sat) ≤ 16 → (Float64.cmp (endsShare M m) (Float64.ofFrac (decide (sat < 0) != decide (8 - sat < 0)) sat.natAbs (8 - sat).natAbs) == some .eq) = true) ∧
  (¬ val * (8 - sat) ≤ 16 → (Float64.cmp (endsShare M m) (Float64.ofFrac (decide (sat * val < 0) != decide (32 - val * (8 - sat) < 0)) (sat * val).natAbs (32 - val * (8 - sat)).natAbs) == some .eq) = true) ∧
  ¬ Float64.isInf (Float64.ofFrac (decide (sat * val < 0) != decide (32 - val * (8 - sat) < 0)) (sat * val).natAbs (32 - val * (8 - sat)).natAbs) = true
theorem ends_all : ∀ s ∈ ([1, 2, 3, 4] : List Int), ∀ v ∈ ([1, 2, 3, 4] : List Int), EndsOk (fx (v * 2 ^ 18)) (fx (v * 2 ^ 18 - v * s * 64 * 1024)) s v ∧ ¬ Flt.Over (v * (8 - s)) := by decide +kernel
theorem in_four {s : Int} (h0 : 1 ≤ s) (h1 : s ≤ 4) : s ∈ ([1, 2, 3, 4] : List Int) := by
  have h : s = 1 ∨ s = 2 ∨ s = 3 ∨ s = 4 := by omega
  rcases h with rfl | rfl | rfl | rfl <;> decide
theorem facts_of_ends {r g b : UInt64} {s v c : Int} (hs0 : 1 ≤ s) (hs1 : s ≤ 4) (hv0 : 1 ≤ v) (hv1 : v ≤ 4) (hc0 : 0 ≤ c) (hc1 : c < 1024)
    (hmx : mx3 r g b = fx (v * 2 ^ 18)) (hmn : mn3 r g b = fx (v * 2 ^ 18 - v * s * 64 * 1024)) (hh : hueOf r g b = fx (c * 1024)) : ToldFacts r g b (fx (c * 1024)) s v := by
  have e1 : (Float64.cmp (hueOf r g b) (fx (c * 1024)) == some .eq) = true := by rw [hh, eq_fx (by omega) (by omega)]; exact decide_eq_true rfl
  have k := ends_all s (in_four hs0 hs1) v (in_four hv0 hv1)
  rw [← hmx, ← hmn] at k
  obtain ⟨⟨k1, k2, k3, k4, k5, k6, k7, k8, k9, k10, k11, k12⟩, hov⟩ := k
  exact ⟨k1, hov, k2, k3, k4, k5, k6, e1, k7, k8, k9, k10, k11, k12⟩
theorem facts_of_parts {i j k c s v : Int} (hs0 : 1 ≤ s) (hs1 : s ≤ 4) (hv0 : 1 ≤ v) (hv1 : v ≤ 4) (hi0 : 0 ≤ i) (hi1 : i ≤ 1024) (hj0 : 0 ≤ j) (hj1 : j ≤ 1024) (hk0 : 0 ≤ k) (hk1 : k ≤ 1024)
    (h0 : i = 0 ∨ j = 0 ∨ k = 0) (h1 : i = 1024 ∨ j = 1024 ∨ k = 1024) (hc : sixOf i j k = 6 * c) (hc1 : -1024 < c) (hc2 : c < 1024) :
    ToldFacts (fx (v * 2 ^ 18 - v * s * 64 * i)) (fx (v * 2 ^ 18 - v * s * 64 * j)) (fx (v * 2 ^ 18 - v * s * 64 * k)) (fx (c % 1024 * 1024)) s v ∧
      hueOf (fx (v * 2 ^ 18 - v * s * 64 * i)) (fx (v * 2 ^ 18 - v * s * 64 * j)) (fx (v * 2 ^ 18 - v * s * 64 * k)) = fx (c % 1024 * 1024) := by
  have hvs0 : 1 * 1 ≤ v * s := Int.mul_le_mul hv0 hs0 (by decide) (by (first | lia | omega))
  have hvs1 : v * s ≤ 4 * 4 := Int.mul_le_mul hv1 hs1 (by (first | lia | omega)) (by decide)
  have hu : 0 < v * s * 64 := by (first | lia | omega)
  have hu1 : v * s * 64 ≤ 1024 := by (first | lia | omega)
  have hh := hue_parts hu hu1 (by (first | lia | omega)) (by (first | lia | omega)) hi0 hi1 hj0 hj1 hk0 hk1 h0 h1 hc hc1 hc2 (M := v * 2 ^ 18)
  exact ⟨facts_of_ends hs0 hs1 hv0 hv1 (by (first | lia | omega)) (by (first | lia | omega)) (mx3_parts hu hu1 (by (first | lia | omega)) (by (first | lia | omega)) hi0 hi1 hj0 hj1 hk0 hk1 h0) (mn3_parts hu hu1 (by (first | lia | omega)) (by (first | lia | omega)) hi0 hi1 hj0 hj1 hk0 hk1 h1) hh, hh⟩
/-- one colour: what hsv_to_rgb gives back of the hue R / 1024, the saturation s / 4, the value v / 4 -/
theorem told_facts {R s v : Int} (hR0 : 0 ≤ R) (hR1 : R < 24 * 1024) (hs0 : 1 ≤ s) (hs1 : s ≤ 4) (hv0 : 1 ≤ v) (hv1 : v ≤ 4) :
    ToldFacts (redOf (fx (R * 1024)) (fx (s * 2 ^ 18)) (fx (v * 2 ^ 18))) (greenOf (fx (R * 1024)) (fx (s * 2 ^ 18)) (fx (v * 2 ^ 18))) (blueOf (fx (R * 1024)) (fx (s * 2 ^ 18)) (fx (v * 2 ^ 18))) (fx (R % 1024 * 1024)) s v ∧
      hueOf (redOf (fx (R * 1024)) (fx (s * 2 ^ 18)) (fx (v * 2 ^ 18))) (greenOf (fx (R * 1024)) (fx (s * 2 ^ 18)) (fx (v * 2 ^ 18))) (blueOf (fx (R * 1024)) (fx (s * 2 ^ 18)) (fx (v * 2 ^ 18))) = fx (R % 1024 * 1024) := by
  obtain ⟨e1, e2, e3, e4⟩ := rgb_parts hR0 hR1 hs0 hs1 hv0 hv1
  unfold redOf greenOf blueOf
  rw [e1, e2, e3, e4]
  have ef : (6 * R / 1024).fmod 6 = 6 * R / 1024 % 6 := Int.fmod_eq_emod_of_nonneg _ (by decide)
  rw [ef]
  have ev : fx (v * 2 ^ 18) = fx (v * 2 ^ 18 - v * s * 64 * 0) := by rw [Int.mul_zero, Int.sub_zero]
  have hk : 6 * R / 1024 % 6 = 0 ∨ 6 * R / 1024 % 6 = 1 ∨ 6 * R / 1024 % 6 = 2 ∨ 6 * R / 1024 % 6 = 3 ∨ 6 * R / 1024 % 6 = 4 ∨ 6 * R / 1024 % 6 = 5 := by (first | lia | omega)
  have hG0 : 0 ≤ 6 * R % 1024 := by (first | lia | omega)
  have hG1 : 6 * R % 1024 < 1024 := by (first | lia | omega)
  rcases hk with h | h | h | h | h | h <;> rw [h] <;> simp only [if_true, reduceIte, Int.reduceEq] <;> rw [ev]
  · have := facts_of_parts (i := 0) (j := 1024 - 6 * R % 1024) (k := 1024) (c := R % 1024) hs0 hs1 hv0 hv1 (by (first | lia | omega)) (by (first | lia | omega)) (by (first | lia | omega)) (by (first | lia | omega)) (by (first | lia | omega)) (by (first | lia | omega)) (by (first | lia | omega)) (by (first | lia | omega)) (by unfold sixOf; rw [if_pos rfl]; (first | lia | omega)) (by (first | lia | omega)) (by (first | lia | omega))
    rwa [show R % 1024 % 1024 = R % 1024 by (first | lia | omega)] at this
  · have := facts_of_parts (i := 6 * R % 1024) (j := 0) (k := 1024) (c := R % 1024) hs0 hs1 hv0 hv1 (by (first | lia | omega)) (by (first | lia | omega)) (by (first | lia | omega)) (by (first | lia | omega)) (by (first | lia | omega)) (by (first | lia | omega)) (by (first | lia | omega)) (by (first | lia | omega)) (by unfold sixOf; split <;> (try rw [if_pos rfl]) <;> (first | lia | omega)) (by (first | lia | omega)) (by (first | lia | omega))
    rwa [show R % 1024 % 1024 = R % 1024 by (first | lia | omega)] at this
  · have := facts_of_parts (i := 1024) (j := 0) (k := 1024 - 6 * R % 1024) (c := R % 1024) hs0 hs1 hv0 hv1 (by (first | lia | omega)) (by (first | lia | omega)) (by (first | lia | omega)) (by (first | lia | omega)) (by (first | lia | omega)) (by (first | lia | omega)) (by (first | lia | omega)) (by (first | lia | omega)) (by unfold sixOf; rw [if_neg (by decide), if_pos rfl]; (first | lia | omega)) (by (first | lia | omega)) (by (first | lia | omega))
    rwa [show R % 1024 % 1024 = R % 1024 by (first | lia | omega)] at this
  · have := facts_of_parts (i := 1024) (j := 6 * R % 1024) (k := 0) (c := R % 1024) hs0 hs1 hv0 hv1 (by (first | lia | omega)) (by (first | lia | omega)) (by (first | lia | omega)) (by (first | lia | omega)) (by (first | lia | omega)) (by (first | lia | omega)) (by (first | lia | omega)) (by (first | lia | omega)) (by unfold sixOf; rw [if_neg (by decide)]; split <;> (first | lia | omega)) (by (first | lia | omega)) (by (first | lia | omega))
    rwa [show R % 1024 % 1024 = R % 1024 by (first | lia | omega)] at this
  · have := facts_of_parts (i := 1024 - 6 * R % 1024) (j := 1024) (k := 0) (c := R % 1024) hs0 hs1 hv0 hv1 (by (first | lia | omega)) (by (first | lia | omega)) (by (first | lia | omega)) (by (first | lia | omega)) (by (first | lia | omega)) (by (first | lia | omega)) (by (first | lia | omega)) (by (first | lia | omega)) (by unfold sixOf; rw [if_neg (by (first | lia | omega)), if_neg (by decide)]; (first | lia | omega)) (by (first | lia | omega)) (by (first | lia | omega))
    rwa [show R % 1024 % 1024 = R % 1024 by (first | lia | omega)] at this
  · have := facts_of_parts (i := 0) (j := 1024) (k := 6 * R % 1024) (c := R % 1024 - 1024) hs0 hs1 hv0 hv1 (by (first | lia | omega)) (by (first | lia | omega)) (by (first | lia | omega)) (by (first | lia | omega)) (by (first | lia | omega)) (by (first | lia | omega)) (by (first | lia | omega)) (by (first | lia | omega)) (by unfold sixOf; rw [if_pos rfl]; (first | lia | omega)) (by (first | lia | omega)) (by (first | lia | omega))
    rwa [show (R % 1024 - 1024) % 1024 = R % 1024 by (first | lia | omega)] at this
theorem big_over : (24 * 6 * 1024 : Nat) < 2 ^ 1024 - 2 ^ 970 := by decide +kernel
/-- what rgb_back asks of the hue -/
theorem rgb_asks {R : Int} (hR0 : 0 ≤ R) (hR1 : R < 24 * 1024) : ¬ Float64.isNaN (Float64.mul (fx (R * 1024)) 4618441417868443648) = true ∧ ¬ Float64.isInf (Float64.mul (fx (R * 1024)) 4618441417868443648) = true ∧ (sixth (fx (R * 1024))).natAbs < 2 ^ 1024 - 2 ^ 970 := by
  obtain ⟨e1, _⟩ := rgb_parts (s := 1) (v := 1) hR0 hR1 (by decide) (by decide) (by decide) (by decide)
  have e0 : Float64.mul (fx (R * 1024)) 4618441417868443648 = fx (6 * R * 1024) := by
    rw [← fx_six]; exact mul_fx (by (first | lia | omega)) (by decide) (by (first | lia | omega)) (by (first | lia | omega)) (by decide) (by (first | lia | omega))
  rw [e0, e1, isNaN_fx (by (first | lia | omega)), isInf_fx (by (first | lia | omega))]
  refine ⟨by decide, by decide, Nat.lt_of_le_of_lt ?_ big_over⟩
  (first | lia | omega)
theorem sat_asks {s : Int} (hs0 : 1 ≤ s) (hs1 : s ≤ 4) : (Float64.cmp (fx (s * 2 ^ 18)) 0 == some Ordering.eq) = false := by
  have : (0 : UInt64) = fx 0 := by decide +kernel
  rw [this, eq_fx (by (first | lia | omega)) (by decide)]
  exact decide_eq_false (by (first | lia | omega))
end

section
open PySem PySem.W PyProof.Rows PySem.Spec PySem.Calls
set_option Elab.async false
set_option maxRecDepth 100000
set_option maxHeartbeats 8000000
local macro_rules | `(tactic| walk_at "call ref") => `(tactic| (refine stop_of ?_))
local macro_rules | `(tactic| mul_fits) => `(tactic| first | exact PySem.IntMulOk.of_right (PySem.intBits_le_64 (by omega) (by omega)) | exact PySem.IntMulOk.of_left (PySem.intBits_le_64 (by omega) (by omega)))
local macro_rules | `(tactic| walk_at "binaryOp RShift int int") => `(tactic| (with_reducible refine rshift_int (by omega) ?_))
local macro_rules | `(tactic| walk_at "binaryOp LShift int int") => `(tactic| (with_reducible refine lshift_int_small (by omega) (by omega) (by assumption) ?_))
def InnerA (w : World) (p : Program) (loose : List Str) (mean : ExcName → Option Value) (mg mb : Str → Option Value) (n : Int) (f ad cN cI cA c' : Addr) (oN oI oA oc : Obj) (qual : Str) (tn tq : Tok) (cvs : Array Value) (dc pm ctv : Value) (k : Nat) : Prop :=
  ∀ (dp un : Nat) (gd : Option (List Code)) (cn : Str) (cs : Scope) (a : Addr) (ccd : Value) (cl : List (Str × Addr)) (outer : List Env) (A₀ : Around) (base h₀ : Heap) (L : Addr) (m : Str → Option Value) (s : Shared) (Q E : Value → Shared → Prop)
    (news : List (Addr × Obj)) (vs : List Value) (ds : List Int) (c : Nat) (x lo hi : Int) (t1 t2 t3 : Tok),
    Below A₀ base outer h₀ → Fr h₀ L s.heap m → (hd.heap_39 w.params).In h₀ → News h₀ L s.heap ((ad, listOf vs.toArray c) :: news) → Top p loose mean mg mb h₀ → cs.kind = .function →
    (f, fnMade "inner" qual (defParams innerA) (defBody innerA) (defScope innerA) [("n", cN), ("inner", cI), ("a_digits", cA)] dc pm c' ctv) ∈ news → (c', oc) ∈ news → oc.data = .fields cvs → cvs[1]? = some (.str qual tq) →
    (cN, oN) ∈ news → oN.data = .cell (some (.int n tn)) → (cI, oI) ∈ news → oI.data = .cell (some (.ref f)) → (cA, oA) ∈ news → oA.data = .cell (some (.ref ad)) →
    (∀ q ∈ news, q.1 ≠ ad) → IntsAre vs ds → 0 ≤ x → x < 2 ^ 40 → 0 ≤ lo → hi - lo = k → hi ≤ (ds.length : Int) → ds.length ≤ 64 → CodeHd base 34 30 → dp + k < recursionLimit → un + 8 * k < cLine →
    (∀ vs' ds' md c2 h' tk, Fr h₀ L h' m → News h₀ L h' ((ad, listOf vs'.toArray c2) :: news) → IntsAre vs' ds' → ds' = ds.take lo.toNat ++ md ++ ds.drop hi.toNat → md.length = k → valD n.toNat md = x → (∀ d ∈ md, 0 ≤ d ∧ d < 2 ^ 40) → Q .none { s with heap := h', toks := tk }) →
    wpAny (model PySem.Challenge.rw_pe0247_01.row.prog w) (ktrTop dp un gd cn cs L a ccd cl outer) (call (.ref f) [.int x t1, .int lo t2, .int hi t3]) Q E s
theorem shr_small (x : Int) (k : Nat) (h0 : 0 ≤ x) (h1 : x < 2 ^ 40) : (x.fdiv (2 ^ k)).natAbs < 2 ^ 64 := by
  have hp : (0 : Int) < 2 ^ k := Int.pow_pos (by decide)
  rw [Int.fdiv_eq_ediv_of_nonneg _ (Int.le_of_lt hp)]
  have a := Int.ediv_nonneg h0 (Int.le_of_lt hp)
  have b := Int.ediv_le_self (2 ^ k) h0
  (first | lia | omega)
theorem innerA_step {w : World} {p : Program} {loose : List Str} {mean : ExcName → Option Value} {mg mb : Str → Option Value} {n : Int} {f ad cN cI cA c' : Addr} {oN oI oA oc : Obj} {qual : Str} {tn tq : Tok} {cvs : Array Value} {dc pm ctv : Value} (hn0 : 1 ≤ n) (hn1 : n ≤ 40) (k : Nat) (hk1 : 1 ≤ k) (hk2 : k ≤ 64)
    (IH : ∀ j, 1 ≤ j → j < k → InnerA w p loose mean mg mb n f ad cN cI cA c' oN oI oA oc qual tn tq cvs dc pm ctv j) : InnerA w p loose mean mg mb n f ad cN cI cA c' oN oI oA oc qual tn tq cvs dc pm ctv k := by
  intro dp un gd cn cs a ccd cl outer A₀ base h₀ L m s Q E news vs ds c x lo hi t1 t2 t3 B F X N T hk hf hc hcd hcv hN hNd hI hId hA hAd hne hiv hx0 hx1 hlo hhi hle hlen CH hdp hun ret
  revert X; k_fill; intro X
  refine wpAny_call ?_
  k_dflt (refine' code_nest ?k1 ?k2 ?k3 ?k4 ?k5 ?kA ?kF ?kK ?k6 ?k7 ?k8 ?k9 ?kB ?_ ?c2 ?c3 ?c4 ?c5; (case kA => exact rfl); (case kF => exact rfl); (case kK => assumption); (case k1 => exact B); (case k2 => exact F); (case k3 => exact X); (case k4 => exact N); (case k5 => exact T); (case k6 => exact List.mem_cons_of_mem _ hf); (case k7 => exact codeRec_news N (List.mem_cons_of_mem _ hc) hcd hcv); (case k8 => (dsimp only [ktrTop]; omega)); (case k9 => exact BindsTo.of_eq rfl); (case c5 => decide +kernel); (case kB => exact locs rfl); (case c2 => exact rfl); (case c3 => exact rfl); (case c4 => exact rfl); intro g' L' h' FG' F' N' B' X' T')
  refine wpAny_noRaise ?_
  have eb : defBody innerA = defBody innerA := rfl
  conv at eb => rhs; whnf
  have es : defScope innerA = defScope innerA := rfl
  conv at es => rhs; whnf
  rw [eb, es]
  clear eb es
  have e2 : (lo + hi).fdiv (2 ^ Int.toNat 1) = (lo + hi) / 2 := by rw [show (2 : Int) ^ Int.toNat 1 = 2 from rfl, Int.fdiv_eq_ediv_of_nonneg _ (by decide)]
  have hsh0 : 0 ≤ ((lo + hi).fdiv (2 ^ Int.toNat 1) - lo) * n := by rw [e2]; exact Int.mul_nonneg (by (first | lia | omega)) (by (first | lia | omega))
  have hsh1 : ((lo + hi).fdiv (2 ^ Int.toNat 1) - lo) * n ≤ 64 * 40 := by rw [e2]; exact Int.mul_le_mul (by (first | lia | omega)) hn1 (by (first | lia | omega)) (by (first | lia | omega))
  have hup := shr_small x (((lo + hi).fdiv (2 ^ Int.toNat 1) - lo) * n).toNat hx0 hx1
  dsimp only

  (with_reducible show wpAny _ _ (execs _ _) _ _ _)
  k_fold
  k_steps
  · refine ret (vs.set lo.toNat (.int x t1)) (ds.set lo.toNat x) [x] _ _ _ (by assumption) (by assumption) (ints_set hiv _) ?_ (by simp; (first | lia | omega)) (by simp [valD]) (by intro d hd; rw [List.mem_singleton.mp hd]; exact ⟨hx0, hx1⟩)
    have e1 : hi.toNat = lo.toNat + 1 := by (first | lia | omega)
    rw [e1, List.set_eq_take_append_cons_drop, if_pos (by (first | lia | omega))]
    simp
  · unfold Stop
    have hb := xor_low x (((lo + hi).fdiv (2 ^ Int.toNat 1) - lo) * n).toNat hx0
    have hp : (0 : Int) < 2 ^ (((lo + hi).fdiv (2 ^ Int.toNat 1) - lo) * n).toNat := Int.pow_pos (by decide)
    have hq := Int.ediv_mul_add_emod x (2 ^ (((lo + hi).fdiv (2 ^ Int.toNat 1) - lo) * n).toNat)
    have hr := Int.emod_nonneg x (Int.ne_of_gt hp)
    have hr2 : 0 ≤ x / 2 ^ (((lo + hi).fdiv (2 ^ Int.toNat 1) - lo) * n).toNat * 2 ^ (((lo + hi).fdiv (2 ^ Int.toNat 1) - lo) * n).toNat := Int.mul_nonneg (Int.ediv_nonneg hx0 (Int.le_of_lt hp)) (Int.le_of_lt hp)
    have hfd : x.fdiv (2 ^ (((lo + hi).fdiv (2 ^ Int.toNat 1) - lo) * n).toNat) = x / 2 ^ (((lo + hi).fdiv (2 ^ Int.toNat 1) - lo) * n).toNat := Int.fdiv_eq_ediv_of_nonneg _ (Int.le_of_lt hp)
    have hu0 := Int.ediv_nonneg hx0 (Int.le_of_lt hp)
    have hu1 := Int.ediv_le_self (2 ^ (((lo + hi).fdiv (2 ^ Int.toNat 1) - lo) * n).toNat) hx0
    have h1 := IH (k / 2) (by (first | lia | omega)) (by (first | lia | omega))
    unfold InnerA at h1
    refine h1 _ _ _ _ _ _ _ _ _ _ _ _ _ _ _ _ _ news vs ds c _ _ _ _ _ _ (by assumption) (by assumption) (by assumption) (by assumption) (by assumption) rfl hf hc hcd hcv hN hNd hI hId hA hAd hne hiv (by rw [hb]; omega) (by rw [hb]; omega) hlo (by rw [e2]; omega) (by rw [e2]; omega) hlen CH (by dsimp only [ktrTop, Around.deeper]; omega) (by dsimp only [ktrTop, Around.deeper]; omega) ?_
    intro vs1 ds1 md1 c1 h1' tk1 F1 N1 hi1 hd1 hl1 hv1 hb1
    clear h1
    have hdl : ds1.length = ds.length := by
      rw [hd1, List.length_append, List.length_append, List.length_take, List.length_drop, hl1, e2]; (first | lia | omega)
    have hlen1 : ds1.length ≤ 64 := by (first | lia | omega)
    dsimp only
    k_steps
    unfold Stop
    have h2 := IH (k - k / 2) (by (first | lia | omega)) (by (first | lia | omega))
    unfold InnerA at h2
    refine h2 _ _ _ _ _ _ _ _ _ _ _ _ _ _ _ _ _ news vs1 ds1 c1 _ _ _ _ _ _ (by assumption) (by assumption) (by assumption) (by assumption) (by assumption) rfl hf hc hcd hcv hN hNd hI hId hA hAd hne hi1 (by rw [hfd]; exact hu0) (by rw [hfd]; omega) (by rw [e2]; omega) (by rw [e2]; omega) (by omega) hlen1 CH (by dsimp only [ktrTop, Around.deeper]; omega) (by dsimp only [ktrTop, Around.deeper]; omega) ?_
    intro vs2 ds2 md2 c2 h2' tk2 F2 N2 hi2 hd2 hl2 hv2 hb2
    clear h2
    dsimp only
    k_steps
    refine ret vs2 ds2 (md1 ++ md2) _ _ _ (by assumption) (by assumption) hi2 ?_ (by rw [List.length_append, hl1, hl2]; (first | lia | omega)) ?_ (fun d hd => (List.mem_append.mp hd).elim (hb1 d) (hb2 d))
    · rw [hd2, hd1, e2]
      have a1 : ((lo + hi) / 2).toNat = lo.toNat + k / 2 := by (first | lia | omega)
      have a2 : hi.toNat = ((lo + hi) / 2).toNat + (k - k / 2) := by (first | lia | omega)
      have a3 : (ds.take lo.toNat).length = lo.toNat := by rw [List.length_take]; (first | lia | omega)
      have b1 : (ds.take lo.toNat ++ md1 ++ ds.drop ((lo + hi) / 2).toNat).take ((lo + hi) / 2).toNat = ds.take lo.toNat ++ md1 := by
        rw [List.take_append_of_le_length (by rw [List.length_append, a3, hl1]; (first | lia | omega)), List.take_of_length_le (by rw [List.length_append, a3, hl1]; (first | lia | omega))]
      have b2 : (ds.take lo.toNat ++ md1 ++ ds.drop ((lo + hi) / 2).toNat).drop hi.toNat = ds.drop hi.toNat := by
        rw [List.drop_append, List.drop_of_length_le (by rw [List.length_append, a3, hl1]; (first | lia | omega)), List.nil_append, List.drop_drop, List.length_append, a3, hl1]
        congr 1; (first | lia | omega)
      rw [b1, b2]; simp only [List.append_assoc]
    · rw [valD_append, hv1, hv2, hl1, hb, hfd]
      have e3 : (((lo + hi).fdiv (2 ^ Int.toNat 1) - lo) * n).toNat = n.toNat * (k / 2) := by
        rw [e2, show (lo + hi) / 2 - lo = ((k / 2 : Nat) : Int) by (first | lia | omega)]
        obtain ⟨n', rfl⟩ := Int.eq_ofNat_of_zero_le (show 0 ≤ n by (first | lia | omega))
        rw [show ((k / 2 : Nat) : Int) * (n' : Int) = ((k / 2 * n' : Nat) : Int) by push_cast; rfl, Int.toNat_natCast, Int.toNat_natCast, Nat.mul_comm]
      rw [e3, Int.mul_comm (2 ^ (n.toNat * (k / 2)))]
      (first | lia | omega)
theorem innerA_all {w : World} {p : Program} {loose : List Str} {mean : ExcName → Option Value} {mg mb : Str → Option Value} {n : Int} {f ad cN cI cA c' : Addr} {oN oI oA oc : Obj} {qual : Str} {tn tq : Tok} {cvs : Array Value} {dc pm ctv : Value} (hn0 : 1 ≤ n) (hn1 : n ≤ 40) :
    ∀ k : Nat, 1 ≤ k → k ≤ 64 → InnerA w p loose mean mg mb n f ad cN cI cA c' oN oI oA oc qual tn tq cvs dc pm ctv k := by
  intro k
  induction k using Nat.strongRecOn with
  | _ k ih => exact fun h1 h2 => innerA_step hn0 hn1 k h1 h2 fun j hj1 hj2 => ih j hj2 hj1 (by (first | lia | omega))
theorem innerA_use {w : World} {p : Program} {loose : List Str} {mean : ExcName → Option Value} {mg mb : Str → Option Value} {n : Int} {f ad cN cI cA c' : Addr} {oN oI oA oc : Obj} {qual : Str} {tn tq : Tok} {cvs : Array Value} {dc pm ctv : Value} (hn0 : 1 ≤ n) (hn1 : n ≤ 40) (k : Nat) (hk1 : 1 ≤ k) (hk2 : k ≤ 64)
    {dp un : Nat} {gd : Option (List Code)} {cn : Str} {cs : Scope} {a : Addr} {ccd : Value} {cl : List (Str × Addr)} {outer : List Env} {A₀ : Around} {base h₀ : Heap} {L : Addr} {m : Str → Option Value} {s : Shared} {Q E : Value → Shared → Prop}
    {news : List (Addr × Obj)} {vs : List Value} {ds : List Int} {c : Nat} {x lo hi : Int} {t1 t2 t3 : Tok}
    (B : Below A₀ base outer h₀) (F : Fr h₀ L s.heap m) (X : (hd.heap_39 w.params).In h₀) (N : News h₀ L s.heap ((ad, listOf vs.toArray c) :: news)) (T : Top p loose mean mg mb h₀) (hk : cs.kind = .function)
    (hf : (f, fnMade "inner" qual (defParams innerA) (defBody innerA) (defScope innerA) [("n", cN), ("inner", cI), ("a_digits", cA)] dc pm c' ctv) ∈ news) (hc : (c', oc) ∈ news) (hcd : oc.data = .fields cvs) (hcv : cvs[1]? = some (.str qual tq))
    (hN : (cN, oN) ∈ news) (hNd : oN.data = .cell (some (.int n tn))) (hI : (cI, oI) ∈ news) (hId : oI.data = .cell (some (.ref f))) (hA : (cA, oA) ∈ news) (hAd : oA.data = .cell (some (.ref ad)))
    (hne : ∀ q ∈ news, q.1 ≠ ad) (hiv : IntsAre vs ds) (hx0 : 0 ≤ x) (hx1 : x < 2 ^ 40) (hlo : 0 ≤ lo) (hhi : hi - lo = k) (hle : hi ≤ (ds.length : Int)) (hlen : ds.length ≤ 64) (CH : CodeHd base 34 30) (hdp : dp + k < recursionLimit) (hun : un + 8 * k < cLine)
    (ret : ∀ vs' ds' md c2 h' tk, Fr h₀ L h' m → News h₀ L h' ((ad, listOf vs'.toArray c2) :: news) → IntsAre vs' ds' → ds' = ds.take lo.toNat ++ md ++ ds.drop hi.toNat → md.length = k → valD n.toNat md = x → (∀ d ∈ md, 0 ≤ d ∧ d < 2 ^ 40) → Q .none { s with heap := h', toks := tk }) :
    wpAny (model PySem.Challenge.rw_pe0247_01.row.prog w) (ktrTop dp un gd cn cs L a ccd cl outer) (call (.ref f) [.int x t1, .int lo t2, .int hi t3]) Q E s := by
  have h := innerA_all (w := w) (p := p) (loose := loose) (mean := mean) (mg := mg) (mb := mb) (f := f) (ad := ad) (cN := cN) (cI := cI) (cA := cA) (c' := c') (oN := oN) (oI := oI) (oA := oA) (oc := oc) (qual := qual) (tn := tn) (tq := tq) (cvs := cvs) (dc := dc) (pm := pm) (ctv := ctv) hn0 hn1 k hk1 hk2
  unfold InnerA at h
  exact h _ _ _ _ _ _ _ _ _ _ _ _ _ _ _ _ _ _ _ _ _ _ _ _ _ _ _ B F X N T hk hf hc hcd hcv hN hNd hI hId hA hAd hne hiv hx0 hx1 hlo hhi hle hlen CH hdp hun ret
end

section
open PySem PySem.W PyProof.Rows PySem.Spec PySem.Calls
set_option Elab.async false
set_option maxRecDepth 100000
set_option maxHeartbeats 8000000
/-- a def's table of codes: empty, or the one nested def's code stands in it -/
def TabSt (line col : Nat) (qual : Str) (ps : Array Value) (news : List (Addr × Obj)) : Prop :=
  ps = #[] ∨ ∃ c' oc cvs tq, ps = #[rawInt line, rawInt col, .ref c'] ∧ (c', oc) ∈ news ∧ oc.data = .fields cvs ∧ cvs[1]? = some (.str qual tq)
theorem TabSt.mono {line col : Nat} {qual : Str} {ps : Array Value} {news news' : List (Addr × Obj)} (h : TabSt line col qual ps news) (hs : ∀ p ∈ news, p ∈ news') : TabSt line col qual ps news' :=
  h.imp id fun ⟨c', oc, cvs, tq, h1, h2, h3⟩ => ⟨c', oc, cvs, tq, h1, hs _ h2, h3⟩
theorem TabSt.mk {line col : Nat} {qual : Str} {c' : Addr} {oc : Obj} {cvs : Array Value} {tq : Tok} {news : List (Addr × Obj)} (h : (c', oc) ∈ news) (hd : oc.data = .fields cvs) (hq : cvs[1]? = some (.str qual tq)) : TabSt line col qual #[rawInt line, rawInt col, .ref c'] news :=
  .inr ⟨c', oc, cvs, tq, rfl, h, hd, hq⟩
theorem nest_any {M : Model} {A : Around} {E : Value → Shared → Prop} {s : Shared} {h₀ : Heap} {L a c P : Addr} {m mg mb : Str → Option Value} {cn : Str} {cs : Scope} {ccd : Value} {cl : List (Str × Addr)} {news news₀ : List (Addr × Obj)} {g : Obj → List (Addr × Obj)}
    {p : Program} {loose : List Str} {mean : ExcName → Option Value} {name qual : Str} {params : Arguments} {body : List Stmt} {scope : Scope} {ps : Array Value} {pos : Pos} {firstLine : Nat} {clos : List (Str × Addr)}
    {Q : Value → Shared → Prop} (F : Fr h₀ L s.heap m) (N : News h₀ L s.heap news) (T : Top p loose mean mg mb h₀) (C : CodeHd h₀ c P) (hcd : ccd = .ref c) (U : UpdF P (tabObj ps) news g) (hst : TabSt pos.line pos.col qual ps news₀) (hsub : ∀ p ∈ news₀, p ∈ news)
    (hcl : closureFor scope (envX cn cs L a ccd cl) = pure clos)
    (h : ∀ f c' oc vs t ctv doc h' tk, Fr h₀ L h' m →
      News h₀ L h' ((f, fnMade name qual params body scope clos doc ((mg "__name__").getD .none) c' ctv) :: (c', oc) :: g (tabObj #[rawInt pos.line, rawInt pos.col, .ref c'])) →
      oc.data = .fields vs → vs[1]? = some (.str qual t) → (∀ q ∈ news, q.1 < f) → c' < f → ((c', oc) ∈ news₀ ∨ ∀ q ∈ news, q.1 < c') → Q (.ref f) { s with heap := h', toks := tk }) :
    wpAny M A (makeFunction name qual params (.stmts body) scope (envX cn cs L a ccd cl) [] [] [] pos firstLine) Q E s := by
  rcases hst with rfl | ⟨c', oc, cvs, tq, rfl, hm, hd, hq⟩
  · refine nest_K F N T C hcd U True.intro rfl hcl fun f c' oc vs t ctv doc h' tk F' N' hd hv l1 l2 => h f c' oc vs t ctv doc h' tk F' N' hd hv (fun q hq => Nat.lt_trans (l1 q hq) l2) l2 (.inr l1)
  · obtain ⟨pre, post, e0, hg, x1, x2⟩ := U.split
    have hmem : (P, tabObj #[rawInt pos.line, rawInt pos.col, .ref c']) ∈ news := by rw [e0]; exact List.mem_append_right _ (.head _)
    refine nestHit_K F N T C hcd hmem (by simp [TriplesOk, rawInt]) (c' := c') (by simp [codeAmong, rawInt]) hcl fun f ctv doc h' tk F' N' l1 => h f c' oc cvs tq ctv doc h' tk F' ?_ hd hq l1 (l1 _ (hsub _ hm)) (.inl hm)
    rw [hg, ← e0]
    intro q hq'
    rcases List.mem_cons.mp hq' with rfl | hq'
    · exact N' _ (.head _)
    · rcases List.mem_cons.mp hq' with rfl | hq'
      · exact N' _ (.tail _ (hsub _ hm))
      · exact N' _ (.tail _ hq')
end

section
open PySem PySem.W PyProof.Rows PySem.Spec PySem.Calls
set_option Elab.async false
set_option maxRecDepth 100000
set_option maxHeartbeats 8000000
local macro_rules | `(tactic| walk_at "call ref") => `(tactic| (refine stop_of ?_))
local macro_rules | `(tactic| mul_fits) => `(tactic| first | exact PySem.IntMulOk.of_right (PySem.intBits_le_64 (by omega) (by omega)) | exact PySem.IntMulOk.of_left (PySem.intBits_le_64 (by omega) (by omega)))
local macro_rules | `(tactic| walk_at "binaryOp RShift int int") => `(tactic| (with_reducible refine rshift_int (by omega) ?_))
local macro_rules | `(tactic| walk_at "binaryOp LShift int int") => `(tactic| (with_reducible refine lshift_int_small (by omega) (by omega) (by assumption) ?_))
local macro_rules | `(tactic| walk_at "exec FunctionDef") => `(tactic| (refine stop_of ?_))
local macro_rules | `(tactic| walk_at "call builtin:len") => `(tactic| (k_here; (with_reducible show wpAny _ _ (call (Value.builtin "len") [Value.ref _]) _ _ _); k_dflt (refine' PySem.W.KM.len_K ?N ?m ?s ?f ?_; (case N => k_asm); (case m => k_mem); (case s => (first | (rw [List.size_toArray, List.length_replicate]) | rfl)); (case f => omega); k_whole)))
local macro_rules | `(tactic| walk_at "binaryOp Mult ref int") => `(tactic| (k_here; (with_reducible show wpAny _ _ (binaryOp _ (Value.ref _) (Value.int _ _)) _ _ _); k_dflt (refine' mul_one_list ?F ?N ?m ?h0 ?h1 ?_; (case F => k_asm); (case N => k_asm); (case m => k_mem); (case h0 => assumption); (case h1 => assumption); k_whole); intro D' h' F' N' l1; (try k_lt l1); (try k_sweep)))
theorem rot3 {a b c : Addr × Obj} {l : List (Addr × Obj)} : ∀ p ∈ c :: a :: b :: l, p ∈ a :: b :: c :: l := by
  (repeat' (first | exact List.forall_mem_nil _ | refine sub_cons (by k_mem) ?_ | (intro q hq; (repeat (first | exact hq | refine List.mem_cons_of_mem _ ?_)); done)))
theorem ints_zero (k : Nat) (t : Tok) : IntsAre (List.replicate k (Value.int 0 t)) (List.replicate k 0) := by
  induction k with
  | zero => exact .nil
  | succ k ih => exact .cons _ _ ih
abbrev qualA : Str := "_int2digits.<locals>.inner"
section
variable {w : World} {p : Program} {loose : List Str} {mean : ExcName → Option Value} {mg mb : Str → Option Value} {dp un : Nat} {gd : Option (List Code)} {cn : Str} {cs : Scope} {a : Addr} {ccd : Value} {cl : List (Str × Addr)} {outer : List Env} {A₀ : Around} {base h₀ : Heap} {L : Addr} {m : Str → Option Value} {news : List (Addr × Obj)} {s : Shared}
    {Q E : Value → Shared → Prop}
theorem i2d_back (x n : Int) (t1 t2 : Tok) (ps : Array Value)
    (B : Below A₀ base outer h₀) (F : Fr h₀ L s.heap m) (X : (hd.heap_39 w.params).In h₀) (N : News h₀ L s.heap ((30, tabObj ps) :: news)) (T : Top p loose mean mg mb h₀) (hk : cs.kind = .function) (C : CodeHd base 34 30) (hn : ∀ q ∈ news, q.1 ≠ 30) (hst : TabSt 32 4 qualA ps news)
    (hdp : dp + 70 < recursionLimit) (hun : un + 700 < cLine) (hx0 : 0 ≤ x) (hx1 : x < 2 ^ 40) (hn0 : 1 ≤ n) (hn1 : n ≤ 40)
    (hc0 : 0 ≤ (↑(Builtin.Int.intBits x) + n - 1).fdiv n) (hc1 : (↑(Builtin.Int.intBits x) + n - 1).fdiv n ≤ 64) (hc2 : x ≠ 0 → 1 ≤ (↑(Builtin.Int.intBits x) + n - 1).fdiv n) (hc3 : x = 0 → (↑(Builtin.Int.intBits x) + n - 1).fdiv n = 0)
    (ret : ∀ D vs ds c c' oc cvs tq h' tk, Fr h₀ L h' m → News h₀ L h' ((D, listOf vs.toArray c) :: (30, tabObj #[rawInt 32, rawInt 4, .ref c']) :: (c', oc) :: news) → oc.data = .fields cvs → cvs[1]? = some (.str qualA tq) → IntsAre vs ds → valD n.toNat ds = x → ds.length ≤ 64 → (∀ d ∈ ds, 0 ≤ d ∧ d < 2 ^ 40) → 
      30 < D → (∀ q ∈ news, q.1 < D) → ((c', oc) ∈ news ∨ (D < c')) → Q (.ref D) { s with heap := h', toks := tk }) :
    wpAny (model PySem.Challenge.rw_pe0247_01.row.prog w) (ktrTop dp un gd cn cs L a ccd cl outer) (call (.ref 35) [.int x t1, .int n t2]) Q E s := by
  revert X; k_fill; intro X
  refine wpAny_call ?_
  k_dflt (refine' code_defC ?k1 ?k2 ?k3 ?k4 ?k5 ?kA ?kF ?kK ?k6 ?k7 ?k8 ?k9 ?kB ?kD ?_ ?c2 ?c3 ?c4; (case kA => exact rfl); (case kF => exact rfl); (case kK => assumption); (case k1 => k_asm); (case k2 => k_asm); (case k3 => k_asm); (case k4 => k_asm); (case k5 => k_asm); (case k6 => k_is); (case k7 => k_is); (case k8 => (dsimp only [ktrTop]; omega)); (case k9 => exact BindsTo.of_eq rfl); (case kB => exact rfl); (case kD => decide +kernel); (case c2 => exact rfl); (case c3 => exact rfl); (case c4 => exact rfl); k_whole; intro g' L' h' tk' cells' FG' F' N' Y' B' X' T' l1; (try k_lt l1); k_cells Y'; (try simp only [List.cons_append, List.nil_append] at N'); (try dsimp only))
  refine wpAny_noRaise ?_
  have htail := TailLt.of l1.2
  (with_reducible show wpAny _ _ (execs _ _) _ _ _)
  k_fold
  k_steps
  unfold Stop
  k_dflt (refine' nestDef_K ?d0 ?k0 ?a0 ?_; (case d0 => exact rfl); (case k0 => exact rfl); (case a0 => exact rfl))
  k_dflt (refine' nest_any ?F ?N ?T ?C ?cd ?U ?hst ?hsub ?cl ?_; (case F => k_asm); (case N => k_asm); (case T => k_asm); (case cd => exact rfl); (case C => kn_code); (case U => k_updF); (case hst => exact hst); (case hsub => exact fun p hp => (by repeat (first | exact hp | refine List.mem_cons_of_mem _ ?_))); (case cl => exact rfl); k_whole)
  intro f2 c2 oc2 vs2 t2' ct2 dc2 h2 tk2 F2 N2 d12 d22 lf lc lcc
  dsimp only at N2
  k_lt lf
  have lc2 := lcc.imp (fun h => ltN (htail.lt _ h)) (fun h => ltN (h _ (.head _)))
  dsimp only at lc2
  k_lt2 lc
  (with_reducible show wpAny _ _ (storeName _ _ _) _ _ _)
  k_steps
  · unfold Stop
    have hk1 : 1 ≤ (↑(Builtin.Int.intBits x) + n - 1).fdiv n := hc2 (by assumption)
    (with_reducible show wpAny _ _ (call (Value.ref _) _) _ _ _)
    refine' innerA_use hn0 hn1 ((↑(Builtin.Int.intBits x) + n - 1).fdiv n).toNat (by omega) (by omega) ?B ?F ?X (cb_drop ?N rot3) ?T rfl ?hf ?hc ?hcd ?hcv ?hN ?hNd ?hI ?hId ?hA ?hAd ?hne ?hiv hx0 hx1 ?hlo ?hhi ?hle ?hlen C ?hdp ?hun ?_
    case B => k_asm
    case F => k_asm
    case X => k_asm
    case N => k_asm
    case T => k_asm
    case hf => exact List.Mem.head _
    case hc => exact List.Mem.tail _ (List.Mem.head _)
    case hcd => exact d12
    case hcv => exact d22
    case hN => k_mem
    case hNd => assumption
    case hI => k_mem
    case hId => assumption
    case hA => k_mem
    case hAd => assumption
    case hne => k_all
    case hiv => exact ints_zero _ _
    case hlo => decide
    case hhi => omega
    case hle => rw [List.length_replicate]; omega
    case hlen => rw [List.length_replicate]; omega
    case hdp => dsimp only [ktrTop, Around.deeper]; omega
    case hun => dsimp only [ktrTop, Around.deeper]; omega
    intro vs3 ds3 md3 c3 h3 tk3 F3 N3 hi3 hd3 hl3 hv3 hb3
    dsimp only
    k_steps
    have hmd : ds3 = md3 := by
      rw [hd3, List.drop_of_length_le (by rw [List.length_replicate]; omega)]
      simp
    refine ret _ vs3 ds3 c3 c2 oc2 vs2 t2' _ _ (by assumption) (cb_drop (by assumption) ?sub) d12 d22 hi3 (by rw [hmd]; exact hv3) (by rw [hmd, hl3]; omega) (by rw [hmd]; exact hb3) (ltN (by omega)) (fun q hq => Nat.lt_trans (htail.lt q hq) (ltN (by omega))) (lcc.imp id fun h => h _ (List.Mem.head _))
    (repeat' (first | exact List.forall_mem_nil _ | refine sub_cons (by k_mem) ?_ | (intro q hq; (repeat (first | exact hq | refine List.mem_cons_of_mem _ ?_)); done)))
  · have h0 : (↑(Builtin.Int.intBits x) + n - 1).fdiv n = 0 := hc3 (by omega)
    refine ret _ _ _ 0 c2 oc2 vs2 t2' _ _ (by assumption) (cb_drop (by assumption) ?sub2) d12 d22 (ints_zero ((↑(Builtin.Int.intBits x) + n - 1).fdiv n).toNat tk') (by rw [h0]; simp [valD]; omega) (by rw [List.length_replicate]; omega) (by rw [h0]; simp) (ltN (by omega)) (fun q hq => Nat.lt_trans (htail.lt q hq) (ltN (by omega))) (lcc.imp id fun h => h _ (List.Mem.head _))
    (repeat' (first | exact List.forall_mem_nil _ | refine sub_cons (by k_mem) ?_ | (intro q hq; (repeat (first | exact hq | refine List.mem_cons_of_mem _ ?_)); done)))
end
end

section
open PySem PySem.W PyProof.Rows PySem.Spec PySem.Calls
set_option Elab.async false
set_option maxRecDepth 100000
set_option maxHeartbeats 8000000
local macro_rules | `(tactic| walk_at "call ref") => `(tactic| (refine stop_of ?_))
local macro_rules | `(tactic| mul_fits) => `(tactic| first | exact PySem.IntMulOk.of_right (PySem.intBits_le_64 (by (first | lia | omega)) (by (first | lia | omega))) | exact PySem.IntMulOk.of_left (PySem.intBits_le_64 (by (first | lia | omega)) (by (first | lia | omega))))
local macro_rules | `(tactic| walk_at "binaryOp RShift int int") => `(tactic| (with_reducible refine rshift_int (by (first | lia | omega)) ?_))
local macro_rules | `(tactic| walk_at "binaryOp LShift int int") => `(tactic| (with_reducible refine lshift_int_small (by (first | lia | omega)) (by (first | lia | omega)) (by (first | lia | omega)) ?_))
def InnerB (w : World) (p : Program) (loose : List Str) (mean : ExcName → Option Value) (mg mb : Str → Option Value) (n : Int) (f ad cN cI cA c' : Addr) (oN oI oA oc : Obj) (qual : Str) (tn tq : Tok) (cvs : Array Value) (dc pm ctv : Value) (vs : List Value) (ds : List Int) (c : Nat) (k : Nat) : Prop :=
  ∀ (dp un : Nat) (gd : Option (List Code)) (cn : Str) (cs : Scope) (a : Addr) (ccd : Value) (cl : List (Str × Addr)) (outer : List Env) (A₀ : Around) (base h₀ : Heap) (L : Addr) (m : Str → Option Value) (s : Shared) (Q E : Value → Shared → Prop)
    (news : List (Addr × Obj)) (lo hi : Int) (t2 t3 : Tok),
    Below A₀ base outer h₀ → Fr h₀ L s.heap m → (hd.heap_39 w.params).In h₀ → News h₀ L s.heap news → Top p loose mean mg mb h₀ → cs.kind = .function →
    (f, fnMade "inner" qual (defParams innerB) (defBody innerB) (defScope innerB) [("n", cN), ("inner", cI), ("digits", cA)] dc pm c' ctv) ∈ news → (c', oc) ∈ news → oc.data = .fields cvs → cvs[1]? = some (.str qual tq) →
    (cN, oN) ∈ news → oN.data = .cell (some (.int n tn)) → (cI, oI) ∈ news → oI.data = .cell (some (.ref f)) → (cA, oA) ∈ news → oA.data = .cell (some (.ref ad)) → (ad, listOf vs.toArray c) ∈ news →
    0 ≤ lo → hi - lo = k → hi ≤ (ds.length : Int) → CodeHd base 41 37 → dp + k < recursionLimit → un + 8 * k < cLine → valD n.toNat ((ds.drop lo.toNat).take k) < 2 ^ 40 →
    (∀ t h' tk, Fr h₀ L h' m → News h₀ L h' news → Q (.int (valD n.toNat ((ds.drop lo.toNat).take k)) t) { s with heap := h', toks := tk }) →
    wpAny (model PySem.Challenge.rw_pe0247_01.row.prog w) (ktrTop dp un gd cn cs L a ccd cl outer) (call (.ref f) [.int lo t2, .int hi t3]) Q E s
theorem valD_nonneg (n : Nat) : ∀ (l : List Int), (∀ d ∈ l, 0 ≤ d) → 0 ≤ valD n l
  | [], _ => by simp [valD]
  | d :: r, h => by
    have h1 := h d (by simp)
    have h2 := valD_nonneg n r fun e he => h e (by simp [he])
    have h3 : (0 : Int) ≤ 2 ^ n * valD n r := Int.mul_nonneg (Int.le_of_lt (Int.pow_pos (by decide))) h2
    simp only [valD]; (first | lia | omega)
theorem seg_split (ds : List Int) (lo j k : Nat) (hj : j ≤ k) : (ds.drop lo).take k = (ds.drop lo).take j ++ (ds.drop (lo + j)).take (k - j) := by
  have e : k = j + (k - j) := by (first | lia | omega)
  rw [e, List.take_add, List.drop_drop]
  congr 2
  (first | lia | omega)
theorem innerB_step {w : World} {p : Program} {loose : List Str} {mean : ExcName → Option Value} {mg mb : Str → Option Value} {n : Int} {f ad cN cI cA c' : Addr} {oN oI oA oc : Obj} {qual : Str} {tn tq : Tok} {cvs : Array Value} {dc pm ctv : Value} {vs : List Value} {ds : List Int} {c : Nat} (hn0 : 1 ≤ n) (hn1 : n ≤ 40) (hiv : IntsAre vs ds) (hpos : ∀ d ∈ ds, 0 ≤ d) (hlen : ds.length ≤ 64) (k : Nat) (hk1 : 1 ≤ k) (hk2 : k ≤ 64)
    (IH : ∀ j, 1 ≤ j → j < k → InnerB w p loose mean mg mb n f ad cN cI cA c' oN oI oA oc qual tn tq cvs dc pm ctv vs ds c j) : InnerB w p loose mean mg mb n f ad cN cI cA c' oN oI oA oc qual tn tq cvs dc pm ctv vs ds c k := by
  intro dp un gd cn cs a ccd cl outer A₀ base h₀ L m s Q E news lo hi t2 t3 B F X N T hk hf hc hcd hcv hN hNd hI hId hA hAd hL hlo hhi hle CH hdp hun hval ret
  revert X; k_fill; intro X
  refine wpAny_call ?_
  k_dflt (refine' code_nest ?k1 ?k2 ?k3 ?k4 ?k5 ?kA ?kF ?kK ?k6 ?k7 ?k8 ?k9 ?kB ?_ ?c2 ?c3 ?c4 ?c5; (case kA => exact rfl); (case kF => exact rfl); (case kK => assumption); (case k1 => exact B); (case k2 => exact F); (case k3 => exact X); (case k4 => exact N); (case k5 => exact T); (case k6 => exact hf); (case k7 => exact codeRec_news N hc hcd hcv); (case k8 => (dsimp only [ktrTop]; (first | lia | omega))); (case k9 => exact BindsTo.of_eq rfl); (case c5 => decide +kernel); (case kB => exact locs rfl); (case c2 => exact rfl); (case c3 => exact rfl); (case c4 => exact rfl); intro g' L' h' FG' F' N' B' X' T')
  refine wpAny_noRaise ?_
  have eb : defBody innerB = defBody innerB := rfl
  conv at eb => rhs; whnf
  have es : defScope innerB = defScope innerB := rfl
  conv at es => rhs; whnf
  rw [eb, es]
  clear eb es
  have e2 : (lo + hi).fdiv (2 ^ Int.toNat 1) = (lo + hi) / 2 := by rw [show (2 : Int) ^ Int.toNat 1 = 2 from rfl, Int.fdiv_eq_ediv_of_nonneg _ (by decide)]
  have hsh0 : 0 ≤ ((lo + hi).fdiv (2 ^ Int.toNat 1) - lo) * n := by rw [e2]; exact Int.mul_nonneg (by (first | lia | omega)) (by (first | lia | omega))
  have hsh1 : ((lo + hi).fdiv (2 ^ Int.toNat 1) - lo) * n ≤ 64 * 40 := by rw [e2]; exact Int.mul_le_mul (by (first | lia | omega)) hn1 (by (first | lia | omega)) (by (first | lia | omega))
  dsimp only
  (with_reducible show wpAny _ _ (execs _ _) _ _ _)
  k_fold
  k_steps
  · have e1 : valD n.toNat ((ds.drop lo.toNat).take k) = ds.getD lo.toNat 0 := by
      have hk : k = 1 := by (first | lia | omega)
      have hl : lo.toNat < ds.length := by (first | lia | omega)
      have e : (ds.drop lo.toNat).take 1 = [ds[lo.toNat]] := by rw [List.drop_eq_getElem_cons hl]; rfl
      rw [hk, e]
      simp [valD, hl]
    rw [← e1]
    exact ret _ _ _ (by assumption) (by assumption)
  · unfold Stop
    have a1 : ((lo + hi) / 2).toNat = lo.toNat + k / 2 := by (first | lia | omega)
    have hseg := seg_split ds lo.toNat (k / 2) k (by (first | lia | omega))
    have hl1 : ((ds.drop lo.toNat).take (k / 2)).length = k / 2 := by rw [List.length_take, List.length_drop]; (first | lia | omega)
    have hsum := valD_append n.toNat ((ds.drop lo.toNat).take (k / 2)) ((ds.drop (lo.toNat + k / 2)).take (k - k / 2))
    rw [← hseg, hl1] at hsum
    have p1 := valD_nonneg n.toNat ((ds.drop lo.toNat).take (k / 2)) fun d hd => hpos d (List.mem_of_mem_drop (List.mem_of_mem_take hd))
    have p2 := valD_nonneg n.toNat ((ds.drop (lo.toNat + k / 2)).take (k - k / 2)) fun d hd => hpos d (List.mem_of_mem_drop (List.mem_of_mem_take hd))
    have hp : (1 : Int) ≤ 2 ^ (n.toNat * (k / 2)) := Int.pow_pos (by decide)
    have hm : valD n.toNat ((ds.drop (lo.toNat + k / 2)).take (k - k / 2)) ≤ 2 ^ (n.toNat * (k / 2)) * valD n.toNat ((ds.drop (lo.toNat + k / 2)).take (k - k / 2)) := by
      have := Int.mul_le_mul_of_nonneg_right hp p2
      (first | lia | omega)
    have q1 : valD n.toNat ((ds.drop lo.toNat).take (k / 2)) < 2 ^ 40 := by (first | lia | omega)
    have q2 : valD n.toNat ((ds.drop (lo.toNat + k / 2)).take (k - k / 2)) < 2 ^ 40 := by (first | lia | omega)
    have h1 := IH (k - k / 2) (by (first | lia | omega)) (by (first | lia | omega))
    unfold InnerB at h1
    refine h1 _ _ _ _ _ _ _ _ _ _ _ _ _ _ _ _ _ news _ _ _ _ (by assumption) (by assumption) (by assumption) (by assumption) (by assumption) rfl hf hc hcd hcv hN hNd hI hId hA hAd hL (by rw [e2]; (first | lia | omega)) (by rw [e2]; (first | lia | omega)) hle CH (by dsimp only [ktrTop, Around.deeper]; (first | lia | omega)) (by dsimp only [ktrTop, Around.deeper]; (first | lia | omega)) (by rw [e2, a1]; exact q2) ?_
    intro t1 h1' tk1 F1 N1
    clear h1
    rw [e2, a1]
    dsimp only
    k_steps
    unfold Stop
    have h2 := IH (k / 2) (by (first | lia | omega)) (by (first | lia | omega))
    unfold InnerB at h2
    refine h2 _ _ _ _ _ _ _ _ _ _ _ _ _ _ _ _ _ news _ _ _ _ (by assumption) (by assumption) (by assumption) (by assumption) (by assumption) rfl hf hc hcd hcv hN hNd hI hId hA hAd hL hlo (by rw [e2]; (first | lia | omega)) (by rw [e2]; (first | lia | omega)) CH (by dsimp only [ktrTop, Around.deeper]; (first | lia | omega)) (by dsimp only [ktrTop, Around.deeper]; (first | lia | omega)) q1 ?_
    intro t2 h2' tk2 F2 N2
    clear h2
    dsimp only
    k_steps
    have e3 : (((lo + hi).fdiv (2 ^ Int.toNat 1) - lo) * n).toNat = n.toNat * (k / 2) := by
      rw [e2, show (lo + hi) / 2 - lo = ((k / 2 : Nat) : Int) by (first | lia | omega)]
      obtain ⟨n', rfl⟩ := Int.eq_ofNat_of_zero_le (show 0 ≤ n by (first | lia | omega))
      rw [show ((k / 2 : Nat) : Int) * (n' : Int) = ((k / 2 * n' : Nat) : Int) by push_cast; rfl, Int.toNat_natCast, Int.toNat_natCast, Nat.mul_comm]
    have e4 : valD n.toNat (List.take (k - k / 2) (List.drop (lo.toNat + k / 2) ds)) * 2 ^ (((lo + hi).fdiv (2 ^ Int.toNat 1) - lo) * n).toNat + valD n.toNat (List.take (k / 2) (List.drop lo.toNat ds)) = valD n.toNat ((ds.drop lo.toNat).take k) := by
      rw [hsum, e3, Int.mul_comm, Int.add_comm]
    rw [e4]
    exact ret _ _ _ (by assumption) (by assumption)
theorem innerB_use {w : World} {p : Program} {loose : List Str} {mean : ExcName → Option Value} {mg mb : Str → Option Value} {n : Int} {f ad cN cI cA c' : Addr} {oN oI oA oc : Obj} {qual : Str} {tn tq : Tok} {cvs : Array Value} {dc pm ctv : Value} {vs : List Value} {ds : List Int} {c : Nat} (hn0 : 1 ≤ n) (hn1 : n ≤ 40) (hiv : IntsAre vs ds) (hpos : ∀ d ∈ ds, 0 ≤ d) (hlen : ds.length ≤ 64) (k : Nat) (hk1 : 1 ≤ k) (hk2 : k ≤ 64)
    {dp un : Nat} {gd : Option (List Code)} {cn : Str} {cs : Scope} {a : Addr} {ccd : Value} {cl : List (Str × Addr)} {outer : List Env} {A₀ : Around} {base h₀ : Heap} {L : Addr} {m : Str → Option Value} {s : Shared} {Q E : Value → Shared → Prop}
    {news : List (Addr × Obj)} {lo hi : Int} {t2 t3 : Tok}
    (B : Below A₀ base outer h₀) (F : Fr h₀ L s.heap m) (X : (hd.heap_39 w.params).In h₀) (N : News h₀ L s.heap news) (T : Top p loose mean mg mb h₀) (hk : cs.kind = .function)
    (hf : (f, fnMade "inner" qual (defParams innerB) (defBody innerB) (defScope innerB) [("n", cN), ("inner", cI), ("digits", cA)] dc pm c' ctv) ∈ news) (hc : (c', oc) ∈ news) (hcd : oc.data = .fields cvs) (hcv : cvs[1]? = some (.str qual tq))
    (hN : (cN, oN) ∈ news) (hNd : oN.data = .cell (some (.int n tn))) (hI : (cI, oI) ∈ news) (hId : oI.data = .cell (some (.ref f))) (hA : (cA, oA) ∈ news) (hAd : oA.data = .cell (some (.ref ad))) (hL : (ad, listOf vs.toArray c) ∈ news)
    (hlo : 0 ≤ lo) (hhi : hi - lo = k) (hle : hi ≤ (ds.length : Int)) (CH : CodeHd base 41 37) (hdp : dp + k < recursionLimit) (hun : un + 8 * k < cLine) (hval : valD n.toNat ((ds.drop lo.toNat).take k) < 2 ^ 40)
    (ret : ∀ t h' tk, Fr h₀ L h' m → News h₀ L h' news → Q (.int (valD n.toNat ((ds.drop lo.toNat).take k)) t) { s with heap := h', toks := tk }) :
    wpAny (model PySem.Challenge.rw_pe0247_01.row.prog w) (ktrTop dp un gd cn cs L a ccd cl outer) (call (.ref f) [.int lo t2, .int hi t3]) Q E s := by
  have all : ∀ k : Nat, 1 ≤ k → k ≤ 64 → InnerB w p loose mean mg mb n f ad cN cI cA c' oN oI oA oc qual tn tq cvs dc pm ctv vs ds c k := by
    intro k
    induction k using Nat.strongRecOn with
    | _ k ih => exact fun h1 h2 => innerB_step hn0 hn1 hiv hpos hlen k h1 h2 fun j hj1 hj2 => ih j hj2 hj1 (by (first | lia | omega))
  have h := all k hk1 hk2
  unfold InnerB at h
  exact h _ _ _ _ _ _ _ _ _ _ _ _ _ _ _ _ _ _ _ _ _ _ B F X N T hk hf hc hcd hcv hN hNd hI hId hA hAd hL hlo hhi hle CH hdp hun hval ret
end

section
open PySem PySem.W PyProof.Rows PySem.Spec PySem.Calls
set_option Elab.async false
set_option maxRecDepth 100000
set_option maxHeartbeats 8000000
local macro_rules | `(tactic| walk_at "call ref") => `(tactic| (refine stop_of ?_))
local macro_rules | `(tactic| mul_fits) => `(tactic| first | exact PySem.IntMulOk.of_right (PySem.intBits_le_64 (by omega) (by omega)) | exact PySem.IntMulOk.of_left (PySem.intBits_le_64 (by omega) (by omega)))
local macro_rules | `(tactic| walk_at "exec FunctionDef") => `(tactic| (refine stop_of ?_))
local macro_rules | `(tactic| walk_at "call builtin:len") => `(tactic| (k_here; (with_reducible show wpAny _ _ (call (Value.builtin "len") [Value.ref _]) _ _ _); k_dflt (refine' PySem.W.KM.len_K ?N ?m ?s ?f ?_; (case N => k_asm); (case m => k_mem); (case s => assumption); (case f => omega); k_whole)))
theorem truthy_led {prog : Program} {w : World} {A : Around} {E : Value → Shared → Prop} {s : Shared} {h₀ : Heap} {L : Addr} {news : List (Addr × Obj)} {Q : Bool → Shared → Prop} {D : Addr} {its : Array Value} {c k : Nat} (N : News h₀ L s.heap news) (hm : (D, listOf its c) ∈ news) (hs : its.size = k) (hf : k < 2 ^ 62)
    (h : Q (decide (k ≠ 0)) { s with toks := s.toks + 1 + 1 }) : wpAny (model prog w) A (truthy (.ref D)) Q E s := by
  have hl : s.heap.IsList D its := News.isList N hm
  refine wpAny_truthy_list hl (by omega) ?_
  have e : (!its.isEmpty) = decide (k ≠ 0) := by
    unfold Array.isEmpty
    rw [hs]
    by_cases hk : k = 0 <;> simp [hk]
  rw [e]; exact h
local macro_rules | `(tactic| walk_at "truthy ref") => `(tactic| (k_here; (with_reducible show wpAny _ _ (truthy (Value.ref _)) _ _ _); k_dflt (refine' truthy_led ?N ?m ?s ?f ?_; (case N => k_asm); (case m => k_mem); (case s => assumption); (case f => omega); k_whole)))
abbrev qualB : Str := "_digits2int.<locals>.inner"
section
variable {w : World} {p : Program} {loose : List Str} {mean : ExcName → Option Value} {mg mb : Str → Option Value} {dp un : Nat} {gd : Option (List Code)} {cn : Str} {cs : Scope} {a : Addr} {ccd : Value} {cl : List (Str × Addr)} {outer : List Env} {A₀ : Around} {base h₀ : Heap} {L : Addr} {m : Str → Option Value} {news : List (Addr × Obj)} {s : Shared}
    {Q E : Value → Shared → Prop}
theorem d2i_back (n : Int) (t2 : Tok) (ps : Array Value) (ad : Addr) (vs : List Value) (ds : List Int) (c : Nat)
    (B : Below A₀ base outer h₀) (F : Fr h₀ L s.heap m) (X : (hd.heap_39 w.params).In h₀) (N : News h₀ L s.heap ((37, tabObj ps) :: news)) (T : Top p loose mean mg mb h₀) (hk : cs.kind = .function) (C : CodeHd base 41 37) (hn : ∀ q ∈ news, q.1 ≠ 37) (hst : TabSt 47 4 qualB ps news)
    (hdp : dp + 70 < recursionLimit) (hun : un + 700 < cLine) (hn0 : 1 ≤ n) (hn1 : n ≤ 40) (hL : (ad, listOf vs.toArray c) ∈ news) (hiv : IntsAre vs ds) (hpos : ∀ d ∈ ds, 0 ≤ d) (hlen : ds.length ≤ 64) (hval : valD n.toNat ds < 2 ^ 40)
    (ret : ∀ c' oc cvs tq t h' tk, Fr h₀ L h' m → News h₀ L h' ((37, tabObj #[rawInt 47, rawInt 4, .ref c']) :: (c', oc) :: news) → oc.data = .fields cvs → cvs[1]? = some (.str qualB tq) → ((c', oc) ∈ news ∨ (∀ q ∈ news, q.1 < c') ∧ 37 < c') →
      Q (.int (valD n.toNat ds) t) { s with heap := h', toks := tk }) :
    wpAny (model PySem.Challenge.rw_pe0247_01.row.prog w) (ktrTop dp un gd cn cs L a ccd cl outer) (call (.ref 42) [.ref ad, .int n t2]) Q E s := by
  revert X; k_fill; intro X
  have hvl : vs.length = ds.length := hiv.length
  have hsz : vs.toArray.size = ds.length := by simp [hvl]
  refine wpAny_call ?_
  k_dflt (refine' code_defC ?k1 ?k2 ?k3 ?k4 ?k5 ?kA ?kF ?kK ?k6 ?k7 ?k8 ?k9 ?kB ?kD ?_ ?c2 ?c3 ?c4; (case kA => exact rfl); (case kF => exact rfl); (case kK => assumption); (case k1 => k_asm); (case k2 => k_asm); (case k3 => k_asm); (case k4 => k_asm); (case k5 => k_asm); (case k6 => k_is); (case k7 => k_is); (case k8 => (dsimp only [ktrTop]; omega)); (case k9 => exact BindsTo.of_eq rfl); (case kB => exact rfl); (case kD => decide +kernel); (case c2 => exact rfl); (case c3 => exact rfl); (case c4 => exact rfl); k_whole; intro g' L' h' tk' cells' FG' F' N' Y' B' X' T' l1; (try k_lt l1); k_cells Y'; (try simp only [List.cons_append, List.nil_append] at N'); (try dsimp only))
  refine wpAny_noRaise ?_
  have htail := TailLt.of l1.2
  (with_reducible show wpAny _ _ (execs _ _) _ _ _)
  k_fold
  k_steps
  unfold Stop
  k_dflt (refine' nestDef_K ?d0 ?k0 ?a0 ?_; (case d0 => exact rfl); (case k0 => exact rfl); (case a0 => exact rfl))
  k_dflt (refine' nest_any ?F ?N ?T ?C ?cd ?U ?hst ?hsub ?cl ?_; (case F => k_asm); (case N => k_asm); (case T => k_asm); (case cd => exact rfl); (case C => kn_code); (case U => k_updF); (case hst => exact hst); (case hsub => exact fun p hp => (by repeat (first | exact hp | refine List.mem_cons_of_mem _ ?_))); (case cl => exact rfl); k_whole)
  intro f2 c2 oc2 vs2 t2' ct2 dc2 h2 tk2 F2 N2 d12 d22 lf lc lcc
  dsimp only at N2
  k_lt lf
  have lc2 := lcc.imp (fun h => ltN (htail.lt _ h)) (fun h => ltN (h _ (.head _)))
  dsimp only at lc2
  k_lt2 lc
  (with_reducible show wpAny _ _ (storeName _ _ _) _ _ _)
  k_steps
  · unfold Stop
    have hk1 : ds.length ≠ 0 := by first | assumption | omega
    (with_reducible show wpAny _ _ (call (Value.ref _) _) _ _ _)
    refine' innerB_use (n := n) (vs := vs) (ds := ds) (c := c) (ad := ad) hn0 hn1 hiv hpos hlen ds.length (by omega) hlen ?B ?F ?X ?N ?T rfl ?hf ?hc ?hcd ?hcv ?hN ?hNd ?hI ?hId ?hA ?hAd ?hL ?hlo ?hhi ?hle C ?hdp ?hun ?hval ?_
    case B => k_asm
    case F => k_asm
    case X => k_asm
    case N => k_asm
    case T => k_asm
    case hf => exact List.Mem.head _
    case hc => exact List.Mem.tail _ (List.Mem.head _)
    case hcd => exact d12
    case hcv => exact d22
    case hN => k_mem
    case hNd => assumption
    case hI => k_mem
    case hId => assumption
    case hA => k_mem
    case hAd => assumption
    case hL => k_mem
    case hlo => decide
    case hhi => omega
    case hle => omega
    case hdp => dsimp only [ktrTop, Around.deeper]; omega
    case hun => dsimp only [ktrTop, Around.deeper]; omega
    case hval => simpa using hval
    intro t3 h3 tk3 F3 N3
    have e3 : valD n.toNat ((ds.drop (0 : Int).toNat).take ds.length) = valD n.toNat ds := by simp
    rw [e3]
    dsimp only
    k_steps
    refine ret c2 oc2 vs2 t2' _ _ _ (by assumption) (cb_drop (by assumption) ?sub) d12 d22 (lcc.imp id fun h => ⟨fun q hq => h q (by simp [hq]), h (37, tabObj ps) (by simp)⟩)
    (repeat' (first | exact List.forall_mem_nil _ | refine sub_cons (by k_mem) ?_ | (intro q hq; (repeat (first | exact hq | refine List.mem_cons_of_mem _ ?_)); done)))
  · have h0 : ds = [] := List.eq_nil_of_length_eq_zero (by first | assumption | omega)
    have e3 : valD n.toNat ds = 0 := by rw [h0]; rfl
    rw [e3] at ret
    refine ret c2 oc2 vs2 t2' _ _ _ (by assumption) (cb_drop (by assumption) ?sub2) d12 d22 (lcc.imp id fun h => ⟨fun q hq => h q (by simp [hq]), h (37, tabObj ps) (by simp)⟩)
    (repeat' (first | exact List.forall_mem_nil _ | refine sub_cons (by k_mem) ?_ | (intro q hq; (repeat (first | exact hq | refine List.mem_cons_of_mem _ ?_)); done)))
end
end

section
open PySem PySem.W PyProof.Rows PySem.Spec PySem.Calls
set_option Elab.async false
set_option maxRecDepth 100000
set_option maxHeartbeats 8000000
local macro_rules | `(tactic| mul_fits) => `(tactic| first | exact PySem.IntMulOk.of_right (PySem.intBits_le_64 (by omega) (by omega)) | exact PySem.IntMulOk.of_left (PySem.intBits_le_64 (by omega) (by omega)))
abbrev tup2 (x y : Int) (t u : Tok) : Obj := { cls := .type "tuple", data := .seq #[.int x t, .int y u] }
theorem divmod_led {prog : Program} {w : World} {A : Around} {E : Value → Shared → Prop} {s : Shared} {h₀ : Heap} {L : Addr} {m : Str → Option Value} {news : List (Addr × Obj)} {Q : Value → Shared → Prop} {x y : Int} {t u : Tok} (F : Fr h₀ L s.heap m) (N : News h₀ L s.heap news) (hb : y ≠ 0) (hp : Builtin.divisionGoesByPylong x y = false)
    (h : ∀ D t' u' h' tk, Fr h₀ L h' m → News h₀ L h' ((D, tup2 (x.fdiv y) (x.fmod y) t' u') :: news) → (∀ q ∈ news, q.1 < D) → Q (.ref D) { s with heap := h', toks := tk }) :
    wpAny (model prog w) A (call (.builtin "divmod") [.int x t, .int y u]) Q E s :=
  divmod_N F N hb (fun h' F' N' => h _ _ _ h' _ F' N' fun q hq => Heap.lt_size (N q hq).1) (.inl hp)
local macro_rules | `(tactic| walk_at "call builtin:divmod") => `(tactic| (k_here; (with_reducible show wpAny _ _ (call (Value.builtin "divmod") [Value.int _ _, Value.int _ _]) _ _ _); k_dflt (refine' divmod_led ?F ?N ?hb ?hp ?_; (case F => k_asm); (case N => k_asm); (case hb => omega); (case hp => exact PyProof.noPylong_small (by omega)); k_whole); intro D' t' u' h' tk' F' N' l1))
section
variable {w : World} {p : Program} {loose : List Str} {mean : ExcName → Option Value} {mg mb : Str → Option Value} {dp un : Nat} {gd : Option (List Code)} {cn : Str} {cs : Scope} {a : Addr} {ccd : Value} {cl : List (Str × Addr)} {outer : List Env} {A₀ : Around} {base h₀ : Heap} {L : Addr} {m : Str → Option Value} {news : List (Addr × Obj)} {s : Shared}
    {Q E : Value → Shared → Prop}
theorem d21_back (x y n : Int) (t1 t2 t3 : Tok)
    (B : Below A₀ base outer h₀) (F : Fr h₀ L s.heap m) (X : (hd.heap_39 w.params).In h₀) (N : News h₀ L s.heap news) (T : Top p loose mean mg mb h₀) (hk : cs.kind = .function)
    (hdp : dp + 4 < recursionLimit) (hun : un + 40 < cLine) (hx0 : 0 ≤ x) (hx1 : x < 2 ^ 60) (hy : 0 < y) (hy1 : y < 1073741824) (hsmall : ↑(Builtin.Int.intBits x) - n ≤ 4000)
    (ret : ∀ D t u h' tk, Fr h₀ L h' m → News h₀ L h' ((D, tup2 (x.fdiv y) (x.fmod y) t u) :: news) → (∀ q ∈ news, q.1 < D) → Q (.ref D) { s with heap := h', toks := tk }) :
    wpAny (model PySem.Challenge.rw_pe0247_01.row.prog w) (ktrTop dp un gd cn cs L a ccd cl outer) (call (.ref 21) [.int x t1, .int y t2, .int n t3]) Q E s := by
  revert X; k_fill; intro X
  refine wpAny_call ?_
  k_dflt ktr_enter
  refine wpAny_noRaise ?_
  k_steps
  exact ret _ _ _ _ _ (by assumption) (by assumption) (by assumption)
end
end

section
open PySem PySem.W PyProof.Rows PySem.Spec PySem.Calls PyProof.Rows.LCg PyProof.Rows.LCp
set_option Elab.async false
set_option maxRecDepth 100000
/-- references to tuples of two ints, each in the ledger -/
def PairsAre (news : List (Addr × Obj)) : List Value → List (Int × Int) → Prop
  | [], [] => True
  | v :: vs, p :: ps => (∃ (T : Addr) (t u : Tok), v = .ref T ∧ (T, tup2 p.1 p.2 t u) ∈ news) ∧ PairsAre news vs ps
  | _, _ => False
theorem PairsAre.length {news : List (Addr × Obj)} : ∀ {vs : List Value} {ps : List (Int × Int)}, PairsAre news vs ps → vs.length = ps.length
  | [], [], _ => rfl
  | [], _ :: _, h => h.elim
  | _ :: _, [], h => h.elim
  | _ :: vs, _ :: ps, h => congrArg (· + 1) (PairsAre.length (vs := vs) (ps := ps) h.2)
theorem PairsAre.mono {news news' : List (Addr × Obj)} (hs : ∀ q ∈ news, q ∈ news') : ∀ {vs : List Value} {ps : List (Int × Int)}, PairsAre news vs ps → PairsAre news' vs ps
  | [], [], _ => trivial
  | [], _ :: _, h => h.elim
  | _ :: _, [], h => h.elim
  | _ :: vs, _ :: ps, h => ⟨let ⟨T, t, u, e, m⟩ := h.1; ⟨T, t, u, e, hs _ m⟩, PairsAre.mono hs (vs := vs) (ps := ps) h.2⟩
theorem PairsAre.snoc {news : List (Addr × Obj)} {v : Value} {p : Int × Int} (hv : ∃ (T : Addr) (t u : Tok), v = .ref T ∧ (T, tup2 p.1 p.2 t u) ∈ news) : ∀ {vs : List Value} {ps : List (Int × Int)}, PairsAre news vs ps → PairsAre news (vs ++ [v]) (ps ++ [p])
  | [], [], _ => ⟨hv, trivial⟩
  | [], _ :: _, h => h.elim
  | _ :: _, [], h => h.elim
  | _ :: vs, _ :: ps, h => ⟨h.1, PairsAre.snoc hv (vs := vs) (ps := ps) h.2⟩
theorem PairsAre.get {news : List (Addr × Obj)} : ∀ {vs : List Value} {ps : List (Int × Int)}, PairsAre news vs ps → ∀ i, i < ps.length → ∃ (T : Addr) (t u : Tok), vs.getD i .none = .ref T ∧ (T, tup2 (ps.getD i (0, 0)).1 (ps.getD i (0, 0)).2 t u) ∈ news
  | [], [], _, i, hi => absurd hi (Nat.not_lt_zero _)
  | [], _ :: _, h, _, _ => h.elim
  | _ :: _, [], h, _, _ => h.elim
  | v :: vs, p :: ps, h, 0, _ => by simpa using h.1
  | v :: vs, p :: ps, h, i + 1, hi => by simpa using PairsAre.get (vs := vs) (ps := ps) h.2 i (by simpa using hi)
theorem PairsAre.pick {news : List (Addr × Obj)} {vs : List Value} {ps : List (Int × Int)} (h : PairsAre news vs ps) : ∀ (l : List Nat), (∀ i ∈ l, i < ps.length) → PairsAre news (l.map fun i => vs.getD i .none) (l.map fun i => ps.getD i (0, 0))
  | [], _ => trivial
  | i :: l, hl => ⟨h.get i (hl i (List.mem_cons_self ..)), PairsAre.pick h l fun j hj => hl j (List.mem_cons_of_mem _ hj)⟩
section
variable {prog : Program} {w : World} {A : Around} {E : Value → Shared → Prop} {s : Shared} {h₀ : Heap} {L : Addr} {m : Str → Option Value} {news : List (Addr × Obj)} {env : Env}
theorem compRest_inv {elt : Expr} {x : Str} {scope : Scope} {cl : List (Str × Addr)} {S : List (Addr × Obj) → Prop} {P : Nat → Value → Prop} {Fin : List Value → List (Addr × Obj) → Prop} (n : Nat) (Inv : Nat → List Value → List (Addr × Obj) → Prop)
    (turn : ∀ i ys news v I oI C oC D m₂ h tk (E' : Value → Shared → Prop), i < n → Inv i ys news → P i v → NsObj oC m₂ → m₂ x = some v → Fr h₀ L h m → News h₀ L h ((I, oI) :: (C, oC) :: (D, lst ys) :: news) → Off3 I C D news → ((@Ne Nat I C) ∧ (@Ne Nat I D) ∧ (@Ne Nat C D)) →
      wpAny (model prog w) A (eval elt (compEnvC scope cl C env)) (CompEnd h₀ L m { s with heap := h, toks := tk } I oI C oC D (lst ys) S (fun y news' => Inv (i + 1) (ys ++ [y]) news')) E' { s with heap := h, toks := tk })
    (fin : ∀ ys news, Inv n ys news → Fin ys news) : ∀ k i ys news, i + k = n → Inv i ys news → CompRest prog w A h₀ L m env elt x scope cl s S P Fin k i ys news
  | 0, i, ys, news, h, hI => CompRest.zero (fin ys news (by have : i = n := by omega
                                                            subst this; exact hI))
  | k + 1, i, ys, news, h, hI => by
    refine CompRest.succ fun v I oI C oC D m₂ hh tk E' hP hC hx F N off ne => ?_
    refine wpAny_mono (turn i ys news v I oI C oC D m₂ hh tk E' (by omega) hI hP hC hx F N off ne) (fun y s₂ hy => ?_) fun _ _ e => e
    obtain ⟨h', tk', news', rfl, F', N', off', hS', r⟩ := hy
    exact ⟨h', tk', news', rfl, F', N', off', hS', compRest_inv n Inv turn fin k (i + 1) _ news' (by omega) r⟩
theorem compRestP_inv {elt : Expr} {x x₂ : Str} {scope : Scope} {cl : List (Str × Addr)} {S : List (Addr × Obj) → Prop} {P : Nat → Value → Prop} {Fin : List Value → List (Addr × Obj) → Prop} (n : Nat) (Inv : Nat → List Value → List (Addr × Obj) → Prop)
    (turn : ∀ i ys news v, i < n → Inv i ys news → P i v → ∃ (t : Addr) (ot : Obj) (v₁ v₂ : Value) (nt : Nat), v = .ref t ∧ (t, ot) ∈ news ∧ ot.cls = .type "tuple" ∧ ot.data = .seq #[v₁, v₂] nt ∧
      ∀ I oI C oC D m₂ h tk (E' : Value → Shared → Prop), NsObj oC m₂ → m₂ x = some v₁ → m₂ x₂ = some v₂ → Fr h₀ L h m → News h₀ L h ((I, oI) :: (C, oC) :: (D, lst ys) :: news) → Off3 I C D news → ((@Ne Nat I C) ∧ (@Ne Nat I D) ∧ (@Ne Nat C D)) →
      wpAny (model prog w) A (eval elt (compEnvC scope cl C env)) (CompEnd h₀ L m { s with heap := h, toks := tk } I oI C oC D (lst ys) S (fun y news' => Inv (i + 1) (ys ++ [y]) news')) E' { s with heap := h, toks := tk })
    (fin : ∀ ys news, Inv n ys news → Fin ys news) : ∀ k i ys news, i + k = n → Inv i ys news → CompRestP prog w A h₀ L m env elt x x₂ scope cl s S P Fin k i ys news
  | 0, i, ys, news, h, hI => CompRestP.zero (fin ys news (by have : i = n := by omega
                                                             subst this; exact hI))
  | k + 1, i, ys, news, h, hI => by
    refine CompRestP.succ fun v hP => ?_
    obtain ⟨t, ot, v₁, v₂, nt, e1, e2, e3, e4, go⟩ := turn i ys news v (by omega) hI hP
    refine ⟨t, ot, v₁, v₂, nt, e1, e2, e3, e4, fun I oI C oC D m₂ hh tk E' hC hx hx₂ F N off ne => ?_⟩
    refine wpAny_mono (go I oI C oC D m₂ hh tk E' hC hx hx₂ F N off ne) (fun y s₂ hy => ?_) fun _ _ e => e
    obtain ⟨h', tk', news', rfl, F', N', off', hS', r⟩ := hy
    exact ⟨h', tk', news', rfl, F', N', off', hS', compRestP_inv n Inv turn fin k (i + 1) _ news' (by omega) r⟩
theorem ask_pairs {vs : List Value} {ps : List (Int × Int)} {s₀ : Shared} (N : News h₀ L s₀.heap news) (hp : PairsAre news vs ps) {r : Nat → Int}
    (hlex : ∀ i j, i < ps.length → j < ps.length → decide (r i < r j) = if (ps.getD i (0, 0)).1 = (ps.getD j (0, 0)).1 then decide ((ps.getD i (0, 0)).2 < (ps.getD j (0, 0)).2) else decide ((ps.getD i (0, 0)).1 < (ps.getD j (0, 0)).1)) :
    Ranks (kas_ask prog w A (tuples' true) vs) r ps.length (fun s => s = s₀) := by
  rintro i j C s hi hj rfl k
  have k := k _ rfl
  rw [hlex i j hi hj] at k
  obtain ⟨T, t, u, e1, m1⟩ := hp.get i hi
  obtain ⟨T', t', u', e2, m2⟩ := hp.get j hj
  unfold kas_ask
  rw [e1, e2]
  generalize ps.getD i (0, 0) = a at *
  generalize ps.getD j (0, 0) = b at *
  refine kat_lt (N _ m1).1 rfl (N _ m2).1 rfl ?_
  show KatLex prog w A true false C [(.int a.1 t, .int b.1 t'), (.int a.2 u, .int b.2 u')] 0 s
  refine kat_cons (wpAny_eqBool_int ?_)
  by_cases h1 : a.1 = b.1
  · rw [if_pos h1] at k
    have e : (a.1 == b.1) = true := beq_iff_eq.mpr h1
    rw [e]
    refine kat_yes (kat_cons (wpAny_eqBool_int ?_))
    by_cases h2 : a.2 = b.2
    · have e : (a.2 == b.2) = true := beq_iff_eq.mpr h2
      rw [e]
      have e3 : decide (a.2 < b.2) = false := decide_eq_false (by omega)
      rw [e3] at k
      exact kat_yes (kat_nil k)
    · have e : (a.2 == b.2) = false := beq_eq_false_iff_ne.mpr h2
      rw [e]
      refine kat_no ?_
      show wpAny _ _ (oneLt' false _ _) _ _ _
      refine kat_one _ _ ?_
      exact lt_int k
  · rw [if_neg h1] at k
    have e : (a.1 == b.1) = false := beq_eq_false_iff_ne.mpr h1
    rw [e]
    refine kat_no ?_
    show wpAny _ _ (oneLt' true _ _) _ _ _
    exact oneLt_int k
theorem sorted_pairs {l : Addr} {vs : List Value} {ps : List (Int × Int)} {k : Nat} {Q : Value → Shared → Prop} (F : Fr h₀ L s.heap m) (N : News h₀ L s.heap news) (hm : (l, listOf vs.toArray k) ∈ news) (hp : PairsAre news vs ps) (h2 : 2 ≤ ps.length) (h64 : ps.length < 64)
    (r : Nat → Int) (hne : ∀ i j, i < ps.length → j < ps.length → i ≠ j → r i ≠ r j)
    (hlex : ∀ i j, i < ps.length → j < ps.length → decide (r i < r j) = if (ps.getD i (0, 0)).1 = (ps.getD j (0, 0)).1 then decide ((ps.getD i (0, 0)).2 < (ps.getD j (0, 0)).2) else decide ((ps.getD i (0, 0)).1 < (ps.getD j (0, 0)).1))
    (h : ∀ (D : Addr) (e : Nat) (h' : Heap) (vs' : List Value) (idx : List Nat), Fr h₀ L h' m → News h₀ L h' ((D, listOf (List.toArray vs') e) :: news) → (∀ q ∈ news, q.1 < D) → idx.Perm (List.range ps.length) → idx.Pairwise (fun a b => r a < r b) → PairsAre news vs' (idx.map fun i => ps.getD i (0, 0)) → Q (.ref D) { s with heap := h' }) :
    wpAny (model prog w) A (call (.builtin "sorted") [.ref l]) Q E s := by
  have hl := hp.length
  refine kat_sorted F N (News.isList N hm) (by omega) (by omega) fun D e1 h' F' N' l1 => ?_
  have hT : ∀ vs : List Value, ∀ ps : List (Int × Int), PairsAre news vs ps → ∃ fs, KatTups h' vs fs ∧ fs.length = vs.length ∧ ∀ v ∈ fs, Looks (model prog w) h' (typeOf v) (.type "int") := by
    intro vs
    induction vs with
    | nil => intro ps _; exact ⟨[], trivial, rfl, fun v hv => nomatch hv⟩
    | cons v vs ih =>
      intro ps hp
      cases ps with
      | nil => exact hp.elim
      | cons p ps =>
        obtain ⟨⟨T, t, u, e, mm⟩, hp⟩ := hp
        obtain ⟨fs, a1, a2, a3⟩ := ih ps hp
        subst e
        refine ⟨.int p.1 t :: fs, KatTups.cons (N' _ (List.mem_cons_of_mem _ mm)).1 rfl rfl rfl a1, by simp [a2], fun v hv => ?_⟩
        rcases List.mem_cons.mp hv with rfl | hv
        · exact .now
        · exact a3 v hv
  obtain ⟨fs, b1, b2, b3⟩ := hT vs ps hp
  refine kat_kind (s := { s with heap := h' }) b1 (by omega) b3 (by decide) ?_
  show (kas_sort vs.length).kasWp (kas_ask prog w A.in1.in1 (tuples' true) vs) _ _
  have hR := ask_pairs (prog := prog) (w := w) (A := A.in1.in1) (s₀ := { s with heap := h' }) (h₀ := h₀) (L := L) (fun q hq => N' q (List.mem_cons_of_mem _ hq)) hp hlex
  rw [hl]
  refine sort_wp hR h2 hne (s := { s with heap := h' }) rfl fun p s' hrow hup hs' => ?_
  subst hs'
  refine KasFin.intro F' N' (UpdF.head fun q hq => Nat.ne_of_lt (l1 q hq)) fun h2' c F2 N2 => ?_
  have hperm : p.toList.Perm (List.range ps.length) := by simpa using hrow.perm.toList
  refine h D c h2' _ p.toList F2 N2 l1 hperm ?_ (hp.pick p.toList fun i hi => List.mem_range.mp ((hperm.mem_iff).mp hi))
  rw [List.pairwise_iff_getElem]
  intro i j hi hj hij
  have hi' : i < p.size := hi
  have hj' : j < p.size := hj
  have a1 := hup i j (Nat.le_of_lt hij) (by rw [← hrow.size]; exact hj)
  have a2 := hrow.ne i j (by rw [← hrow.size]; exact hi) (by rw [← hrow.size]; exact hj) (Nat.ne_of_lt hij)
  unfold vAt at a1 a2
  have e1 : p.getD i 0 = p.toList[i] := by simp [Array.getD, hi']
  have e2 : p.getD j 0 = p.toList[j] := by simp [Array.getD, hj']
  rw [e1, e2] at a1 a2
  omega
end
end

section
open PySem PySem.W PyProof.Rows PySem.Spec PySem.Calls
set_option Elab.async false
set_option maxRecDepth 100000
set_option maxHeartbeats 8000000
local macro_rules | `(tactic| mul_fits) => `(tactic| first | exact PySem.IntMulOk.of_right (PySem.intBits_le_64 (by (first | lia | omega)) (by (first | lia | omega))) | exact PySem.IntMulOk.of_left (PySem.intBits_le_64 (by (first | lia | omega)) (by (first | lia | omega))))
local macro_rules | `(tactic| walk_at "call ref") => `(tactic| (refine stop_of ?_))
local macro_rules | `(tactic| walk_at "binaryOp RShift int int") => `(tactic| (with_reducible refine rshift_int (by (first | lia | omega)) ?_))
local macro_rules | `(tactic| walk_at "binaryOp LShift int int") => `(tactic| (with_reducible refine lshift_int_small (by (first | lia | omega)) (by (first | lia | omega)) (by assumption) ?_))
theorem bits_range {y : Int} (hy : 0 < y) (hy1 : y < 2 ^ 20) : (1 : Int) ≤ ((Builtin.Int.intBits y : Nat) : Int) ∧ ((Builtin.Int.intBits y : Nat) : Int) ≤ 20 := by
  have h1 : Builtin.Int.intBits y ≤ 20 := intBits_le_iff.mpr (by (first | lia | omega))
  have h2 : ¬ Builtin.Int.intBits y ≤ 0 := fun h => by
    have := intBits_le_iff.mp h
    simp at this
    (first | lia | omega)
  (first | lia | omega)
theorem count_range {x n : Int} (hx0 : 0 ≤ x) (hx1 : x < 2 ^ 30) (hn0 : 1 ≤ n) : 0 ≤ (((Builtin.Int.intBits x : Nat) : Int) + n - 1).fdiv n ∧ (((Builtin.Int.intBits x : Nat) : Int) + n - 1).fdiv n ≤ 64 ∧ (x ≠ 0 → 1 ≤ (((Builtin.Int.intBits x : Nat) : Int) + n - 1).fdiv n) ∧ (x = 0 → (((Builtin.Int.intBits x : Nat) : Int) + n - 1).fdiv n = 0) := by
  have h1 : Builtin.Int.intBits x ≤ 30 := intBits_le_iff.mpr (by (first | lia | omega))
  rw [Int.fdiv_eq_ediv_of_nonneg _ (by (first | lia | omega))]
  refine ⟨Int.ediv_nonneg (by (first | lia | omega)) (by (first | lia | omega)), ?_, fun hx => ?_, fun hx => ?_⟩
  · have := Int.ediv_lt_of_lt_mul (a := ((Builtin.Int.intBits x : Nat) : Int) + n - 1) (b := 65) (c := n) (by (first | lia | omega)) (by (first | lia | omega))
    (first | lia | omega)
  · have h2 : ¬ Builtin.Int.intBits x ≤ 0 := fun h => by
      have := intBits_le_iff.mp h
      simp at this
      (first | lia | omega)
    refine Int.le_ediv_of_mul_le (by (first | lia | omega)) (by (first | lia | omega))
  · have h2 : Builtin.Int.intBits x ≤ 0 := intBits_le_iff.mpr (by simp [hx])
    exact Int.ediv_eq_zero_of_lt (by (first | lia | omega)) (by (first | lia | omega))
theorem pow_le_pow_int {a b : Nat} (h : a ≤ b) : (2 : Int) ^ a ≤ 2 ^ b := by
  have := Nat.pow_le_pow_right (n := 2) (by decide) h
  have e : ∀ k : Nat, (2 : Int) ^ k = ((2 ^ k : Nat) : Int) := fun k => by simp
  rw [e, e]
  exact Int.ofNat_le.mpr this
theorem small_bits {x n : Int} (hx : x.natAbs < 2 ^ 60) (hn : 1 ≤ n) : ((Builtin.Int.intBits x : Nat) : Int) - n ≤ 4000 := by
  have h1 : Builtin.Int.intBits x ≤ 60 := intBits_le_iff.mpr hx
  (first | lia | omega)
local macro_rules | `(tactic| size_fits) => `(tactic| (simp only [List.size_toArray, PySem.sizeLine_eq]; (first | lia | omega)))
local macro_rules | `(tactic| walk_at "call builtin:list.reverse") => `(tactic| (k_here; (with_reducible show wpAny _ _ (call (Value.builtin _) [Value.ref _]) _ _ _); k_dflt (refine' kl_reverse ?F ?N ?e ?U ?z ?_; (case F => k_asm); (case N => k_asm); (case U => k_upd); (case e => exact rfl); (case z => (simp only [List.toList_toArray, PySem.sizeLine_eq]; (first | lia | omega)))); kl_rest))
theorem TabSt.noStr {line col : Nat} {qual q : Str} {t : Tok} {ps : Array Value} {news : List (Addr × Obj)} (h : TabSt line col qual ps news) (e : ps[1]? = some (.str q t)) : False := by
  rcases h with rfl | ⟨c', oc, cvs, tq, rfl, _⟩
  · cases e
  · cases e
structure DS where
  r : Int
  t : Tok
  vs : List Value
  qd : List Int
  n : Nat
structure DInv (y : Int) (n : Nat) (ds : List Int) (i : Nat) (c : DS) : Prop where
  are : IntsAre c.vs c.qd
  len : c.qd.length = i
  r0 : 0 ≤ c.r
  r1 : c.r < y
  pos : ∀ d ∈ c.qd, 0 ≤ d
  eq : valD n (ds.reverse.take i).reverse = y * valD n c.qd.reverse + c.r
theorem DInv.start {y : Int} {n : Nat} {ds : List Int} {t : Tok} {k : Nat} (hy : 0 < y) : DInv y n ds 0 ⟨0, t, [], [], k⟩ := ⟨.nil, rfl, Int.le_refl _, hy, (by intro d hd; cases hd), (by simp [valD])⟩
theorem DInv.next {y : Int} {n : Nat} {ds : List Int} {i : Nat} {c : DS} {d : Int} {k : Nat} {t u : Tok} (h : DInv y n ds i c) (hd : ds.reverse[i]? = some d) (hy : 0 < y) (hd0 : 0 ≤ d) :
    DInv y n ds (i + 1) ⟨(c.r * 2 ^ n + d).fmod y, t, c.vs ++ [.int ((c.r * 2 ^ n + d).fdiv y) u], c.qd ++ [(c.r * 2 ^ n + d).fdiv y], k⟩ := by
  have hp : (0 : Int) < 2 ^ n := Int.pow_pos (by decide)
  have h0 : 0 ≤ c.r * 2 ^ n + d := Int.add_nonneg (Int.mul_nonneg h.r0 (Int.le_of_lt hp)) hd0
  have ed : (c.r * 2 ^ n + d).fdiv y = (c.r * 2 ^ n + d) / y := Int.fdiv_eq_ediv_of_nonneg _ (Int.le_of_lt hy)
  have em : (c.r * 2 ^ n + d).fmod y = (c.r * 2 ^ n + d) % y := Int.fmod_eq_emod_of_nonneg _ (Int.le_of_lt hy)
  rw [ed, em]
  refine ⟨h.are.append (.cons _ _ .nil), (by simp [h.len]), Int.emod_nonneg _ (by (first | lia | omega)), Int.emod_lt_of_pos _ hy, fun e he => ?_, ?_⟩
  · rcases List.mem_append.mp he with he | he
    · exact h.pos e he
    · rw [List.mem_singleton.mp he]; exact Int.ediv_nonneg h0 (Int.le_of_lt hy)
  · have e1 : (ds.reverse.take (i + 1)).reverse = d :: (ds.reverse.take i).reverse := by
      rw [List.take_succ, hd]; simp
    rw [e1, List.reverse_append]
    show d + 2 ^ n * valD n (ds.reverse.take i).reverse = y * ((c.r * 2 ^ n + d) / y + 2 ^ n * valD n c.qd.reverse) + (c.r * 2 ^ n + d) % y
    rw [h.eq]
    have e2 := Int.mul_ediv_add_emod (c.r * 2 ^ n + d) y
    have e3 : (2 : Int) ^ n * (y * valD n c.qd.reverse + c.r) = y * (2 ^ n * valD n c.qd.reverse) + c.r * 2 ^ n := by rw [Int.mul_add]; congr 1 <;> ac_rfl
    rw [e3, Int.mul_add]
    (first | lia | omega)
local macro_rules | `(tactic| walk_at "pyIter ref") => `(tactic| (refine stop_of ?_))
section
variable {w : World} {p : Program} {loose : List Str} {mean : ExcName → Option Value} {mg mb : Str → Option Value} {dp un : Nat} {gd : Option (List Code)} {cn : Str} {cs : Scope} {a : Addr} {ccd : Value} {cl : List (Str × Addr)} {outer : List Env} {A₀ : Around} {base h₀ : Heap} {L : Addr} {m : Str → Option Value} {news : List (Addr × Obj)} {s : Shared}
    {Q E : Value → Shared → Prop}
theorem dmp_back (x y : Int) (t1 t2 : Tok) (ps qs : Array Value)
    (B : Below A₀ base outer h₀) (F : Fr h₀ L s.heap m) (X : (hd.heap_39 w.params).In h₀) (N : News h₀ L s.heap ((30, tabObj ps) :: (37, tabObj qs) :: news)) (T : Top p loose mean mg mb h₀) (hk : cs.kind = .function)
    (CA : CodeHd base 34 30) (CB : CodeHd base 41 37) (hnA : ∀ q ∈ news, q.1 ≠ 30) (hnB : ∀ q ∈ news, q.1 ≠ 37) (hsA : TabSt 32 4 qualA ps news) (hsB : TabSt 47 4 qualB qs news)
    (hdp : dp + 80 < recursionLimit) (hun : un + 800 < cLine) (hx0 : 0 ≤ x) (hx1 : x < 2 ^ 30) (hy : 0 < y) (hy1 : y < 2 ^ 20)
    (ret : ∀ D t u ps' qs' more h' tk, Fr h₀ L h' m → News h₀ L h' ((D, tup2 (x.fdiv y) (x.fmod y) t u) :: (30, tabObj ps') :: (37, tabObj qs') :: (more ++ news)) → TabSt 32 4 qualA ps' (more ++ news) → TabSt 47 4 qualB qs' (more ++ news) → (∀ q ∈ more ++ news, q.1 ≠ 30) → (∀ q ∈ more ++ news, q.1 ≠ 37) →
      (∀ q ∈ news, q.1 < D) → Q (.ref D) { s with heap := h', toks := tk }) :
    wpAny (model PySem.Challenge.rw_pe0247_01.row.prog w) (ktrTop dp un gd cn cs L a ccd cl outer) (call (.ref 49) [.int x t1, .int y t2]) Q E s := by
  revert X; k_fill; intro X
  refine wpAny_call ?_
  k_dflt ktr_enter
  refine wpAny_noRaise ?_
  k_steps
  unfold Stop
  (with_reducible show wpAny _ _ (call (Value.ref _) _) _ _ _)
  obtain ⟨hn0, hn1⟩ := bits_range hy hy1
  obtain ⟨hc0, hc1, hc2, hc3⟩ := count_range hx0 hx1 hn0
  refine' i2d_back x _ _ _ ps ?B ?F ?X ?N ?T rfl CA ?hn ?hst ?hdp ?hun hx0 ?hx1 hn0 ?hn1 hc0 hc1 hc2 hc3 ?_
  case B => k_asm
  case F => k_asm
  case X => k_asm
  case N => k_asm
  case T => k_asm
  case hn => exact List.forall_mem_cons.mpr ⟨(by dsimp only; decide), hnA⟩
  case hst => exact hsA.mono fun p hp => List.mem_cons_of_mem _ hp
  case hdp => dsimp only [ktrTop, Around.deeper]; (first | lia | omega)
  case hun => dsimp only [ktrTop, Around.deeper]; (first | lia | omega)
  case hx1 => (first | lia | omega)
  case hn1 => (first | lia | omega)
  intro D vs ds c c1 oc1 cvs1 tq1 h1 tk1 F1 N1 d11 d12 hiv hval hlen hD30 hDn hDn' hc1''
  dsimp only
  k_steps
  unfold Stop
  (with_reducible show wpAny _ _ (pyIter _) _ _ _)
  refine' for_rev (σ := DS) (fun c => (_, listOf c.vs.toArray c.n) :: (D, listOf vs.toArray _) :: (30, _) :: (c1, oc1) :: (37, tabObj qs) :: news) (fun c => [("r", .int c.r c.t)]) ["q_digit"] (DInv y (↑(Builtin.Int.intBits y) : Int).toNat ds) ⟨0, _, [], [], 0⟩ ?hh ?F ?N ?hne ?hm ?hc ?hd ?hk ?h0 ?turn ?done
  case hh => exact rfl
  case F => k_asm
  case N => assumption
  case hne => k_all
  case hm => intro c; k_mem
  case hc => exact rfl
  case hd => exact rfl
  case hk => (intro p hp; rw [List.mem_singleton.mp hp]; exact rfl)
  case h0 => exact DInv.start hy
  case turn =>
    intro i v c2 u h2 tk2 oI hv hI hne2 F2 N2
    obtain ⟨d, td, rfl, hdd⟩ := hiv.reverse.at i v hv
    have hdb := hD30 d (by have := List.mem_of_getElem? hdd; simpa using this)
    have hr0 := hI.r0
    have hr1 := hI.r1
    have hpw : (2 : Int) ^ (↑(Builtin.Int.intBits y) : Int).toNat ≤ 2 ^ 20 := pow_le_pow_int (by (first | lia | omega))
    have hpp : (0 : Int) < (2 : Int) ^ (↑(Builtin.Int.intBits y) : Int).toNat := Int.pow_pos (by decide)
    have hm0 : 0 ≤ c2.r * 2 ^ (↑(Builtin.Int.intBits y) : Int).toNat := Int.mul_nonneg hr0 (Int.le_of_lt hpp)
    have hm1 : c2.r * 2 ^ (↑(Builtin.Int.intBits y) : Int).toNat ≤ 2 ^ 20 * 2 ^ 20 := Int.mul_le_mul (by (first | lia | omega)) hpw (Int.le_of_lt hpp) (by decide)
    have hsm : (c2.r * 2 ^ (↑(Builtin.Int.intBits y) : Int).toNat).natAbs < 2 ^ 64 := by (first | lia | omega)
    (with_reducible show wpAny _ _ (execs _ _) _ _ _)
    k_fold
    k_steps
    unfold Stop
    (with_reducible show wpAny _ _ (call (Value.ref _) _) _ _ _)
    refine' d21_back _ _ _ _ _ _ ?B ?F ?X ?N ?T rfl ?hdp ?hun ?hx0 ?hx1 hy ?hy1 ?hs ?_
    case B => k_asm
    case F => k_asm
    case X => k_asm
    case N => k_asm
    case T => k_asm
    case hdp => dsimp only [ktrTop, Around.deeper]; (first | lia | omega)
    case hun => dsimp only [ktrTop, Around.deeper]; (first | lia | omega)
    case hx0 => (first | lia | omega)
    case hx1 => (first | lia | omega)
    case hy1 => (first | lia | omega)
    case hs => exact small_bits (by (first | lia | omega)) (by (first | lia | omega))
    intro D3 t3 u3 h3 tk3 F3 N3 l3
    k_lt l3
    have hsz2 : c2.vs.length ≤ 64 := by have a3 := (List.getElem?_eq_some_iff.mp hv).1; rw [List.length_reverse, hiv.length] at a3; rw [hI.are.length, hI.len]; exact Nat.le_of_lt (Nat.lt_of_lt_of_le a3 hlen)
    dsimp only
    k_steps
    refine' for_end (DS.mk ((c2.r * 2 ^ (↑(Builtin.Int.intBits y) : Int).toNat + d).fmod y) u3 (c2.vs ++ [.int ((c2.r * 2 ^ (↑(Builtin.Int.intBits y) : Int).toNat + d).fdiv y) t3]) (c2.qd ++ [(c2.r * 2 ^ (↑(Builtin.Int.intBits y) : Int).toNat + d).fdiv y]) (c2.n + 1)) ?F ?N ?hn ?ho ?hk ?hr (hI.next (t := u3) (u := t3) (k := c2.n + 1) hdd hy hdb.1)
    case F => assumption
    case N => assumption
    case hn =>
      simp only [List.push_toArray]
      (repeat' (first | exact List.forall_mem_nil _ | refine sub_cons (by k_mem) ?_ | (intro q hq; (repeat (first | exact hq | refine List.mem_cons_of_mem _ ?_)); done)))
    case ho => k_all
    case hk => (intro p hp; rw [List.mem_singleton.mp hp]; exact rfl)
    case hr =>
      skip
      intro z h1 h2 h3
      have h4 := h2 _ (List.mem_singleton.mpr rfl)
      have h5 : z ≠ "q_digit" := by rintro rfl; exact absurd h3 (by decide)
      simp only [kstB, h1, h4, h5, h3, if_false, Bool.false_eq_true]
  case done =>
    intro c2 u h2 tk2 hI F2 N2
    have hsz2 : c2.vs.length ≤ 64 := by have := hI.are.length; have := hI.len; have := hiv.length; (first | lia | omega)
    dsimp only
    k_steps
    unfold Stop
    have e0 : (ds.reverse.take vs.length).reverse = ds := by rw [List.take_of_length_le (by have := hiv.length; simp; (first | lia | omega))]; simp
    have heq := hI.eq
    rw [e0, hval] at heq
    have hr0 := hI.r0
    have hr1 := hI.r1
    have hq0 : valD (↑(Builtin.Int.intBits y) : Int).toNat c2.qd.reverse = x.fdiv y := by
      rw [Int.fdiv_eq_ediv_of_nonneg _ (Int.le_of_lt hy), heq, Int.mul_comm y, Int.add_comm, Int.add_mul_ediv_right _ _ (by (first | lia | omega)), Int.ediv_eq_zero_of_lt hr0 hr1]; (first | lia | omega)
    have hr2 : c2.r = x.fmod y := by
      rw [Int.fmod_eq_emod_of_nonneg _ (Int.le_of_lt hy), heq, Int.add_comm, Int.add_mul_emod_self_left, Int.emod_eq_of_lt hr0 hr1]
    have hq1 : x.fdiv y < 2 ^ 40 := by
      rw [Int.fdiv_eq_ediv_of_nonneg _ (Int.le_of_lt hy)]
      have := Int.ediv_le_self y hx0
      (first | lia | omega)
    have hne1 : c1 ≠ 37 ∧ c1 ≠ 30 := by
      rcases hc1'' with h | h
      · rcases List.mem_cons.mp h with h | h
        · rw [(Prod.mk.inj h).2] at d11; cases d11; exact (hsB.noStr d12).elim
        · exact ⟨hnB _ h, hnA _ h⟩
      · exact ⟨Nat.ne_of_gt (Nat.lt_trans (hDn' (37, tabObj qs) (List.mem_cons_self ..)) h), Nat.ne_of_gt (Nat.lt_trans hDn h)⟩
    (with_reducible show wpAny _ _ (call (Value.ref _) _) _ _ _)
    refine' d2i_back (news := (_, listOf c2.vs.reverse.toArray c2.n) :: (30, tabObj #[rawInt 32, rawInt 4, .ref c1]) :: (c1, oc1) :: news) _ _ qs _ c2.vs.reverse c2.qd.reverse c2.n ?B ?F ?X (cb_drop ?N ?sub) ?T rfl CB ?hn ?hst ?hdp ?hun hn0 ?hn1 ?hL hI.are.reverse ?hpos ?hlen ?hval ?_
    case hL => exact List.mem_cons_self ..
    case B => k_asm
    case F => k_asm
    case X => k_asm
    case N => k_asm
    case T => k_asm
    case sub =>
      (repeat' (first | exact List.forall_mem_nil _ | refine sub_cons (by k_mem) ?_ | (intro q hq; (repeat (first | exact hq | refine List.mem_cons_of_mem _ ?_)); done)))
    case hn => exact List.forall_mem_cons.mpr ⟨by k_ne, List.forall_mem_cons.mpr ⟨(by dsimp only; decide), List.forall_mem_cons.mpr ⟨hne1.1, hnB⟩⟩⟩
    case hst => exact hsB.mono fun p hp => List.mem_cons_of_mem _ (List.mem_cons_of_mem _ (List.mem_cons_of_mem _ hp))
    case hdp => dsimp only [ktrTop, Around.deeper]; (first | lia | omega)
    case hun => dsimp only [ktrTop, Around.deeper]; (first | lia | omega)
    case hn1 => (first | lia | omega)
    case hpos => intro d hd; exact hI.pos d (List.mem_reverse.mp hd)
    case hlen => have := hI.len; have := hiv.length; simp; (first | lia | omega)
    case hval => rw [hq0]; exact hq1
    rw [hq0]
    intro c3 oc3 cvs3 tq3 t3 h3 tk3 F3 N3 d31 d32 hc3
    have hmem : ∀ p ∈ (c3, oc3) :: (c1, oc1) :: news, p.1 ≠ 30 ∧ p.1 ≠ 37 := by
      intro p hp
      rcases List.mem_cons.mp hp with h | hp
      · rw [h]
        rcases hc3 with h | h
        · rcases List.mem_cons.mp h with h | h
          · rw [(Prod.mk.inj h).2] at d31; cases d31
          · rcases List.mem_cons.mp h with h | h
            · rw [(Prod.mk.inj h).2] at d31; cases d31; cases d32
            · rcases List.mem_cons.mp h with h | h
              · rw [(Prod.mk.inj h).1]; exact ⟨hne1.2, hne1.1⟩
              · exact ⟨hnA _ h, hnB _ h⟩
        · exact ⟨Nat.ne_of_gt (h.1 (30, tabObj #[rawInt 32, rawInt 4, .ref c1]) (.tail _ (.head _))), Nat.ne_of_gt h.2⟩
      · rcases List.mem_cons.mp hp with h | hp
        · rw [h]; exact ⟨hne1.2, hne1.1⟩
        · exact ⟨hnA _ hp, hnB _ hp⟩
    k_steps
    rw [hr2] at *
    refine' ret _ t3 c2.t _ _ [(c3, oc3), (c1, oc1)] _ _ (by assumption) (cb_drop ?N ?sub) (TabSt.mk (.tail _ (.head _)) d11 d12) (TabSt.mk (.head _) d31 d32) (fun q hq => (hmem q hq).1) (fun q hq => (hmem q hq).2) ?lt
    case N => assumption
    case sub =>
      (repeat' (first | exact List.forall_mem_nil _ | refine sub_cons (by k_mem) ?_ | (intro q hq; (repeat (first | exact hq | refine List.mem_cons_of_mem _ ?_)); done)))
    case lt =>
      have hl := (by assumption : 37 < _ ∧ c3 < _ ∧ _ ∧ _ ∧ _ ∧ AllLt _ news)
      exact (TailLt.of hl.2.2.2.2.2).lt
end
end

section
open PySem PySem.W PyProof.Rows PySem.Spec PySem.Calls
set_option Elab.async false
set_option maxRecDepth 100000
set_option maxHeartbeats 8000000
local macro_rules | `(tactic| walk_at "call ref") => `(tactic| (refine stop_of ?_))
theorem bitNot_eq (x : Int) : Builtin.bitNot x = -x - 1 := by unfold Builtin.bitNot; omega
theorem not_divmod {x y : Int} (hy : 0 < y) : Builtin.bitNot ((Builtin.bitNot x).fdiv y) = x.fdiv y ∧ y + Builtin.bitNot ((Builtin.bitNot x).fmod y) = x.fmod y := by
  simp only [bitNot_eq]
  rw [Int.fdiv_eq_ediv_of_nonneg _ (Int.le_of_lt hy), Int.fdiv_eq_ediv_of_nonneg _ (Int.le_of_lt hy), Int.fmod_eq_emod_of_nonneg _ (Int.le_of_lt hy), Int.fmod_eq_emod_of_nonneg _ (Int.le_of_lt hy)]
  have h1 := Int.mul_ediv_add_emod (-x - 1) y
  have h2 := Int.emod_nonneg (-x - 1) (Int.ne_of_gt hy)
  have h3 := Int.emod_lt_of_pos (-x - 1) hy
  have h4 : y * (-((-x - 1) / y) - 1) = -(y * ((-x - 1) / y)) - y := by rw [Int.mul_sub, Int.mul_neg, Int.mul_one]
  have h5 := (Int.ediv_emod_unique (a := x) (b := y) (q := -((-x - 1) / y) - 1) (r := y - (-x - 1) % y - 1) hy).mpr ⟨by omega, by omega, by omega⟩
  rw [h5.1, h5.2]
  exact ⟨rfl, by omega⟩
section
variable {w : World} {p : Program} {loose : List Str} {mean : ExcName → Option Value} {mg mb : Str → Option Value} {dp un : Nat} {gd : Option (List Code)} {cn : Str} {cs : Scope} {a : Addr} {ccd : Value} {cl : List (Str × Addr)} {outer : List Env} {A₀ : Around} {base h₀ : Heap} {L : Addr} {m : Str → Option Value} {news : List (Addr × Obj)} {s : Shared}
    {Q E : Value → Shared → Prop}
theorem idm_pos (x y : Int) (t1 t2 : Tok) (ps qs : Array Value)
    (B : Below A₀ base outer h₀) (F : Fr h₀ L s.heap m) (X : (hd.heap_39 w.params).In h₀) (N : News h₀ L s.heap ((30, tabObj ps) :: (37, tabObj qs) :: news)) (T : Top p loose mean mg mb h₀) (hk : cs.kind = .function)
    (CA : CodeHd base 34 30) (CB : CodeHd base 41 37) (hnA : ∀ q ∈ news, q.1 ≠ 30) (hnB : ∀ q ∈ news, q.1 ≠ 37) (hsA : TabSt 32 4 qualA ps news) (hsB : TabSt 47 4 qualB qs news)
    (hdp : dp + 82 < recursionLimit) (hun : un + 820 < cLine) (hx0 : 0 ≤ x) (hx1 : x < 2 ^ 30) (hy : 0 < y) (hy1 : y < 2 ^ 20)
    (ret : ∀ D t u ps' qs' more h' tk, Fr h₀ L h' m → News h₀ L h' ((D, tup2 (x.fdiv y) (x.fmod y) t u) :: (30, tabObj ps') :: (37, tabObj qs') :: (more ++ news)) → TabSt 32 4 qualA ps' (more ++ news) → TabSt 47 4 qualB qs' (more ++ news) → (∀ q ∈ more ++ news, q.1 ≠ 30) → (∀ q ∈ more ++ news, q.1 ≠ 37) →
      (∀ q ∈ news, q.1 < D) → Q (.ref D) { s with heap := h', toks := tk }) :
    wpAny (model PySem.Challenge.rw_pe0247_01.row.prog w) (ktrTop dp un gd cn cs L a ccd cl outer) (call (.ref 56) [.int x t1, .int y t2]) Q E s := by
  revert X; k_fill; intro X
  refine wpAny_call ?_
  k_dflt ktr_enter
  refine wpAny_noRaise ?_
  k_steps
  · exfalso; omega
  unfold Stop
  (with_reducible show wpAny _ _ (call (Value.ref _) _) _ _ _)
  refine' dmp_back _ _ _ _ ps qs ?B ?F ?X ?N ?T rfl CA CB hnA hnB hsA hsB ?hdp ?hun hx0 hx1 hy hy1 ?_
  case B => k_asm
  case F => k_asm
  case X => k_asm
  case N => k_asm
  case T => k_asm
  case hdp => dsimp only [ktrTop, Around.deeper]; omega
  case hun => dsimp only [ktrTop, Around.deeper]; omega
  intro D t u ps' qs' more h1 tk1 F1 N1 sA sB nA nB l1
  dsimp only
  k_steps
  exact ret _ t u ps' qs' more _ _ (by assumption) (by assumption) sA sB nA nB l1
theorem idm_neg (x y : Int) (t1 t2 : Tok) (ps qs : Array Value)
    (B : Below A₀ base outer h₀) (F : Fr h₀ L s.heap m) (X : (hd.heap_39 w.params).In h₀) (N : News h₀ L s.heap ((30, tabObj ps) :: (37, tabObj qs) :: news)) (T : Top p loose mean mg mb h₀) (hk : cs.kind = .function)
    (CA : CodeHd base 34 30) (CB : CodeHd base 41 37) (hnA : ∀ q ∈ news, q.1 ≠ 30) (hnB : ∀ q ∈ news, q.1 ≠ 37) (hsA : TabSt 32 4 qualA ps news) (hsB : TabSt 47 4 qualB qs news)
    (hdp : dp + 84 < recursionLimit) (hun : un + 840 < cLine) (hx0 : x < 0) (hx1 : -(2 ^ 30) < x) (hy : 0 < y) (hy1 : y < 2 ^ 20)
    (ret : ∀ D t u ps' qs' more h' tk, Fr h₀ L h' m → News h₀ L h' ((D, tup2 (x.fdiv y) (x.fmod y) t u) :: (30, tabObj ps') :: (37, tabObj qs') :: (more ++ news)) → TabSt 32 4 qualA ps' (more ++ news) → TabSt 47 4 qualB qs' (more ++ news) → (∀ q ∈ more ++ news, q.1 ≠ 30) → (∀ q ∈ more ++ news, q.1 ≠ 37) →
      (∀ q ∈ news, q.1 < D) → Q (.ref D) { s with heap := h', toks := tk }) :
    wpAny (model PySem.Challenge.rw_pe0247_01.row.prog w) (ktrTop dp un gd cn cs L a ccd cl outer) (call (.ref 56) [.int x t1, .int y t2]) Q E s := by
  revert X; k_fill; intro X
  refine wpAny_call ?_
  k_dflt ktr_enter
  refine wpAny_noRaise ?_
  k_steps
  · exfalso; omega
  unfold Stop
  (with_reducible show wpAny _ _ (call (Value.ref _) _) _ _ _)
  refine' idm_pos _ _ _ _ ps qs ?B ?F ?X ?N ?T rfl CA CB hnA hnB hsA hsB ?hdp ?hun ?hx0 ?hx1 hy hy1 ?_
  case B => k_asm
  case F => k_asm
  case X => k_asm
  case N => k_asm
  case T => k_asm
  case hdp => dsimp only [ktrTop, Around.deeper]; omega
  case hun => dsimp only [ktrTop, Around.deeper]; omega
  case hx0 => rw [bitNot_eq]; omega
  case hx1 => rw [bitNot_eq]; omega
  intro D t u ps' qs' more h1 tk1 F1 N1 sA sB nA nB l1
  dsimp only
  k_steps
  rw [(not_divmod hy).1, (not_divmod hy).2] at *
  refine' ret _ tk (tk + 1 + 1) ps' qs' more _ _ (by assumption) (cb_drop ?N ?sub) sA sB nA nB ?lt
  case N => assumption
  case sub =>
    (repeat' (first | exact List.forall_mem_nil _ | refine sub_cons (by k_mem) ?_ | (intro q hq; (repeat (first | exact hq | refine List.mem_cons_of_mem _ ?_)); done)))
  case lt =>
    have hl := (by assumption : D < _ ∧ 30 < _ ∧ _ ∧ AllLt _ (more ++ news))
    exact fun q hq => (TailLt.of hl.2.2.2).lt q (List.mem_append_right _ hq)
theorem idm_back (x y : Int) (t1 t2 : Tok) (ps qs : Array Value)
    (B : Below A₀ base outer h₀) (F : Fr h₀ L s.heap m) (X : (hd.heap_39 w.params).In h₀) (N : News h₀ L s.heap ((30, tabObj ps) :: (37, tabObj qs) :: news)) (T : Top p loose mean mg mb h₀) (hk : cs.kind = .function)
    (CA : CodeHd base 34 30) (CB : CodeHd base 41 37) (hnA : ∀ q ∈ news, q.1 ≠ 30) (hnB : ∀ q ∈ news, q.1 ≠ 37) (hsA : TabSt 32 4 qualA ps news) (hsB : TabSt 47 4 qualB qs news)
    (hdp : dp + 84 < recursionLimit) (hun : un + 840 < cLine) (hx0 : -(2 ^ 30) < x) (hx1 : x < 2 ^ 30) (hy : 0 < y) (hy1 : y < 2 ^ 20)
    (ret : ∀ D t u ps' qs' more h' tk, Fr h₀ L h' m → News h₀ L h' ((D, tup2 (x.fdiv y) (x.fmod y) t u) :: (30, tabObj ps') :: (37, tabObj qs') :: (more ++ news)) → TabSt 32 4 qualA ps' (more ++ news) → TabSt 47 4 qualB qs' (more ++ news) → (∀ q ∈ more ++ news, q.1 ≠ 30) → (∀ q ∈ more ++ news, q.1 ≠ 37) →
      (∀ q ∈ news, q.1 < D) → Q (.ref D) { s with heap := h', toks := tk }) :
    wpAny (model PySem.Challenge.rw_pe0247_01.row.prog w) (ktrTop dp un gd cn cs L a ccd cl outer) (call (.ref 56) [.int x t1, .int y t2]) Q E s := by
  rcases Int.lt_or_le x 0 with h | h
  · exact idm_neg x y t1 t2 ps qs B F X N T hk CA CB hnA hnB hsA hsB hdp hun h hx0 hy hy1 ret
  · exact idm_pos x y t1 t2 ps qs B F X N T hk CA CB hnA hnB hsA hsB (by omega) (by omega) h hx1 hy hy1 ret
end
end

section
open PySem PySem.W PyProof.Rows PySem.Spec PySem.Calls
set_option Elab.async false
set_option maxRecDepth 100000
set_option maxHeartbeats 8000000
structure FlS where
  cnt : Int
  size : Int
  leap : Int
  first : Int
  total : Int
  t1 : Tok
  t2 : Tok
  t3 : Tok
  t4 : Tok
  t5 : Tok
  ps : Array Value
  qs : Array Value
  more : List (Addr × Obj)
structure FlInv (W : Int) (news : List (Addr × Obj)) (c : FlS) : Prop where
  c0 : 0 ≤ c.cnt
  c1 : c.cnt ≤ 16
  s0 : 0 < c.size
  s1 : c.size < 2 ^ 20
  l0 : 0 ≤ c.leap
  l1 : c.leap < 2 ^ 20
  f0 : -(2 ^ 20) < c.first
  f1 : c.first < 2 ^ 20
  eq : c.total + fsum c.size c.leap c.first c.cnt.toNat = W
  sA : TabSt 32 4 qualA c.ps (c.more ++ news)
  sB : TabSt 47 4 qualB c.qs (c.more ++ news)
  nA : ∀ q ∈ c.more ++ news, q.1 ≠ 30
  nB : ∀ q ∈ c.more ++ news, q.1 ≠ 37
local macro_rules | `(tactic| walk_at "call ref") => `(tactic| (refine stop_of ?_))
local macro_rules | `(tactic| walk_at "exec While") => `(tactic| (refine stop_of ?_))
local macro_rules | `(tactic| walk_at "exec While Constant") => `(tactic| (refine stop_of ?_))
local macro_rules | `(tactic| mul_fits) => `(tactic| first | exact PySem.IntMulOk.of_right (PySem.intBits_le_64 (by omega) (by omega)) | exact PySem.IntMulOk.of_left (PySem.intBits_le_64 (by omega) (by omega)))
theorem fsum_red {size cnt : Int} (hs : 0 < size) (leap first : Int) (hc : 0 ≤ cnt) : fsum size leap first cnt.toNat = (cnt * (cnt - 1)).fdiv 2 * leap.fdiv size + cnt * first.fdiv size + fsum size (leap.fmod size) (first.fmod size) cnt.toNat := by
  have h := fsum_reduce hs leap first cnt.toNat
  rw [Int.toNat_of_nonneg hc] at h
  rw [Int.fdiv_eq_ediv_of_nonneg _ (Int.le_of_lt hs), Int.fmod_eq_emod_of_nonneg _ (Int.le_of_lt hs), Int.fdiv_eq_ediv_of_nonneg _ (Int.le_of_lt hs), Int.fmod_eq_emod_of_nonneg _ (Int.le_of_lt hs), Int.fdiv_eq_ediv_of_nonneg _ (by decide)]
  exact h
theorem swap_facts {m a b n : Int} (hm : 0 < m) (hn0 : 0 ≤ n) (hn1 : n ≤ 16) (ha0 : 0 ≤ a) (ha1 : a < m) (hb0 : 0 ≤ b) (hb1 : b < m) (h : ¬ a * n + b < m) :
    0 ≤ (a * n + b).fdiv m ∧ (a * n + b).fdiv m ≤ n ∧ 0 < a ∧ 0 ≤ (a * n + b).fmod m ∧ (a * n + b).fmod m < m ∧ fsum m a b n.toNat = fsum a m ((a * n + b).fmod m) ((a * n + b).fdiv m).toNat := by
  have ha : 0 < a := by
    rcases Int.lt_or_le 0 a with h1 | h1
    · exact h1
    · have : a = 0 := by omega
      rw [this, Int.zero_mul] at h
      omega
  have hN := Int.mul_nonneg ha0 hn0
  rw [Int.fdiv_eq_ediv_of_nonneg _ (Int.le_of_lt hm), Int.fmod_eq_emod_of_nonneg _ (Int.le_of_lt hm)]
  refine ⟨Int.ediv_nonneg (by omega) (Int.le_of_lt hm), ?_, ha, Int.emod_nonneg _ (Int.ne_of_gt hm), Int.emod_lt_of_pos _ hm, ?_⟩
  · have h1 : a * n ≤ (m - 1) * n := Int.mul_le_mul_of_nonneg_right (by omega) hn0
    have h2 : (m - 1) * n = n * m - n := by rw [Int.sub_mul, Int.one_mul, Int.mul_comm]
    have h3 : (n + 1) * m = n * m + m := by rw [Int.add_mul, Int.one_mul]
    have := Int.ediv_lt_of_lt_mul (a := a * n + b) (b := n + 1) hm (by omega)
    omega
  · have := fsum_swap (n := n.toNat) ha hm hb0 hb1
    rw [Int.toNat_of_nonneg hn0] at this
    exact this
theorem divmod_any {x y : Int} (hy : 0 < y) (h0 : -(2 ^ 20) < x) (h1 : x < 2 ^ 20) : -(2 ^ 20) ≤ x.fdiv y ∧ x.fdiv y < 2 ^ 20 ∧ 0 ≤ x.fmod y ∧ x.fmod y < y := by
  rw [Int.fdiv_eq_ediv_of_nonneg _ (Int.le_of_lt hy), Int.fmod_eq_emod_of_nonneg _ (Int.le_of_lt hy)]
  refine ⟨?_, ?_, Int.emod_nonneg _ (Int.ne_of_gt hy), Int.emod_lt_of_pos _ hy⟩
  · refine Int.le_ediv_of_mul_le hy ?_
    omega
  · refine Int.ediv_lt_of_lt_mul hy ?_
    omega
theorem divmod_small {x y : Int} (hy : 0 < y) (h0 : 0 ≤ x) (h1 : x < 2 ^ 20) : 0 ≤ x.fdiv y ∧ x.fdiv y < 2 ^ 20 ∧ 0 ≤ x.fmod y ∧ x.fmod y < y := by
  rw [Int.fdiv_eq_ediv_of_nonneg _ (Int.le_of_lt hy), Int.fmod_eq_emod_of_nonneg _ (Int.le_of_lt hy)]
  exact ⟨Int.ediv_nonneg h0 (Int.le_of_lt hy), Int.lt_of_le_of_lt (Int.ediv_le_self y h0) h1, Int.emod_nonneg _ (Int.ne_of_gt hy), Int.emod_lt_of_pos _ hy⟩
section
variable {w : World} {p : Program} {loose : List Str} {mean : ExcName → Option Value} {mg mb : Str → Option Value} {dp un : Nat} {gd : Option (List Code)} {cn : Str} {cs : Scope} {a : Addr} {ccd : Value} {cl : List (Str × Addr)} {outer : List Env} {A₀ : Around} {base h₀ : Heap} {L : Addr} {m : Str → Option Value} {news : List (Addr × Obj)} {s : Shared}
    {Q E : Value → Shared → Prop}
theorem floors_back (cnt size leap first : Int) (t1 t2 t3 t4 : Tok) (ps qs : Array Value)
    (B : Below A₀ base outer h₀) (F : Fr h₀ L s.heap m) (X : (hd.heap_39 w.params).In h₀) (N : News h₀ L s.heap ((30, tabObj ps) :: (37, tabObj qs) :: news)) (T : Top p loose mean mg mb h₀) (hk : cs.kind = .function)
    (CA : CodeHd base 34 30) (CB : CodeHd base 41 37) (hnA : ∀ q ∈ news, q.1 ≠ 30) (hnB : ∀ q ∈ news, q.1 ≠ 37) (hsA : TabSt 32 4 qualA ps news) (hsB : TabSt 47 4 qualB qs news)
    (hdp : dp + 90 < recursionLimit) (hun : un + 900 < cLine) (hc0 : 0 ≤ cnt) (hc1 : cnt ≤ 16) (hs0 : 0 < size) (hs1 : size < 2 ^ 20) (hl0 : 0 ≤ leap) (hl1 : leap < 2 ^ 20) (hf0 : -(2 ^ 20) < first) (hf1 : first < 2 ^ 20)
    (ret : ∀ t ps' qs' more h' tk, Fr h₀ L h' m → News h₀ L h' ((30, tabObj ps') :: (37, tabObj qs') :: (more ++ news)) → TabSt 32 4 qualA ps' (more ++ news) → TabSt 47 4 qualB qs' (more ++ news) → (∀ q ∈ more ++ news, q.1 ≠ 30) → (∀ q ∈ more ++ news, q.1 ≠ 37) →
      Q (.int (fsum size leap first cnt.toNat) t) { s with heap := h', toks := tk }) :
    wpAny (model PySem.Challenge.rw_pe0247_01.row.prog w) (ktrTop dp un gd cn cs L a ccd cl outer) (call (.ref 120) [.int cnt t1, .int size t2, .int leap t3, .int first t4]) Q E s := by
  revert X; k_fill; intro X
  refine wpAny_call ?_
  k_dflt ktr_enter
  refine wpAny_noRaise ?_
  k_steps
  unfold Stop
  (with_reducible show wpAny _ _ (exec _ _) _ _ _)
  refine' ksw_while (σ := FlS) (fun c => (30, tabObj c.ps) :: (37, tabObj c.qs) :: (c.more ++ news)) (fun c => [("count", .int c.cnt c.t1), ("size", .int c.size c.t2), ("leap", .int c.leap c.t3), ("first", .int c.first c.t4), ("total", .int c.total c.t5)]) (fun _ => True) ["turns"] (FlInv (fsum size leap first cnt.toNat) news) (fun c => c.size.toNat) ⟨cnt, size, leap, first, 0, t1, t2, t3, t4, tk, ps, qs, []⟩ ?F ?N trivial ?hk ?hp ?turn ?hE
  case F => k_asm
  case N => assumption
  case hk => (repeat' (first | exact List.forall_mem_nil _ | refine all_cons (by rfl) ?_))
  case hp => exact ⟨hc0, hc1, hs0, hs1, hl0, hl1, hf0, hf1, by simp, by simpa using hsA, by simpa using hsB, by simpa using hnA, by simpa using hnB⟩
  case hE => passes_own
  intro c u h2 tk2 _ hI F2 N2
  have q1 := divmod_small hI.s0 hI.l0 hI.l1
  have b1 := hI.c0
  have b2 := hI.c1
  have b3 := hI.s0
  have b4 := hI.s1
  have b5 := hI.l0
  have b6 := hI.l1
  have b7 := hI.f0
  have b8 := hI.f1
  have q2 := divmod_any hI.s0 hI.f0 hI.f1
  k_steps
  unfold Stop
  (with_reducible show wpAny _ _ (call (Value.ref _) _) _ _ _)
  refine' idm_back (news := c.more ++ news) _ _ _ _ c.ps c.qs ?B ?F ?X (cb_drop ?N ?sub) ?T rfl CA CB hI.nA hI.nB hI.sA hI.sB ?hdp ?hun ?hx0 ?hx1 ?hy ?hy1 ?_
  case B => k_asm
  case F => k_asm
  case X => k_asm
  case N => k_asm
  case T => k_asm
  case sub =>
    (repeat' (first | exact List.forall_mem_nil _ | refine sub_cons (by k_mem) ?_ | (intro q hq; (repeat (first | exact hq | refine List.mem_cons_of_mem _ ?_)); done)))
  case hdp => dsimp only [ktrTop, Around.deeper]; omega
  case hun => dsimp only [ktrTop, Around.deeper]; omega
  case hx0 => omega
  case hx1 => omega
  case hy => omega
  case hy1 => omega
  intro D1 u1 v1 ps1 qs1 more1 h11 tk1 F1 N1 sA1 sB1 nA1 nB1 l1
  dsimp only
  k_steps
  unfold Stop
  (with_reducible show wpAny _ _ (call (Value.ref _) _) _ _ _)
  refine' idm_back (news := more1 ++ (c.more ++ news)) _ _ _ _ ps1 qs1 ?B ?F ?X (cb_drop ?N ?sub) ?T rfl CA CB nA1 nB1 sA1 sB1 ?hdp ?hun ?hx0 ?hx1 ?hy ?hy1 ?_
  case B => k_asm
  case F => k_asm
  case X => k_asm
  case N => k_asm
  case T => k_asm
  case sub =>
    (repeat' (first | exact List.forall_mem_nil _ | refine sub_cons (by k_mem) ?_ | (intro q hq; (repeat (first | exact hq | refine List.mem_cons_of_mem _ ?_)); done)))
  case hdp => dsimp only [ktrTop, Around.deeper]; omega
  case hun => dsimp only [ktrTop, Around.deeper]; omega
  case hx0 => omega
  case hx1 => omega
  case hy => omega
  case hy1 => omega
  intro D2 u2 v2 ps2 qs2 more2 h12 tk2 F1 N1 sA2 sB2 nA2 nB2 l2
  dsimp only
  have hp0 : 0 ≤ c.leap.fmod c.size * c.cnt := Int.mul_nonneg q1.2.2.1 hI.c0
  have hp1 : c.leap.fmod c.size * c.cnt ≤ 2 ^ 20 * 16 := Int.mul_le_mul (by omega) hI.c1 hI.c0 (by decide)
  have hred := fsum_red b3 c.leap c.first b1
  have ass2 : more2 ++ (more1 ++ (c.more ++ news)) = (more2 ++ (more1 ++ c.more)) ++ news := by simp [List.append_assoc]
  k_steps
  · have hz := fsum_small q1.2.2.1 q2.2.2.1 (n := c.cnt.toNat) (size := c.size) (by rw [Int.toNat_of_nonneg b1]; assumption)
    have hW : c.total + (c.cnt * (c.cnt - 1)).fdiv 2 * c.leap.fdiv c.size + c.cnt * c.first.fdiv c.size = fsum size leap first cnt.toNat := by
      have := hI.eq
      rw [hred, hz] at this
      omega
    rw [hW]
    rw [ass2] at sA2 sB2 nA2 nB2
    refine' ret _ ps2 qs2 (more2 ++ (more1 ++ c.more)) _ _ (by assumption) (cb_drop ?N ?sub2) sA2 sB2 nA2 nB2
    case N => assumption
    case sub2 =>
      intro p hp
      rw [← ass2] at hp
      exact List.mem_cons_of_mem _ hp
  unfold Stop
  (with_reducible show wpAny _ _ (call (Value.ref _) _) _ _ _)
  refine' idm_back (news := more2 ++ (more1 ++ (c.more ++ news))) _ _ _ _ ps2 qs2 ?B ?F ?X (cb_drop ?N ?sub) ?T rfl CA CB nA2 nB2 sA2 sB2 ?hdp ?hun ?hx0 ?hx1 ?hy ?hy1 ?_
  case B => k_asm
  case F => k_asm
  case X => k_asm
  case N => k_asm
  case T => k_asm
  case sub =>
    (repeat' (first | exact List.forall_mem_nil _ | refine sub_cons (by k_mem) ?_ | (intro q hq; (repeat (first | exact hq | refine List.mem_cons_of_mem _ ?_)); done)))
  case hdp => dsimp only [ktrTop, Around.deeper]; omega
  case hun => dsimp only [ktrTop, Around.deeper]; omega
  case hx0 => omega
  case hx1 => omega
  case hy => omega
  case hy1 => omega
  intro D3 u3 v3 ps3 qs3 more3 h13 tk3 F1 N1 sA3 sB3 nA3 nB3 l3
  dsimp only
  have ass3 : more3 ++ (more2 ++ (more1 ++ (c.more ++ news))) = (more3 ++ (more2 ++ (more1 ++ c.more))) ++ news := by simp [List.append_assoc]
  have hnot : ¬ c.leap.fmod c.size * c.cnt + c.first.fmod c.size < c.size := by first | assumption | omega
  obtain ⟨z1, z2, z3, z4, z5, z6⟩ := swap_facts b3 b1 hI.c1 q1.2.2.1 q1.2.2.2 q2.2.2.1 q2.2.2.2 hnot
  k_steps
  refine' ksw_end ⟨(c.leap.fmod c.size * c.cnt + c.first.fmod c.size).fdiv c.size, c.leap.fmod c.size, c.size, (c.leap.fmod c.size * c.cnt + c.first.fmod c.size).fmod c.size, c.total + (c.cnt * (c.cnt - 1)).fdiv 2 * c.leap.fdiv c.size + c.cnt * c.first.fdiv c.size, _, _, _, _, _, ps3, qs3, more3 ++ (more2 ++ (more1 ++ c.more))⟩ ?F ?N ?hn trivial ?hk ?hr ?hp ?hm
  case F => assumption
  case N => assumption
  case hk => (repeat' (first | exact List.forall_mem_nil _ | refine all_cons (by rfl) ?_))
  case hn =>
    intro p hp
    rw [ass3]
    exact List.mem_cons_of_mem _ (List.mem_cons_of_mem _ hp)
  case hr =>
    intro z h2 h3
    simp only [List.forall_mem_cons, List.not_mem_nil, false_implies, implies_true, and_true, ne_eq] at h2
    simp only [List.contains_cons, List.contains_nil, Bool.or_false, beq_eq_false_iff_ne, ne_eq] at h3
    simp [kstB, h2, h3]
  case hp =>
    rw [ass3] at sA3 sB3 nA3 nB3
    refine ⟨z1, by have := hI.c1; dsimp only; omega, z3, by dsimp only; omega, by dsimp only; omega, by dsimp only; omega, by dsimp only; omega, by dsimp only; omega, ?_, sA3, sB3, nA3, nB3⟩
    have := hI.eq
    rw [hred] at this
    dsimp only
    rw [← z6]
    omega
  case hm => dsimp only; omega
end
end

section
local macro_rules | `(tactic| walk_at "idle") => `(tactic| skip)
open PySem PySem.W PyProof.Rows PySem.Spec PySem.Calls
set_option Elab.async false
set_option maxRecDepth 100000
set_option maxHeartbeats 8000000
def lawDef : Stmt := topDef 20
def lawAt (k : Nat) : Stmt := nth (defBody lawDef) k
def assignVal : Stmt → Expr | .Assign _ v _ => v | _ => .Constant .none 0 ⟨0, 0, 0, 0⟩
def lamParams : Expr → Arguments | .Lambda p _ _ _ => p | _ => ⟨[], [], none, [], [], none, []⟩
def lamBody : Expr → Expr | .Lambda _ b _ _ => b | e => e
def lamScope : Expr → Scope | .Lambda _ _ s _ => s | _ => { kind := .function, names := [], isGenerator := false, isCoroutine := false, more := [] }
structure HueIs (r g b : UInt64) (k : Int) : Prop where
  e : hueOf r g b = fx k
structure Spot (led : List (Addr × Obj)) (v : Value) (k : Int) : Prop where
  ex : ∃ (D : Addr) (r g b : UInt64) (t1 t2 t3 : Tok) (hue : UInt64) (sat val : Int), v = .ref D ∧ 0 < t1 ∧ 0 < t2 ∧ 0 < t3 ∧ (D, ({ cls := .type "tuple", data := .seq #[.float r t1, .float g t2, .float b t3] } : Obj)) ∈ led ∧ ToldFacts r g b hue sat val ∧ HueIs r g b k
def KeyOK (w : World) (p : Program) (loose : List Str) (mean : ExcName → Option Value) (mg mb : Str → Option Value) (led : List (Addr × Obj)) (kf : Addr) (n : Int) (hue : Int → Int) : Prop :=
  ∀ (dp un : Nat) (gd : Option (List Code)) (cn : Str) (cs : Scope) (a : Addr) (ccd : Value) (cl : List (Str × Addr)) (outer : List Env) (A₀ : Around) (base h₀ : Heap) (L : Addr) (m : Str → Option Value) (s : Shared) (Q E : Value → Shared → Prop) (news : List (Addr × Obj)) (i : Int) (t : Tok),
    Below A₀ base outer h₀ → Fr h₀ L s.heap m → (hd.heap_39 w.params).In h₀ → News h₀ L s.heap news → Top p loose mean mg mb h₀ → cs.kind = .function → (∀ q ∈ led, q ∈ news) → dp + 8 < recursionLimit → un + 60 < cLine → 0 ≤ i → i < n →
    (∀ t' h' tk, Fr h₀ L h' m → News h₀ L h' news → Q (.float (fx (hue i)) t') { s with heap := h', toks := tk }) →
    wpAny (model PySem.Challenge.rw_pe0247_01.row.prog w) (ktrTop dp un gd cn cs L a ccd cl outer) (call (.ref kf) [.int i t]) Q E s
local macro_rules | `(tactic| walk_at "subscriptTail Name Name ref int") => `(tactic| (k_here; (with_reducible show wpAny _ _ (subscriptTail _ _ (Value.ref _) (Value.int _ _)) _ _ _); (with_unfolding_all refine' item_litK ?k1 ?k2 ?k3 ?k4 ?_ ?k6; (case k1 => exact News.isList (by k_asm) (by k_mem)); (case k2 => with_reducible assumption); (case k3 => omega); (case k4 => with_reducible assumption); (case k6 => with_unfolding_all rfl); k_whole)))
local macro_rules | `(tactic| walk_at "call ref") => `(tactic| (k_here; (with_reducible show wpAny _ _ (call (Value.ref 106) [Value.float _ _, Value.float _ _, Value.float _ _]) _ _ _); k_dflt (refine' hsv_back _ _ _ _ _ _ ?k1 ?k2 ?k3 ?k4 ?k5 ?k6 ?k7 ?k8 ?p0 ?p1 ?p2 ?p3 ?k9 ?k10 ?k11 ?_; (case k1 => k_asm); (case k2 => k_asm); (case k3 => k_asm); (case k4 => k_asm); (case k5 => k_asm); (case k6 => first | exact rfl | assumption); (case k7 => ktr_room); (case k8 => ktr_units); (case p0 => (dsimp only; omega)); (case p1 => assumption); (case p2 => assumption); (case p3 => assumption); (case k9 => exact ToldFacts.hne (by assumption)); (case k10 => exact ToldFacts.hx (by assumption)); (case k11 => exact ToldFacts.hr (by assumption)); k_whole); intro D' o' h' tk' hle' F' N' l1 ht'; (try dsimp only at hle'); (obtain ⟨t1', t2', t3', q1', q2', q3', he'⟩ := ht'); subst he'; (try k_lt l1); (try dsimp only); (try k_fold)))
local macro_rules | `(tactic| walk_at "call ref") => `(tactic| (k_here; (with_reducible show wpAny _ _ (call (Value.ref 99) [Value.float _ _, Value.float _ _, Value.float _ _]) _ _ _); k_dflt (refine' hls_back _ _ _ _ _ _ ?k1 ?k2 ?k3 ?k4 ?k5 ?k6 ?k7 ?k8 ?p0 ?p1 ?p2 ?p3 ?k9 ?k10 ?k11 ?k12 ?_; (case k1 => k_asm); (case k2 => k_asm); (case k3 => k_asm); (case k4 => k_asm); (case k5 => k_asm); (case k6 => first | exact rfl | assumption); (case k7 => ktr_room); (case k8 => ktr_units); (case p0 => (dsimp only; omega)); (case p1 => assumption); (case p2 => assumption); (case p3 => assumption); (case k9 => exact ToldFacts.hne (by assumption)); (case k10 => exact ToldFacts.hx2 (by assumption)); (case k11 => exact ToldFacts.hr (by assumption)); (case k12 => exact ToldFacts.hy (by assumption)); k_whole); intro D' o' h' tk' hle' F' N' l1 ht'; (try dsimp only at hle'); (obtain ⟨t1', t2', t3', q1', q2', q3', he'⟩ := ht'); subst he'; (try k_lt l1); (try dsimp only); (try k_fold)))
theorem byValue_ok {w : World} {p : Program} {loose : List Str} {mean : ExcName → Option Value} {mg mb : Str → Option Value} {led : List (Addr × Obj)} {kf c' cC lc : Addr} {name qual : Str} {pm ctv : Value} {oc oC : Obj} {cvs : Array Value} {tq : Tok} {vs : List Value} {k : Nat} {n : Int} {hue : Int → Int}
    (hkf : (kf, kla_obj name qual (lamParams (assignVal (lawAt 8))) (lamBody (assignVal (lawAt 8))) (lamScope (assignVal (lawAt 8))) [("colours", cC)] pm c' ctv) ∈ led) (hc : (c', oc) ∈ led) (hcd : oc.data = .fields cvs) (hcv : cvs[1]? = some (.str qual tq))
    (hC : (cC, oC) ∈ led) (hCd : oC.data = .cell (some (.ref lc))) (hlc : (lc, listOf vs.toArray k) ∈ led) (hn : n ≤ 64) (hs : ∀ i : Int, 0 ≤ i → i < n → ∃ v, vs[i.toNat]? = some v ∧ Spot led v (hue i)) :
    KeyOK w p loose mean mg mb led kf n hue := by
  intro dp un gd cn cs a ccd cl outer A₀ base h₀ L m s Q E news i t B F X N T hk hsub hdp hun hi0 hi1 ret
  obtain ⟨v0, hv0, hspot⟩ := hs i hi0 hi1
  obtain ⟨D, r, g, b, t1, t2, t3, hue1, sat, val, rfl, ht1, ht2, ht3, hD, htf, hh⟩ := hspot.ex
  have hkf := hsub _ hkf
  have hc := hsub _ hc
  have hC := hsub _ hC
  have hlc := hsub _ hlc
  have hD := hsub _ hD
  clear hs hsub hspot
  revert X; k_fill; intro X
  refine wpAny_call ?_
  k_dflt (refine' kla_code B F X N T rfl rfl hk hkf (codeRec_news N hc hcd hcv) ?k8 ?k9 ?kB ?_ ?c2 ?c3 ?c4 ?c5; (case k8 => (dsimp only [ktrTop]; omega)); (case k9 => exact rfl); (case kB => exact locs rfl); (case c2 => exact rfl); (case c3 => exact rfl); (case c4 => exact rfl); (case c5 => decide +kernel); intro g' L' h' FG' F' N' B' X' T')
  have eb : lamBody (assignVal (lawAt 8)) = lamBody (assignVal (lawAt 8)) := rfl
  conv at eb => rhs; whnf
  have es : lamScope (assignVal (lawAt 8)) = lamScope (assignVal (lawAt 8)) := rfl
  conv at es => rhs; whnf
  rw [eb, es]
  clear eb es
  dsimp only
  (with_reducible show wpAny _ _ (eval _ _) _ _ _)
  k_steps
  rw [hh.e]
  exact ret _ _ _ (by assumption) (cb_drop (news' := _ :: news) (by assumption) fun p hp => List.mem_cons_of_mem _ hp)
theorem byLight_ok {w : World} {p : Program} {loose : List Str} {mean : ExcName → Option Value} {mg mb : Str → Option Value} {led : List (Addr × Obj)} {kf c' cC lc : Addr} {name qual : Str} {pm ctv : Value} {oc oC : Obj} {cvs : Array Value} {tq : Tok} {vs : List Value} {k : Nat} {n : Int} {hue : Int → Int}
    (hkf : (kf, kla_obj name qual (lamParams (assignVal (lawAt 9))) (lamBody (assignVal (lawAt 9))) (lamScope (assignVal (lawAt 9))) [("colours", cC)] pm c' ctv) ∈ led) (hc : (c', oc) ∈ led) (hcd : oc.data = .fields cvs) (hcv : cvs[1]? = some (.str qual tq))
    (hC : (cC, oC) ∈ led) (hCd : oC.data = .cell (some (.ref lc))) (hlc : (lc, listOf vs.toArray k) ∈ led) (hn : n ≤ 64) (hs : ∀ i : Int, 0 ≤ i → i < n → ∃ v, vs[i.toNat]? = some v ∧ Spot led v (hue i)) :
    KeyOK w p loose mean mg mb led kf n hue := by
  intro dp un gd cn cs a ccd cl outer A₀ base h₀ L m s Q E news i t B F X N T hk hsub hdp hun hi0 hi1 ret
  obtain ⟨v0, hv0, hspot⟩ := hs i hi0 hi1
  obtain ⟨D, r, g, b, t1, t2, t3, hue1, sat, val, rfl, ht1, ht2, ht3, hD, htf, hh⟩ := hspot.ex
  have hkf := hsub _ hkf
  have hc := hsub _ hc
  have hC := hsub _ hC
  have hlc := hsub _ hlc
  have hD := hsub _ hD
  clear hs hsub hspot
  revert X; k_fill; intro X
  refine wpAny_call ?_
  k_dflt (refine' kla_code B F X N T rfl rfl hk hkf (codeRec_news N hc hcd hcv) ?k8 ?k9 ?kB ?_ ?c2 ?c3 ?c4 ?c5; (case k8 => (dsimp only [ktrTop]; omega)); (case k9 => exact rfl); (case kB => exact locs rfl); (case c2 => exact rfl); (case c3 => exact rfl); (case c4 => exact rfl); (case c5 => decide +kernel); intro g' L' h' FG' F' N' B' X' T')
  have eb : lamBody (assignVal (lawAt 9)) = lamBody (assignVal (lawAt 9)) := rfl
  conv at eb => rhs; whnf
  have es : lamScope (assignVal (lawAt 9)) = lamScope (assignVal (lawAt 9)) := rfl
  conv at es => rhs; whnf
  rw [eb, es]
  clear eb es
  dsimp only
  (with_reducible show wpAny _ _ (eval _ _) _ _ _)
  k_steps
  rw [hh.e]
  exact ret _ _ _ (by assumption) (cb_drop (news' := _ :: news) (by assumption) fun p hp => List.mem_cons_of_mem _ hp)
end

section
open PySem PySem.W PyProof.Rows PySem.Spec PySem.Calls
set_option Elab.async false
set_option maxRecDepth 100000
set_option maxHeartbeats 8000000
theorem KeyOK.use {w : World} {p : Program} {loose : List Str} {mean : ExcName → Option Value} {mg mb : Str → Option Value} {led : List (Addr × Obj)} {kf : Addr} {n : Int} {hue : Int → Int} (hkey : KeyOK w p loose mean mg mb led kf n hue)
    {dp un : Nat} {gd : Option (List Code)} {cn : Str} {cs : Scope} {a : Addr} {ccd : Value} {cl : List (Str × Addr)} {outer : List Env} {A₀ : Around} {base h₀ : Heap} {L : Addr} {m : Str → Option Value} {s : Shared} {Q E : Value → Shared → Prop} {news : List (Addr × Obj)} {i : Int} {t : Tok}
    (B : Below A₀ base outer h₀) (F : Fr h₀ L s.heap m) (X : (hd.heap_39 w.params).In h₀) (N : News h₀ L s.heap news) (T : Top p loose mean mg mb h₀) (hk : cs.kind = .function) (hsub : ∀ q ∈ led, q ∈ news) (hdp : dp + 8 < recursionLimit) (hun : un + 60 < cLine) (h0 : 0 ≤ i) (h1 : i < n)
    (ret : ∀ t' h' tk, Fr h₀ L h' m → News h₀ L h' news → Q (.float (fx (hue i)) t') { s with heap := h', toks := tk }) :
    wpAny (model PySem.Challenge.rw_pe0247_01.row.prog w) (ktrTop dp un gd cn cs L a ccd cl outer) (call (.ref kf) [.int i t]) Q E s := hkey _ _ _ _ _ _ _ _ _ _ _ _ _ _ _ _ _ _ _ _ B F X N T hk hsub hdp hun h0 h1 ret
structure BS where
  lo : Int
  hi : Int
  t1 : Tok
  t2 : Tok
structure BInv (Lf : Nat → Prop) (lo₀ hi₀ : Int) (c : BS) : Prop where
  l0 : lo₀ ≤ c.lo
  lh : c.lo ≤ c.hi
  h0 : c.hi ≤ hi₀
  lt : ∀ j : Nat, lo₀ ≤ j → (j : Int) < c.lo → Lf j
  ge : ∀ j : Nat, c.hi ≤ j → (j : Int) < hi₀ → ¬ Lf j
theorem BInv.left {Lf : Nat → Prop} {lo₀ hi₀ : Int} {c : BS} {t : Tok} (h : BInv Lf lo₀ hi₀ c) (hl : c.lo < c.hi) (hl0 : 0 ≤ lo₀) (hmono : ∀ i j : Nat, i ≤ j → (j : Int) < hi₀ → Lf j → Lf i) (hm : Lf ((c.lo + c.hi).fdiv 2).toNat) : BInv Lf lo₀ hi₀ { c with lo := (c.lo + c.hi).fdiv 2 + 1, t1 := t } := by
  have a1 := h.l0
  have a2 := h.h0
  rw [Int.fdiv_eq_ediv_of_nonneg _ (by decide)] at hm ⊢
  exact ⟨by dsimp only; omega, by dsimp only; omega, h.h0, fun j h1 h2 => hmono j _ (by dsimp only at h2; omega) (by omega) hm, h.ge⟩
theorem BInv.right {Lf : Nat → Prop} {lo₀ hi₀ : Int} {c : BS} {t : Tok} (h : BInv Lf lo₀ hi₀ c) (hl : c.lo < c.hi) (hl0 : 0 ≤ lo₀) (hmono : ∀ i j : Nat, i ≤ j → (j : Int) < hi₀ → Lf j → Lf i) (hm : ¬ Lf ((c.lo + c.hi).fdiv 2).toNat) : BInv Lf lo₀ hi₀ { c with hi := (c.lo + c.hi).fdiv 2, t2 := t } := by
  have a1 := h.l0
  have a2 := h.h0
  rw [Int.fdiv_eq_ediv_of_nonneg _ (by decide)] at hm ⊢
  exact ⟨h.l0, by dsimp only; omega, by dsimp only; omega, h.lt, fun j h1 h2 h3 => hm (hmono _ j (by dsimp only at h1; omega) h2 h3)⟩
theorem fx_lt {a b : Int} (ha : a.natAbs < 2 ^ 53) (hb : b.natAbs < 2 ^ 53) : (Float64.cmp (fx a) (fx b) == some .lt) = decide (a < b) := lt_fx ha hb
local macro_rules | `(tactic| walk_at "call ref") => `(tactic| (refine stop_of ?_))
local macro_rules | `(tactic| walk_at "exec While") => `(tactic| (refine stop_of ?_))
local macro_rules | `(tactic| walk_at "exec While Compare") => `(tactic| (refine stop_of ?_))
local macro_rules | `(tactic| walk_at "exec While Compare cons nil") => `(tactic| (refine stop_of ?_))
local macro_rules | `(tactic| walk_at "call builtin:len") => `(tactic| (k_here; (with_reducible show wpAny _ _ (call (Value.builtin "len") [Value.ref _]) _ _ _); k_dflt (refine' PySem.W.KM.len_K ?N ?m ?s ?f ?_; (case N => k_asm); (case m => k_mem); (case s => assumption); (case f => omega); k_whole)))
local macro_rules | `(tactic| walk_at "subscriptTail Name Name ref int") => `(tactic| (k_here; (with_reducible show wpAny _ _ (subscriptTail _ _ (Value.ref _) (Value.int _ _)) _ _ _); (with_unfolding_all refine' item_litK ?k1 ?k2 ?k3 ?k4 ?_ ?k6; (case k1 => exact News.isList (by k_asm) (by k_mem)); (case k2 => with_reducible assumption); (case k3 => omega); (case k4 => with_reducible assumption); (case k6 => with_unfolding_all rfl); k_whole)))
local macro_rules | `(tactic| walk_at "callWith ref") => `(tactic| (k_here; k_dflt (refine' callWith_F ?k1 ?_; (case k1 => exact FnAt.of (by k_asm) (by k_mem)); k_whole)))
local macro_rules | `(tactic| walk_at "FnAt") => `(tactic| (k_dflt (exact FnAt.of (by k_asm) (by k_mem))))
section
variable {w : World} {p : Program} {loose : List Str} {mean : ExcName → Option Value} {mg mb : Str → Option Value} {dp un : Nat} {gd : Option (List Code)} {cn : Str} {cs : Scope} {a : Addr} {ccd : Value} {cl : List (Str × Addr)} {outer : List Env} {A₀ : Around} {base h₀ : Heap} {L : Addr} {m : Str → Option Value} {news led : List (Addr × Obj)} {s : Shared}
    {E : Value → Shared → Prop}
theorem bisR_tail (al kf : Addr) (X0 n lo hi : Int) (hue : Int → Int) (vs : List Value) (is : List Int) (k : Nat) (t1 t2 t3 : Tok) (u : Str → Option Value) {Q : Flow → Shared → Prop}
    (B : Below A₀ base outer h₀) (F : Fr h₀ L s.heap (kstB u [("a", .ref al), ("x", .float (fx X0) t1), ("lo", .int lo t2), ("hi", .int hi t3), ("key", .ref kf)])) (X : (hd.heap_39 w.params).In h₀) (N : News h₀ L s.heap news) (T : Top p loose mean mg mb h₀)
    {koc : Value} {kod : Option Addr} {kfd : FuncData} {ksl : Array (Option Value)} (hkf : (kf, (⟨koc, kod, .func kfd, ksl⟩ : Obj)) ∈ news) (hsub : ∀ q ∈ led, q ∈ news) (hkey : KeyOK w p loose mean mg mb led kf n hue) (hal : (al, listOf vs.toArray k) ∈ news) (hiv : IntsAre vs is) (hlen : is.length ≤ 64) (his : ∀ i ∈ is, 0 ≤ i ∧ i < n)
    (hX : X0.natAbs < 2 ^ 53) (hhue : ∀ i, 0 ≤ i → i < n → (hue i).natAbs < 2 ^ 53) (hlo : 0 ≤ lo) (hlh : lo ≤ hi) (hhi : hi ≤ is.length) (hsort : ∀ i j : Nat, i ≤ j → (j : Int) < hi → hue (is.getD i 0) ≤ hue (is.getD j 0))
    (hdp : dp + 20 < recursionLimit) (hun : un + 200 < cLine) (hE : PassesOwn (model PySem.Challenge.rw_pe0247_01.row.prog w) (ktrTop dp un gd "bisect_right" (defScope (topDef 10)) L 74 (.ref 73) [] outer) (envX "bisect_right" (defScope (topDef 10)) L 74 (.ref 73) []) E)
    (ret : ∀ r t m' h' tk, lo ≤ r → r ≤ hi → (∀ j : Nat, lo ≤ j → (j : Int) < r → hue (is.getD j 0) ≤ X0) → (∀ j : Nat, r ≤ j → (j : Int) < hi → ¬ hue (is.getD j 0) ≤ X0) → Fr h₀ L h' m' → News h₀ L h' news → Q (.ret (.int r t)) { s with heap := h', toks := tk }) :
    wpAny (model PySem.Challenge.rw_pe0247_01.row.prog w) (ktrTop dp un gd "bisect_right" (defScope (topDef 10)) L 74 (.ref 73) [] outer) (execs ((defBody (topDef 10)).drop 2) (envX "bisect_right" (defScope (topDef 10)) L 74 (.ref 73) [])) Q E s := by
  have eb : (defBody (topDef 10)).drop 2 = (defBody (topDef 10)).drop 2 := rfl
  conv at eb => rhs; whnf
  have es : defScope (topDef 10) = defScope (topDef 10) := rfl
  conv at es => rhs; whnf
  rw [es] at hE
  rw [eb, es]
  clear eb es
  revert X; k_fill; intro X
  (with_reducible show wpAny _ _ (execs _ _) _ _ _)
  (try k_fold)
  k_steps
  unfold Stop
  (with_reducible show wpAny _ _ (exec _ _) _ _ _)
  refine' ksw_while (σ := BS) (fun _ => news) (fun c => [("lo", .int c.lo c.t1), ("hi", .int c.hi c.t2), ("a", .ref al), ("x", .float (fx X0) t1), ("key", .ref kf)]) (fun _ => True) ["mid"] (BInv (fun j => hue (is.getD j 0) ≤ X0) lo hi) (fun c => (c.hi - c.lo).toNat) ⟨lo, hi, t2, t3⟩ ?F ?N trivial ?hk ?hp ?turn hE
  case F => exact F
  case N => exact N
  case hk => (repeat' (first | exact List.forall_mem_nil _ | refine all_cons (by rfl) ?_))
  case hp => exact ⟨Int.le_refl _, hlh, Int.le_refl _, fun j h1 h2 => absurd h2 (Int.not_lt.mpr h1), fun j h1 h2 => absurd h2 (Int.not_lt.mpr h1)⟩
  intro c u2 h2 tk2 _ hI F2 N2
  have i1 := hI.l0
  have i2 := hI.lh
  have i3 := hI.h0
  have hvl := hiv.length
  dsimp only [kstB] at F2
  k_steps
  · have hlt : c.lo < c.hi := by first | assumption | omega
    have hmid : ((c.lo + c.hi).fdiv 2).toNat < is.length := by rw [Int.fdiv_eq_ediv_of_nonneg _ (by decide)]; omega
    have hin := his (is.getD ((c.lo + c.hi).fdiv 2).toNat 0) (by rw [List.getD_eq_getElem?_getD, List.getElem?_eq_getElem hmid]; exact List.getElem_mem hmid)
    have hnb := hhue _ hin.1 hin.2
    unfold Stop
    (with_reducible show wpAny _ _ (call (Value.ref _) _) _ _ _)
    refine' hkey.use ?B ?F ?X ?N ?T rfl ?hsub ?hdp ?hun hin.1 hin.2 ?_
    case B => k_asm
    case F => k_asm
    case X => k_asm
    case N => k_asm
    case T => k_asm
    case hsub => exact hsub
    case hdp => omega
    case hun => omega
    intro t4 h4 tk4 F4 N4
    dsimp only
    have hmono : ∀ i j : Nat, i ≤ j → (j : Int) < hi → hue (is.getD j 0) ≤ X0 → hue (is.getD i 0) ≤ X0 := fun i j h1 h2 h3 => by have := hsort i j h1 h2; omega
    k_steps
    · have hc := (by assumption : (Float64.cmp (fx X0) (fx (hue (is.getD ((c.lo + c.hi).fdiv 2).toNat 0))) == some Ordering.lt) = true)
      rw [fx_lt hX hnb] at hc
      have hc := of_decide_eq_true hc
      refine' ksw_end { c with hi := (c.lo + c.hi).fdiv 2, t2 := _ } ?F ?N ?hn trivial ?hk ?hr (hI.right hlt hlo hmono (by omega)) ?hm
      case F => assumption
      case N => assumption
      case hn => exact fun q hq => hq
      case hk => (repeat' (first | exact List.forall_mem_nil _ | refine all_cons (by rfl) ?_))
      case hr =>
        intro z h2 h3
        simp only [List.forall_mem_cons, List.not_mem_nil, false_implies, implies_true, and_true, ne_eq] at h2
        simp only [List.contains_cons, List.contains_nil, Bool.or_false, beq_eq_false_iff_ne, ne_eq] at h3
        simp [kstB, h2, h3]
      case hm => dsimp only; rw [Int.fdiv_eq_ediv_of_nonneg _ (by decide)]; omega
    · have hc := (by assumption : (Float64.cmp (fx X0) (fx (hue (is.getD ((c.lo + c.hi).fdiv 2).toNat 0))) == some Ordering.lt) = false)
      rw [fx_lt hX hnb] at hc
      have hc := of_decide_eq_false hc
      refine' ksw_end { c with lo := (c.lo + c.hi).fdiv 2 + 1, t1 := _ } ?F ?N ?hn trivial ?hk ?hr (hI.left hlt hlo hmono (by omega)) ?hm
      case F => assumption
      case N => assumption
      case hn => exact fun q hq => hq
      case hk => (repeat' (first | exact List.forall_mem_nil _ | refine all_cons (by rfl) ?_))
      case hr =>
        intro z h2 h3
        simp only [List.forall_mem_cons, List.not_mem_nil, false_implies, implies_true, and_true, ne_eq] at h2
        simp only [List.contains_cons, List.contains_nil, Bool.or_false, beq_eq_false_iff_ne, ne_eq] at h3
        simp [kstB, h2, h3]
      case hm => dsimp only; rw [Int.fdiv_eq_ediv_of_nonneg _ (by decide)]; omega
  · have hge : ¬ c.lo < c.hi := by first | assumption | omega
    exact ret c.lo c.t1 _ _ _ i1 (by omega) hI.lt (fun j h1 h2 => hI.ge j (by omega) h2) F2 N2
theorem bisL_tail (al kf : Addr) (X0 n lo hi : Int) (hue : Int → Int) (vs : List Value) (is : List Int) (k : Nat) (t1 t2 t3 : Tok) (u : Str → Option Value) {Q : Flow → Shared → Prop}
    (B : Below A₀ base outer h₀) (F : Fr h₀ L s.heap (kstB u [("a", .ref al), ("x", .float (fx X0) t1), ("lo", .int lo t2), ("hi", .int hi t3), ("key", .ref kf)])) (X : (hd.heap_39 w.params).In h₀) (N : News h₀ L s.heap news) (T : Top p loose mean mg mb h₀)
    {koc : Value} {kod : Option Addr} {kfd : FuncData} {ksl : Array (Option Value)} (hkf : (kf, (⟨koc, kod, .func kfd, ksl⟩ : Obj)) ∈ news) (hsub : ∀ q ∈ led, q ∈ news) (hkey : KeyOK w p loose mean mg mb led kf n hue) (hal : (al, listOf vs.toArray k) ∈ news) (hiv : IntsAre vs is) (hlen : is.length ≤ 64) (his : ∀ i ∈ is, 0 ≤ i ∧ i < n)
    (hX : X0.natAbs < 2 ^ 53) (hhue : ∀ i, 0 ≤ i → i < n → (hue i).natAbs < 2 ^ 53) (hlo : 0 ≤ lo) (hlh : lo ≤ hi) (hhi : hi ≤ is.length) (hsort : ∀ i j : Nat, i ≤ j → (j : Int) < hi → hue (is.getD i 0) ≤ hue (is.getD j 0))
    (hdp : dp + 20 < recursionLimit) (hun : un + 200 < cLine) (hE : PassesOwn (model PySem.Challenge.rw_pe0247_01.row.prog w) (ktrTop dp un gd "bisect_left" (defScope (topDef 12)) L 92 (.ref 91) [] outer) (envX "bisect_left" (defScope (topDef 12)) L 92 (.ref 91) []) E)
    (ret : ∀ r t m' h' tk, lo ≤ r → r ≤ hi → (∀ j : Nat, lo ≤ j → (j : Int) < r → hue (is.getD j 0) < X0) → (∀ j : Nat, r ≤ j → (j : Int) < hi → ¬ hue (is.getD j 0) < X0) → Fr h₀ L h' m' → News h₀ L h' news → Q (.ret (.int r t)) { s with heap := h', toks := tk }) :
    wpAny (model PySem.Challenge.rw_pe0247_01.row.prog w) (ktrTop dp un gd "bisect_left" (defScope (topDef 12)) L 92 (.ref 91) [] outer) (execs ((defBody (topDef 12)).drop 2) (envX "bisect_left" (defScope (topDef 12)) L 92 (.ref 91) [])) Q E s := by
  have eb : (defBody (topDef 12)).drop 2 = (defBody (topDef 12)).drop 2 := rfl
  conv at eb => rhs; whnf
  have es : defScope (topDef 12) = defScope (topDef 12) := rfl
  conv at es => rhs; whnf
  rw [es] at hE
  rw [eb, es]
  clear eb es
  revert X; k_fill; intro X
  (with_reducible show wpAny _ _ (execs _ _) _ _ _)
  (try k_fold)
  k_steps
  unfold Stop
  (with_reducible show wpAny _ _ (exec _ _) _ _ _)
  refine' ksw_while (σ := BS) (fun _ => news) (fun c => [("lo", .int c.lo c.t1), ("hi", .int c.hi c.t2), ("a", .ref al), ("x", .float (fx X0) t1), ("key", .ref kf)]) (fun _ => True) ["mid"] (BInv (fun j => hue (is.getD j 0) < X0) lo hi) (fun c => (c.hi - c.lo).toNat) ⟨lo, hi, t2, t3⟩ ?F ?N trivial ?hk ?hp ?turn hE
  case F => exact F
  case N => exact N
  case hk => (repeat' (first | exact List.forall_mem_nil _ | refine all_cons (by rfl) ?_))
  case hp => exact ⟨Int.le_refl _, hlh, Int.le_refl _, fun j h1 h2 => absurd h2 (Int.not_lt.mpr h1), fun j h1 h2 => absurd h2 (Int.not_lt.mpr h1)⟩
  intro c u2 h2 tk2 _ hI F2 N2
  have i1 := hI.l0
  have i2 := hI.lh
  have i3 := hI.h0
  have hvl := hiv.length
  dsimp only [kstB] at F2
  k_steps
  · have hlt : c.lo < c.hi := by first | assumption | omega
    have hmid : ((c.lo + c.hi).fdiv 2).toNat < is.length := by rw [Int.fdiv_eq_ediv_of_nonneg _ (by decide)]; omega
    have hin := his (is.getD ((c.lo + c.hi).fdiv 2).toNat 0) (by rw [List.getD_eq_getElem?_getD, List.getElem?_eq_getElem hmid]; exact List.getElem_mem hmid)
    have hnb := hhue _ hin.1 hin.2
    unfold Stop
    (with_reducible show wpAny _ _ (call (Value.ref _) _) _ _ _)
    refine' hkey.use ?B ?F ?X ?N ?T rfl ?hsub ?hdp ?hun hin.1 hin.2 ?_
    case B => k_asm
    case F => k_asm
    case X => k_asm
    case N => k_asm
    case T => k_asm
    case hsub => exact hsub
    case hdp => omega
    case hun => omega
    intro t4 h4 tk4 F4 N4
    dsimp only
    have hmono : ∀ i j : Nat, i ≤ j → (j : Int) < hi → hue (is.getD j 0) < X0 → hue (is.getD i 0) < X0 := fun i j h1 h2 h3 => by have := hsort i j h1 h2; omega
    k_steps
    · have hc := (by assumption : (Float64.cmp (fx (hue (is.getD ((c.lo + c.hi).fdiv 2).toNat 0))) (fx X0) == some Ordering.lt) = true)
      rw [fx_lt hnb hX] at hc
      have hc := of_decide_eq_true hc
      refine' ksw_end { c with lo := (c.lo + c.hi).fdiv 2 + 1, t1 := _ } ?F ?N ?hn trivial ?hk ?hr (hI.left hlt hlo hmono (by omega)) ?hm
      case F => assumption
      case N => assumption
      case hn => exact fun q hq => hq
      case hk => (repeat' (first | exact List.forall_mem_nil _ | refine all_cons (by rfl) ?_))
      case hr =>
        intro z h2 h3
        simp only [List.forall_mem_cons, List.not_mem_nil, false_implies, implies_true, and_true, ne_eq] at h2
        simp only [List.contains_cons, List.contains_nil, Bool.or_false, beq_eq_false_iff_ne, ne_eq] at h3
        simp [kstB, h2, h3]
      case hm => dsimp only; rw [Int.fdiv_eq_ediv_of_nonneg _ (by decide)]; omega
    · have hc := (by assumption : (Float64.cmp (fx (hue (is.getD ((c.lo + c.hi).fdiv 2).toNat 0))) (fx X0) == some Ordering.lt) = false)
      rw [fx_lt hnb hX] at hc
      have hc := of_decide_eq_false hc
      refine' ksw_end { c with hi := (c.lo + c.hi).fdiv 2, t2 := _ } ?F ?N ?hn trivial ?hk ?hr (hI.right hlt hlo hmono (by omega)) ?hm
      case F => assumption
      case N => assumption
      case hn => exact fun q hq => hq
      case hk => (repeat' (first | exact List.forall_mem_nil _ | refine all_cons (by rfl) ?_))
      case hr =>
        intro z h2 h3
        simp only [List.forall_mem_cons, List.not_mem_nil, false_implies, implies_true, and_true, ne_eq] at h2
        simp only [List.contains_cons, List.contains_nil, Bool.or_false, beq_eq_false_iff_ne, ne_eq] at h3
        simp [kstB, h2, h3]
      case hm => dsimp only; rw [Int.fdiv_eq_ediv_of_nonneg _ (by decide)]; omega
  · have hge : ¬ c.lo < c.hi := by first | assumption | omega
    exact ret c.lo c.t1 _ _ _ i1 (by omega) hI.lt (fun j h1 h2 => hI.ge j (by omega) h2) F2 N2
end
end

section
open PySem PySem.W PyProof.Rows PySem.Spec PySem.Calls
set_option Elab.async false
set_option maxRecDepth 100000
set_option maxHeartbeats 8000000
theorem execs_append_eq (b : List Stmt) (env : Env) : ∀ a : List Stmt, execs (a ++ b) env = (execs a env >>= fun f => match f with | .next => execs b env | f => pure f)
  | [] => (pure_bind Flow.next (fun f => match f with | .next => execs b env | f => pure f)).symm
  | st :: r => by
    rw [List.cons_append, execs_cons, execs_cons, bind_assoc]
    refine congrArg _ (funext fun f => ?_)
    cases f with
    | next => exact execs_append_eq b env r
    | brk => exact (pure_bind ..).symm
    | cont => exact (pure_bind ..).symm
    | ret v => exact (pure_bind ..).symm
/-- the walk of a body in two parts, the second one behind a stop -/
theorem execs_app {M : Model} {A : Around} {env : Env} {a b : List Stmt} {Q : Flow → Shared → Prop} {E : Value → Shared → Prop} {s : Shared} (h : wpAny M A (execs a env) (fun f s' => match f with | .next => Stop (wpAny M A (execs b env) Q E s') | f => Q f s') E s) :
    wpAny M A (execs (a ++ b) env) Q E s := by
  rw [execs_append_eq]
  refine wpAny_bind (wpAny_mono h (fun f s' h' => ?_) fun _ _ e => e)
  cases f with
  | next => exact h'
  | brk => exact wpAny_pure h'
  | cont => exact wpAny_pure h'
  | ret v => exact wpAny_pure h'
theorem fr_kst {h₀ h : Heap} {L : Addr} {m : Str → Option Value} {ps : List (Str × Value)} (F : Fr h₀ L h m) (hp : ∀ p ∈ ps, m p.1 = some p.2) : Fr h₀ L h (kstB m ps) := by
  have e : kstB m ps = m := funext fun z => kstB_eq hp fun _ => rfl
  rw [e]; exact F
local macro_rules | `(tactic| walk_at "call ref") => `(tactic| (refine stop_of ?_))
local macro_rules | `(tactic| walk_at "call builtin:len") => `(tactic| (k_here; (with_reducible show wpAny _ _ (call (Value.builtin "len") [Value.ref _]) _ _ _); k_dflt (refine' PySem.W.KM.len_K ?N ?m ?s ?f ?_; (case N => k_asm); (case m => k_mem); (case s => assumption); (case f => omega); k_whole)))
section
variable {w : World} {p : Program} {loose : List Str} {mean : ExcName → Option Value} {mg mb : Str → Option Value} {dp un : Nat} {gd : Option (List Code)} {cn : Str} {cs : Scope} {a : Addr} {ccd : Value} {cl : List (Str × Addr)} {outer : List Env} {A₀ : Around} {base h₀ : Heap} {L : Addr} {m : Str → Option Value} {news led : List (Addr × Obj)} {s : Shared}
    {Q E : Value → Shared → Prop}
theorem bisR_a (al kf : Addr) (X0 n : Int) (hue : Int → Int) (vs : List Value) (is : List Int) (k : Nat) (t1 t2 t3 : Tok)
    (B : Below A₀ base outer h₀) (F : Fr h₀ L s.heap m) (X : (hd.heap_39 w.params).In h₀) (N : News h₀ L s.heap news) (T : Top p loose mean mg mb h₀) (hk : cs.kind = .function)
    {koc : Value} {kod : Option Addr} {kfd : FuncData} {ksl : Array (Option Value)} (hkf : (kf, (⟨koc, kod, .func kfd, ksl⟩ : Obj)) ∈ news) (hsub : ∀ q ∈ led, q ∈ news) (hkey : KeyOK w p loose mean mg mb led kf n hue) (hal : (al, listOf vs.toArray k) ∈ news) (hiv : IntsAre vs is) (hlen : is.length ≤ 64) (his : ∀ i ∈ is, 0 ≤ i ∧ i < n)
    (hX : X0.natAbs < 2 ^ 53) (hhue : ∀ i, 0 ≤ i → i < n → (hue i).natAbs < 2 ^ 53) (hsort : ∀ i j : Nat, i ≤ j → (j : Int) < (is.length : Int) → hue (is.getD i 0) ≤ hue (is.getD j 0))
    (hdp : dp + 24 < recursionLimit) (hun : un + 240 < cLine)
    (ret : ∀ r t h' tk, 0 ≤ r → r ≤ (is.length : Int) → (∀ j : Nat, 0 ≤ (j : Int) → (j : Int) < r → hue (is.getD j 0) ≤ X0) → (∀ j : Nat, r ≤ j → (j : Int) < (is.length : Int) → ¬ hue (is.getD j 0) ≤ X0) → Fr h₀ L h' m → News h₀ L h' news → Q (.int r t) { s with heap := h', toks := tk }) :
    wpAny (model PySem.Challenge.rw_pe0247_01.row.prog w) (ktrTop dp un gd cn cs L a ccd cl outer) (call (.ref 74) [.ref al, .float (fx X0) t1, .int 0 t2, .none] [("key", .ref kf)]) Q E s := by
  revert X; k_fill; intro X
  have hsz : vs.toArray.size = is.length := by have := hiv.length; simp [this]
  refine wpAny_call ?_
  k_dflt (refine' code_def ?k1 ?k2 ?k3 ?k4 ?k5 ?kA ?kF ?kK ?k6 ?k7 ?k8 ?k9 ?kB ?_ ?c2 ?c3 ?c4 ?c5; (case kA => exact rfl); (case kF => exact rfl); (case kK => assumption); (case k1 => k_asm); (case k2 => k_asm); (case k3 => k_asm); (case k4 => k_asm); (case k5 => k_asm); (case k6 => k_is); (case k7 => k_is); (case k8 => (dsimp only [ktrTop]; omega)); (case k9 => first | exact BindsTo.of_eq rfl | (refine' kp_binds ?kx ?ke; (case kx => k_in); (case ke => exact fun _ => rfl))); (case c5 => decide); (case kB => exact locs rfl); (case c2 => exact rfl); (case c3 => exact rfl); (case c4 => exact rfl); k_whole; intro g' L' h' FG' F' N' B' X' T'; (try dsimp only); (try k_fold))
  refine wpAny_noRaise ?_
  (with_reducible show wpAny _ _ (execs _ _) _ _ _)
  refine execs_app (a := [_, _]) ?_
  k_steps
  (try dsimp only)
  unfold Stop
  refine' bisR_tail al kf X0 n _ _ hue vs is k _ _ _ _ ?B (fr_kst ?F ?FF) ?X ?N ?T hkf hsub hkey hal hiv hlen his hX hhue ?hlo ?hlh ?hhi hsort ?hdp ?hun ?hE ?_
  case F => k_asm
  case FF => (repeat' (first | exact List.forall_mem_nil _ | refine all_cons (by rfl) ?_))
  case B => k_asm
  case X => k_asm
  case N => k_asm
  case T => k_asm
  case hlo => first | assumption | decide | omega
  case hlh => first | assumption | omega
  case hhi => first | assumption | omega
  case hdp => dsimp only [ktrTop, Around.deeper]; omega
  case hun => dsimp only [ktrTop, Around.deeper]; omega
  case hE => passes_own
  intro r t m2 h2 tk2 r1 r2 r3 r4 F2 N2
  dsimp only
  k_steps
  exact ret r t _ _ r1 r2 r3 r4 (by assumption) (by assumption)
theorem bisR_b (al kf : Addr) (X0 n : Int) (hue : Int → Int) (vs : List Value) (is : List Int) (k : Nat) (t1 t2 t3 : Tok)
    (B : Below A₀ base outer h₀) (F : Fr h₀ L s.heap m) (X : (hd.heap_39 w.params).In h₀) (N : News h₀ L s.heap news) (T : Top p loose mean mg mb h₀) (hk : cs.kind = .function)
    {koc : Value} {kod : Option Addr} {kfd : FuncData} {ksl : Array (Option Value)} (hkf : (kf, (⟨koc, kod, .func kfd, ksl⟩ : Obj)) ∈ news) (hsub : ∀ q ∈ led, q ∈ news) (hkey : KeyOK w p loose mean mg mb led kf n hue) (hal : (al, listOf vs.toArray k) ∈ news) (hiv : IntsAre vs is) (hlen : is.length ≤ 64) (his : ∀ i ∈ is, 0 ≤ i ∧ i < n)
    (hX : X0.natAbs < 2 ^ 53) (hhue : ∀ i, 0 ≤ i → i < n → (hue i).natAbs < 2 ^ 53) (hsort : ∀ i j : Nat, i ≤ j → (j : Int) < (is.length : Int) → hue (is.getD i 0) ≤ hue (is.getD j 0))
    (hdp : dp + 24 < recursionLimit) (hun : un + 240 < cLine)
    (ret : ∀ r t h' tk, 0 ≤ r → r ≤ (is.length : Int) → (∀ j : Nat, 0 ≤ (j : Int) → (j : Int) < r → hue (is.getD j 0) ≤ X0) → (∀ j : Nat, r ≤ j → (j : Int) < (is.length : Int) → ¬ hue (is.getD j 0) ≤ X0) → Fr h₀ L h' m → News h₀ L h' news → Q (.int r t) { s with heap := h', toks := tk }) :
    wpAny (model PySem.Challenge.rw_pe0247_01.row.prog w) (ktrTop dp un gd cn cs L a ccd cl outer) (call (.ref 74) [.ref al, .float (fx X0) t1] [("key", .ref kf)]) Q E s := by
  revert X; k_fill; intro X
  have hsz : vs.toArray.size = is.length := by have := hiv.length; simp [this]
  refine wpAny_call ?_
  k_dflt (refine' code_def ?k1 ?k2 ?k3 ?k4 ?k5 ?kA ?kF ?kK ?k6 ?k7 ?k8 ?k9 ?kB ?_ ?c2 ?c3 ?c4 ?c5; (case kA => exact rfl); (case kF => exact rfl); (case kK => assumption); (case k1 => k_asm); (case k2 => k_asm); (case k3 => k_asm); (case k4 => k_asm); (case k5 => k_asm); (case k6 => k_is); (case k7 => k_is); (case k8 => (dsimp only [ktrTop]; omega)); (case k9 => first | exact BindsTo.of_eq rfl | (refine' kp_binds ?kx ?ke; (case kx => k_in); (case ke => exact fun _ => rfl))); (case c5 => decide); (case kB => exact locs rfl); (case c2 => exact rfl); (case c3 => exact rfl); (case c4 => exact rfl); k_whole; intro g' L' h' FG' F' N' B' X' T'; (try dsimp only); (try k_fold))
  refine wpAny_noRaise ?_
  (with_reducible show wpAny _ _ (execs _ _) _ _ _)
  refine execs_app (a := [_, _]) ?_
  k_steps
  (try dsimp only)
  unfold Stop
  refine' bisR_tail al kf X0 n _ _ hue vs is k _ _ _ _ ?B (fr_kst ?F ?FF) ?X ?N ?T hkf hsub hkey hal hiv hlen his hX hhue ?hlo ?hlh ?hhi hsort ?hdp ?hun ?hE ?_
  case F => k_asm
  case FF => (repeat' (first | exact List.forall_mem_nil _ | refine all_cons (by rfl) ?_))
  case B => k_asm
  case X => k_asm
  case N => k_asm
  case T => k_asm
  case hlo => first | assumption | decide | omega
  case hlh => first | assumption | omega
  case hhi => first | assumption | omega
  case hdp => dsimp only [ktrTop, Around.deeper]; omega
  case hun => dsimp only [ktrTop, Around.deeper]; omega
  case hE => passes_own
  intro r t m2 h2 tk2 r1 r2 r3 r4 F2 N2
  dsimp only
  k_steps
  exact ret r t _ _ r1 r2 r3 r4 (by assumption) (by assumption)
theorem bisR_c (al kf : Addr) (X0 n lo hi : Int) (hue : Int → Int) (vs : List Value) (is : List Int) (k : Nat) (t1 t2 t3 : Tok)
    (B : Below A₀ base outer h₀) (F : Fr h₀ L s.heap m) (X : (hd.heap_39 w.params).In h₀) (N : News h₀ L s.heap news) (T : Top p loose mean mg mb h₀) (hk : cs.kind = .function)
    {koc : Value} {kod : Option Addr} {kfd : FuncData} {ksl : Array (Option Value)} (hkf : (kf, (⟨koc, kod, .func kfd, ksl⟩ : Obj)) ∈ news) (hsub : ∀ q ∈ led, q ∈ news) (hkey : KeyOK w p loose mean mg mb led kf n hue) (hal : (al, listOf vs.toArray k) ∈ news) (hiv : IntsAre vs is) (hlen : is.length ≤ 64) (his : ∀ i ∈ is, 0 ≤ i ∧ i < n)
    (hX : X0.natAbs < 2 ^ 53) (hhue : ∀ i, 0 ≤ i → i < n → (hue i).natAbs < 2 ^ 53) (hlo0 : 0 ≤ lo) (hlh0 : lo ≤ hi) (hhi0 : hi ≤ is.length) (hsort : ∀ i j : Nat, i ≤ j → (j : Int) < hi → hue (is.getD i 0) ≤ hue (is.getD j 0))
    (hdp : dp + 24 < recursionLimit) (hun : un + 240 < cLine)
    (ret : ∀ r t h' tk, lo ≤ r → r ≤ hi → (∀ j : Nat, lo ≤ (j : Int) → (j : Int) < r → hue (is.getD j 0) ≤ X0) → (∀ j : Nat, r ≤ j → (j : Int) < hi → ¬ hue (is.getD j 0) ≤ X0) → Fr h₀ L h' m → News h₀ L h' news → Q (.int r t) { s with heap := h', toks := tk }) :
    wpAny (model PySem.Challenge.rw_pe0247_01.row.prog w) (ktrTop dp un gd cn cs L a ccd cl outer) (call (.ref 74) [.ref al, .float (fx X0) t1, .int lo t2, .int hi t3] [("key", .ref kf)]) Q E s := by
  revert X; k_fill; intro X
  have hsz : vs.toArray.size = is.length := by have := hiv.length; simp [this]
  refine wpAny_call ?_
  k_dflt (refine' code_def ?k1 ?k2 ?k3 ?k4 ?k5 ?kA ?kF ?kK ?k6 ?k7 ?k8 ?k9 ?kB ?_ ?c2 ?c3 ?c4 ?c5; (case kA => exact rfl); (case kF => exact rfl); (case kK => assumption); (case k1 => k_asm); (case k2 => k_asm); (case k3 => k_asm); (case k4 => k_asm); (case k5 => k_asm); (case k6 => k_is); (case k7 => k_is); (case k8 => (dsimp only [ktrTop]; omega)); (case k9 => first | exact BindsTo.of_eq rfl | (refine' kp_binds ?kx ?ke; (case kx => k_in); (case ke => exact fun _ => rfl))); (case c5 => decide); (case kB => exact locs rfl); (case c2 => exact rfl); (case c3 => exact rfl); (case c4 => exact rfl); k_whole; intro g' L' h' FG' F' N' B' X' T'; (try dsimp only); (try k_fold))
  refine wpAny_noRaise ?_
  (with_reducible show wpAny _ _ (execs _ _) _ _ _)
  refine execs_app (a := [_, _]) ?_
  k_steps
  (try dsimp only)
  unfold Stop
  refine' bisR_tail al kf X0 n _ _ hue vs is k _ _ _ _ ?B (fr_kst ?F ?FF) ?X ?N ?T hkf hsub hkey hal hiv hlen his hX hhue ?hlo ?hlh ?hhi hsort ?hdp ?hun ?hE ?_
  case F => k_asm
  case FF => (repeat' (first | exact List.forall_mem_nil _ | refine all_cons (by rfl) ?_))
  case B => k_asm
  case X => k_asm
  case N => k_asm
  case T => k_asm
  case hlo => first | assumption | decide | omega
  case hlh => first | assumption | omega
  case hhi => first | assumption | omega
  case hdp => dsimp only [ktrTop, Around.deeper]; omega
  case hun => dsimp only [ktrTop, Around.deeper]; omega
  case hE => passes_own
  intro r t m2 h2 tk2 r1 r2 r3 r4 F2 N2
  dsimp only
  k_steps
  exact ret r t _ _ r1 r2 r3 r4 (by assumption) (by assumption)
theorem bisL_a (al kf : Addr) (X0 n : Int) (hue : Int → Int) (vs : List Value) (is : List Int) (k : Nat) (t1 t2 t3 : Tok)
    (B : Below A₀ base outer h₀) (F : Fr h₀ L s.heap m) (X : (hd.heap_39 w.params).In h₀) (N : News h₀ L s.heap news) (T : Top p loose mean mg mb h₀) (hk : cs.kind = .function)
    {koc : Value} {kod : Option Addr} {kfd : FuncData} {ksl : Array (Option Value)} (hkf : (kf, (⟨koc, kod, .func kfd, ksl⟩ : Obj)) ∈ news) (hsub : ∀ q ∈ led, q ∈ news) (hkey : KeyOK w p loose mean mg mb led kf n hue) (hal : (al, listOf vs.toArray k) ∈ news) (hiv : IntsAre vs is) (hlen : is.length ≤ 64) (his : ∀ i ∈ is, 0 ≤ i ∧ i < n)
    (hX : X0.natAbs < 2 ^ 53) (hhue : ∀ i, 0 ≤ i → i < n → (hue i).natAbs < 2 ^ 53) (hsort : ∀ i j : Nat, i ≤ j → (j : Int) < (is.length : Int) → hue (is.getD i 0) ≤ hue (is.getD j 0))
    (hdp : dp + 24 < recursionLimit) (hun : un + 240 < cLine)
    (ret : ∀ r t h' tk, 0 ≤ r → r ≤ (is.length : Int) → (∀ j : Nat, 0 ≤ (j : Int) → (j : Int) < r → hue (is.getD j 0) < X0) → (∀ j : Nat, r ≤ j → (j : Int) < (is.length : Int) → ¬ hue (is.getD j 0) < X0) → Fr h₀ L h' m → News h₀ L h' news → Q (.int r t) { s with heap := h', toks := tk }) :
    wpAny (model PySem.Challenge.rw_pe0247_01.row.prog w) (ktrTop dp un gd cn cs L a ccd cl outer) (call (.ref 92) [.ref al, .float (fx X0) t1, .int 0 t2, .none] [("key", .ref kf)]) Q E s := by
  revert X; k_fill; intro X
  have hsz : vs.toArray.size = is.length := by have := hiv.length; simp [this]
  refine wpAny_call ?_
  k_dflt (refine' code_def ?k1 ?k2 ?k3 ?k4 ?k5 ?kA ?kF ?kK ?k6 ?k7 ?k8 ?k9 ?kB ?_ ?c2 ?c3 ?c4 ?c5; (case kA => exact rfl); (case kF => exact rfl); (case kK => assumption); (case k1 => k_asm); (case k2 => k_asm); (case k3 => k_asm); (case k4 => k_asm); (case k5 => k_asm); (case k6 => k_is); (case k7 => k_is); (case k8 => (dsimp only [ktrTop]; omega)); (case k9 => first | exact BindsTo.of_eq rfl | (refine' kp_binds ?kx ?ke; (case kx => k_in); (case ke => exact fun _ => rfl))); (case c5 => decide); (case kB => exact locs rfl); (case c2 => exact rfl); (case c3 => exact rfl); (case c4 => exact rfl); k_whole; intro g' L' h' FG' F' N' B' X' T'; (try dsimp only); (try k_fold))
  refine wpAny_noRaise ?_
  (with_reducible show wpAny _ _ (execs _ _) _ _ _)
  refine execs_app (a := [_, _]) ?_
  k_steps
  (try dsimp only)
  unfold Stop
  refine' bisL_tail al kf X0 n _ _ hue vs is k _ _ _ _ ?B (fr_kst ?F ?FF) ?X ?N ?T hkf hsub hkey hal hiv hlen his hX hhue ?hlo ?hlh ?hhi hsort ?hdp ?hun ?hE ?_
  case F => k_asm
  case FF => (repeat' (first | exact List.forall_mem_nil _ | refine all_cons (by rfl) ?_))
  case B => k_asm
  case X => k_asm
  case N => k_asm
  case T => k_asm
  case hlo => first | assumption | decide | omega
  case hlh => first | assumption | omega
  case hhi => first | assumption | omega
  case hdp => dsimp only [ktrTop, Around.deeper]; omega
  case hun => dsimp only [ktrTop, Around.deeper]; omega
  case hE => passes_own
  intro r t m2 h2 tk2 r1 r2 r3 r4 F2 N2
  dsimp only
  k_steps
  exact ret r t _ _ r1 r2 r3 r4 (by assumption) (by assumption)
theorem bisL_b (al kf : Addr) (X0 n : Int) (hue : Int → Int) (vs : List Value) (is : List Int) (k : Nat) (t1 t2 t3 : Tok)
    (B : Below A₀ base outer h₀) (F : Fr h₀ L s.heap m) (X : (hd.heap_39 w.params).In h₀) (N : News h₀ L s.heap news) (T : Top p loose mean mg mb h₀) (hk : cs.kind = .function)
    {koc : Value} {kod : Option Addr} {kfd : FuncData} {ksl : Array (Option Value)} (hkf : (kf, (⟨koc, kod, .func kfd, ksl⟩ : Obj)) ∈ news) (hsub : ∀ q ∈ led, q ∈ news) (hkey : KeyOK w p loose mean mg mb led kf n hue) (hal : (al, listOf vs.toArray k) ∈ news) (hiv : IntsAre vs is) (hlen : is.length ≤ 64) (his : ∀ i ∈ is, 0 ≤ i ∧ i < n)
    (hX : X0.natAbs < 2 ^ 53) (hhue : ∀ i, 0 ≤ i → i < n → (hue i).natAbs < 2 ^ 53) (hsort : ∀ i j : Nat, i ≤ j → (j : Int) < (is.length : Int) → hue (is.getD i 0) ≤ hue (is.getD j 0))
    (hdp : dp + 24 < recursionLimit) (hun : un + 240 < cLine)
    (ret : ∀ r t h' tk, 0 ≤ r → r ≤ (is.length : Int) → (∀ j : Nat, 0 ≤ (j : Int) → (j : Int) < r → hue (is.getD j 0) < X0) → (∀ j : Nat, r ≤ j → (j : Int) < (is.length : Int) → ¬ hue (is.getD j 0) < X0) → Fr h₀ L h' m → News h₀ L h' news → Q (.int r t) { s with heap := h', toks := tk }) :
    wpAny (model PySem.Challenge.rw_pe0247_01.row.prog w) (ktrTop dp un gd cn cs L a ccd cl outer) (call (.ref 92) [.ref al, .float (fx X0) t1] [("key", .ref kf)]) Q E s := by
  revert X; k_fill; intro X
  have hsz : vs.toArray.size = is.length := by have := hiv.length; simp [this]
  refine wpAny_call ?_
  k_dflt (refine' code_def ?k1 ?k2 ?k3 ?k4 ?k5 ?kA ?kF ?kK ?k6 ?k7 ?k8 ?k9 ?kB ?_ ?c2 ?c3 ?c4 ?c5; (case kA => exact rfl); (case kF => exact rfl); (case kK => assumption); (case k1 => k_asm); (case k2 => k_asm); (case k3 => k_asm); (case k4 => k_asm); (case k5 => k_asm); (case k6 => k_is); (case k7 => k_is); (case k8 => (dsimp only [ktrTop]; omega)); (case k9 => first | exact BindsTo.of_eq rfl | (refine' kp_binds ?kx ?ke; (case kx => k_in); (case ke => exact fun _ => rfl))); (case c5 => decide); (case kB => exact locs rfl); (case c2 => exact rfl); (case c3 => exact rfl); (case c4 => exact rfl); k_whole; intro g' L' h' FG' F' N' B' X' T'; (try dsimp only); (try k_fold))
  refine wpAny_noRaise ?_
  (with_reducible show wpAny _ _ (execs _ _) _ _ _)
  refine execs_app (a := [_, _]) ?_
  k_steps
  (try dsimp only)
  unfold Stop
  refine' bisL_tail al kf X0 n _ _ hue vs is k _ _ _ _ ?B (fr_kst ?F ?FF) ?X ?N ?T hkf hsub hkey hal hiv hlen his hX hhue ?hlo ?hlh ?hhi hsort ?hdp ?hun ?hE ?_
  case F => k_asm
  case FF => (repeat' (first | exact List.forall_mem_nil _ | refine all_cons (by rfl) ?_))
  case B => k_asm
  case X => k_asm
  case N => k_asm
  case T => k_asm
  case hlo => first | assumption | decide | omega
  case hlh => first | assumption | omega
  case hhi => first | assumption | omega
  case hdp => dsimp only [ktrTop, Around.deeper]; omega
  case hun => dsimp only [ktrTop, Around.deeper]; omega
  case hE => passes_own
  intro r t m2 h2 tk2 r1 r2 r3 r4 F2 N2
  dsimp only
  k_steps
  exact ret r t _ _ r1 r2 r3 r4 (by assumption) (by assumption)
theorem bisL_c (al kf : Addr) (X0 n lo hi : Int) (hue : Int → Int) (vs : List Value) (is : List Int) (k : Nat) (t1 t2 t3 : Tok)
    (B : Below A₀ base outer h₀) (F : Fr h₀ L s.heap m) (X : (hd.heap_39 w.params).In h₀) (N : News h₀ L s.heap news) (T : Top p loose mean mg mb h₀) (hk : cs.kind = .function)
    {koc : Value} {kod : Option Addr} {kfd : FuncData} {ksl : Array (Option Value)} (hkf : (kf, (⟨koc, kod, .func kfd, ksl⟩ : Obj)) ∈ news) (hsub : ∀ q ∈ led, q ∈ news) (hkey : KeyOK w p loose mean mg mb led kf n hue) (hal : (al, listOf vs.toArray k) ∈ news) (hiv : IntsAre vs is) (hlen : is.length ≤ 64) (his : ∀ i ∈ is, 0 ≤ i ∧ i < n)
    (hX : X0.natAbs < 2 ^ 53) (hhue : ∀ i, 0 ≤ i → i < n → (hue i).natAbs < 2 ^ 53) (hlo0 : 0 ≤ lo) (hlh0 : lo ≤ hi) (hhi0 : hi ≤ is.length) (hsort : ∀ i j : Nat, i ≤ j → (j : Int) < hi → hue (is.getD i 0) ≤ hue (is.getD j 0))
    (hdp : dp + 24 < recursionLimit) (hun : un + 240 < cLine)
    (ret : ∀ r t h' tk, lo ≤ r → r ≤ hi → (∀ j : Nat, lo ≤ (j : Int) → (j : Int) < r → hue (is.getD j 0) < X0) → (∀ j : Nat, r ≤ j → (j : Int) < hi → ¬ hue (is.getD j 0) < X0) → Fr h₀ L h' m → News h₀ L h' news → Q (.int r t) { s with heap := h', toks := tk }) :
    wpAny (model PySem.Challenge.rw_pe0247_01.row.prog w) (ktrTop dp un gd cn cs L a ccd cl outer) (call (.ref 92) [.ref al, .float (fx X0) t1, .int lo t2, .int hi t3] [("key", .ref kf)]) Q E s := by
  revert X; k_fill; intro X
  have hsz : vs.toArray.size = is.length := by have := hiv.length; simp [this]
  refine wpAny_call ?_
  k_dflt (refine' code_def ?k1 ?k2 ?k3 ?k4 ?k5 ?kA ?kF ?kK ?k6 ?k7 ?k8 ?k9 ?kB ?_ ?c2 ?c3 ?c4 ?c5; (case kA => exact rfl); (case kF => exact rfl); (case kK => assumption); (case k1 => k_asm); (case k2 => k_asm); (case k3 => k_asm); (case k4 => k_asm); (case k5 => k_asm); (case k6 => k_is); (case k7 => k_is); (case k8 => (dsimp only [ktrTop]; omega)); (case k9 => first | exact BindsTo.of_eq rfl | (refine' kp_binds ?kx ?ke; (case kx => k_in); (case ke => exact fun _ => rfl))); (case c5 => decide); (case kB => exact locs rfl); (case c2 => exact rfl); (case c3 => exact rfl); (case c4 => exact rfl); k_whole; intro g' L' h' FG' F' N' B' X' T'; (try dsimp only); (try k_fold))
  refine wpAny_noRaise ?_
  (with_reducible show wpAny _ _ (execs _ _) _ _ _)
  refine execs_app (a := [_, _]) ?_
  k_steps
  (try dsimp only)
  unfold Stop
  refine' bisL_tail al kf X0 n _ _ hue vs is k _ _ _ _ ?B (fr_kst ?F ?FF) ?X ?N ?T hkf hsub hkey hal hiv hlen his hX hhue ?hlo ?hlh ?hhi hsort ?hdp ?hun ?hE ?_
  case F => k_asm
  case FF => (repeat' (first | exact List.forall_mem_nil _ | refine all_cons (by rfl) ?_))
  case B => k_asm
  case X => k_asm
  case N => k_asm
  case T => k_asm
  case hlo => first | assumption | decide | omega
  case hlh => first | assumption | omega
  case hhi => first | assumption | omega
  case hdp => dsimp only [ktrTop, Around.deeper]; omega
  case hun => dsimp only [ktrTop, Around.deeper]; omega
  case hE => passes_own
  intro r t m2 h2 tk2 r1 r2 r3 r4 F2 N2
  dsimp only
  k_steps
  exact ret r t _ _ r1 r2 r3 r4 (by assumption) (by assumption)
end
end

section
open PySem PySem.W PyProof.Rows PySem.Spec PySem.Calls
set_option Elab.async false
set_option maxRecDepth 100000
set_option maxHeartbeats 8000000
local macro_rules | `(tactic| walk_at "call ref") => `(tactic| (refine stop_of ?_))
local macro_rules | `(tactic| walk_at "call builtin:len") => `(tactic| (k_here; (with_reducible show wpAny _ _ (call (Value.builtin "len") [Value.ref _]) _ _ _); k_dflt (refine' PySem.W.KM.len_K ?N ?m ?s ?f ?_; (case N => k_asm); (case m => k_mem); (case s => assumption); (case f => (first | lia | omega)); k_whole)))
local macro_rules | `(tactic| walk_at "callWith ref") => `(tactic| (k_here; k_dflt (refine' callWith_F ?k1 ?_; (case k1 => exact FnAt.of (by k_asm) (by k_mem)); k_whole)))
local macro_rules | `(tactic| walk_at "FnAt") => `(tactic| (k_dflt (exact FnAt.of (by k_asm) (by k_mem))))
theorem ins_fits {x : Int} (h0 : 0 ≤ x) (h1 : x < 2 ^ 30) : Builtin.List.listFitsIndex x = true := by
  unfold Builtin.List.listFitsIndex
  simp
  (first | lia | omega)
theorem ins_ints {vs : List Value} {is : List Int} {r i : Int} {t : Tok} (h : IntsAre vs is) (h0 : 0 ≤ r) (h1 : r ≤ is.length) : IntsAre (kl_ins vs r (.int i t)) (is.take r.toNat ++ i :: is.drop r.toNat) := by
  have hl := h.length
  unfold kl_ins
  rw [if_neg (by (first | lia | omega))]
  have e : min r.toNat vs.length = r.toNat := by (first | lia | omega)
  rw [e]
  exact (h.take _).append (.cons _ _ (h.drop _))
section
variable {w : World} {p : Program} {loose : List Str} {mean : ExcName → Option Value} {mg mb : Str → Option Value} {dp un : Nat} {gd : Option (List Code)} {cn : Str} {cs : Scope} {a : Addr} {ccd : Value} {cl : List (Str × Addr)} {outer : List Env} {A₀ : Around} {base h₀ : Heap} {L : Addr} {m : Str → Option Value} {news led : List (Addr × Obj)} {s : Shared}
    {Q E : Value → Shared → Prop}
theorem insR (al kf : Addr) (n i : Int) (hue : Int → Int) (vs : List Value) (is : List Int) (k : Nat) (t1 : Tok)
    (B : Below A₀ base outer h₀) (F : Fr h₀ L s.heap m) (X : (hd.heap_39 w.params).In h₀) (N : News h₀ L s.heap ((al, listOf vs.toArray k) :: news)) (T : Top p loose mean mg mb h₀) (hk : cs.kind = .function)
    {koc : Value} {kod : Option Addr} {kfd : FuncData} {ksl : Array (Option Value)} (hkf : (kf, (⟨koc, kod, .func kfd, ksl⟩ : Obj)) ∈ news) (hne : ∀ q ∈ news, q.1 ≠ al) (hsub : ∀ q ∈ led, q ∈ news) (hkey : KeyOK w p loose mean mg mb led kf n hue) (hiv : IntsAre vs is) (hlen : is.length ≤ 64) (his : ∀ i ∈ is, 0 ≤ i ∧ i < n)
    (hi0 : 0 ≤ i) (hi1 : i < n) (hhue : ∀ i, 0 ≤ i → i < n → (hue i).natAbs < 2 ^ 53) (hsort : ∀ i j : Nat, i ≤ j → (j : Int) < (is.length : Int) → hue (is.getD i 0) ≤ hue (is.getD j 0))
    (hdp : dp + 30 < recursionLimit) (hun : un + 300 < cLine)
    (ret : ∀ (r : Nat) ws h' tk, r ≤ is.length → (∀ j : Nat, j < r → hue (is.getD j 0) ≤ hue i) → (∀ j : Nat, r ≤ j → j < is.length → ¬ hue (is.getD j 0) ≤ hue i) → Fr h₀ L h' m → News h₀ L h' ((al, listOf (List.toArray ws) (k + 1)) :: news) → IntsAre ws (is.take r ++ i :: is.drop r) → Q .none { s with heap := h', toks := tk }) :
    wpAny (model PySem.Challenge.rw_pe0247_01.row.prog w) (ktrTop dp un gd cn cs L a ccd cl outer) (call (.ref 65) [.ref al, .int i t1] [("key", .ref kf)]) Q E s := by
  have hkf' : (kf, (⟨koc, kod, .func kfd, ksl⟩ : Obj)) ∈ (al, listOf vs.toArray k) :: news := List.mem_cons_of_mem _ hkf
  have hX := hhue i hi0 hi1
  revert X; k_fill; intro X
  refine wpAny_call ?_
  k_dflt (refine' code_def ?k1 ?k2 ?k3 ?k4 ?k5 ?kA ?kF ?kK ?k6 ?k7 ?k8 ?k9 ?kB ?_ ?c2 ?c3 ?c4 ?c5; (case kA => exact rfl); (case kF => exact rfl); (case kK => assumption); (case k1 => k_asm); (case k2 => k_asm); (case k3 => k_asm); (case k4 => k_asm); (case k5 => k_asm); (case k6 => k_is); (case k7 => k_is); (case k8 => (dsimp only [ktrTop]; (first | lia | omega))); (case k9 => first | exact BindsTo.of_eq rfl | (refine' kp_binds ?kx ?ke; (case kx => k_in); (case ke => exact fun _ => rfl))); (case c5 => decide); (case kB => exact locs rfl); (case c2 => exact rfl); (case c3 => exact rfl); (case c4 => exact rfl); k_whole; intro g' L' h' FG' F' N' B' X' T'; (try dsimp only); (try k_fold))
  refine wpAny_noRaise ?_
  (with_reducible show wpAny _ _ (execs _ _) _ _ _)
  k_steps
  unfold Stop
  (with_reducible show wpAny _ _ (call (Value.ref _) _) _ _ _)
  refine' hkey.use ?B ?F ?X ?N ?T rfl ?hsub ?hdp ?hun hi0 hi1 ?_
  case B => k_asm
  case F => k_asm
  case X => k_asm
  case N => k_asm
  case T => k_asm
  case hsub => exact fun q hq => List.mem_cons_of_mem _ (hsub q hq)
  case hdp => dsimp only [ktrTop, Around.deeper]; (first | lia | omega)
  case hun => dsimp only [ktrTop, Around.deeper]; (first | lia | omega)
  intro t4 h4 tk4 F4 N4
  (try dsimp only)
  k_steps
  unfold Stop
  (with_reducible show wpAny _ _ (call (Value.ref _) _ _) _ _ _)
  refine' bisR_a (led := led) al kf (hue i) n hue vs is k _ _ 0 ?B ?F ?X ?N ?T rfl hkf' ?hsub hkey ?hal hiv hlen his hX hhue hsort ?hdp ?hun ?_
  case B => k_asm
  case F => k_asm
  case X => k_asm
  case N => k_asm
  case T => k_asm
  case hsub => exact fun q hq => List.mem_cons_of_mem _ (hsub q hq)
  case hal => exact List.mem_cons_self ..
  case hdp => dsimp only [ktrTop, Around.deeper]; (first | lia | omega)
  case hun => dsimp only [ktrTop, Around.deeper]; (first | lia | omega)
  intro r t5 h5 tk5 r1 r2 r3 r4 F5 N5
  (try dsimp only)
  have hvl := hiv.length
  k_steps
  (with_reducible show wpAny _ _ (call (Value.builtin _) [Value.ref _, Value.int _ _, _]) _ _ _)
  refine' kl_insert ?F ?N ?f ?e ?U ?z ?_
  case F => k_asm
  case N => k_asm
  case f => exact ins_fits (by assumption) (by (first | lia | omega))
  case e => exact rfl
  case U => exact Upd.head (by assumption)
  case z => (simp only [List.toList_toArray, PySem.sizeLine_eq]; (first | lia | omega))
  kl_rest
  k_steps
  refine' ret r.toNat (kl_ins vs r (.int i t1)) _ _ ?r2 ?r3 ?r4 ?F ?N ?iv
  case F => assumption
  case N => assumption
  case r2 => (first | lia | omega)
  case r3 => exact fun j h1 => r3 j (by (first | lia | omega)) (by (first | lia | omega))
  case r4 => exact fun j h1 h2 => r4 j (by (first | lia | omega)) (by (first | lia | omega))
  case iv => exact ins_ints hiv r1 r2
theorem insL (al kf : Addr) (n i : Int) (hue : Int → Int) (vs : List Value) (is : List Int) (k : Nat) (t1 : Tok)
    (B : Below A₀ base outer h₀) (F : Fr h₀ L s.heap m) (X : (hd.heap_39 w.params).In h₀) (N : News h₀ L s.heap ((al, listOf vs.toArray k) :: news)) (T : Top p loose mean mg mb h₀) (hk : cs.kind = .function)
    {koc : Value} {kod : Option Addr} {kfd : FuncData} {ksl : Array (Option Value)} (hkf : (kf, (⟨koc, kod, .func kfd, ksl⟩ : Obj)) ∈ news) (hne : ∀ q ∈ news, q.1 ≠ al) (hsub : ∀ q ∈ led, q ∈ news) (hkey : KeyOK w p loose mean mg mb led kf n hue) (hiv : IntsAre vs is) (hlen : is.length ≤ 64) (his : ∀ i ∈ is, 0 ≤ i ∧ i < n)
    (hi0 : 0 ≤ i) (hi1 : i < n) (hhue : ∀ i, 0 ≤ i → i < n → (hue i).natAbs < 2 ^ 53) (hsort : ∀ i j : Nat, i ≤ j → (j : Int) < (is.length : Int) → hue (is.getD i 0) ≤ hue (is.getD j 0))
    (hdp : dp + 30 < recursionLimit) (hun : un + 300 < cLine)
    (ret : ∀ (r : Nat) ws h' tk, r ≤ is.length → (∀ j : Nat, j < r → hue (is.getD j 0) < hue i) → (∀ j : Nat, r ≤ j → j < is.length → ¬ hue (is.getD j 0) < hue i) → Fr h₀ L h' m → News h₀ L h' ((al, listOf (List.toArray ws) (k + 1)) :: news) → IntsAre ws (is.take r ++ i :: is.drop r) → Q .none { s with heap := h', toks := tk }) :
    wpAny (model PySem.Challenge.rw_pe0247_01.row.prog w) (ktrTop dp un gd cn cs L a ccd cl outer) (call (.ref 83) [.ref al, .int i t1] [("key", .ref kf)]) Q E s := by
  have hkf' : (kf, (⟨koc, kod, .func kfd, ksl⟩ : Obj)) ∈ (al, listOf vs.toArray k) :: news := List.mem_cons_of_mem _ hkf
  have hX := hhue i hi0 hi1
  revert X; k_fill; intro X
  refine wpAny_call ?_
  k_dflt (refine' code_def ?k1 ?k2 ?k3 ?k4 ?k5 ?kA ?kF ?kK ?k6 ?k7 ?k8 ?k9 ?kB ?_ ?c2 ?c3 ?c4 ?c5; (case kA => exact rfl); (case kF => exact rfl); (case kK => assumption); (case k1 => k_asm); (case k2 => k_asm); (case k3 => k_asm); (case k4 => k_asm); (case k5 => k_asm); (case k6 => k_is); (case k7 => k_is); (case k8 => (dsimp only [ktrTop]; (first | lia | omega))); (case k9 => first | exact BindsTo.of_eq rfl | (refine' kp_binds ?kx ?ke; (case kx => k_in); (case ke => exact fun _ => rfl))); (case c5 => decide); (case kB => exact locs rfl); (case c2 => exact rfl); (case c3 => exact rfl); (case c4 => exact rfl); k_whole; intro g' L' h' FG' F' N' B' X' T'; (try dsimp only); (try k_fold))
  refine wpAny_noRaise ?_
  (with_reducible show wpAny _ _ (execs _ _) _ _ _)
  k_steps
  unfold Stop
  (with_reducible show wpAny _ _ (call (Value.ref _) _) _ _ _)
  refine' hkey.use ?B ?F ?X ?N ?T rfl ?hsub ?hdp ?hun hi0 hi1 ?_
  case B => k_asm
  case F => k_asm
  case X => k_asm
  case N => k_asm
  case T => k_asm
  case hsub => exact fun q hq => List.mem_cons_of_mem _ (hsub q hq)
  case hdp => dsimp only [ktrTop, Around.deeper]; (first | lia | omega)
  case hun => dsimp only [ktrTop, Around.deeper]; (first | lia | omega)
  intro t4 h4 tk4 F4 N4
  (try dsimp only)
  k_steps
  unfold Stop
  (with_reducible show wpAny _ _ (call (Value.ref _) _ _) _ _ _)
  refine' bisL_a (led := led) al kf (hue i) n hue vs is k _ _ 0 ?B ?F ?X ?N ?T rfl hkf' ?hsub hkey ?hal hiv hlen his hX hhue hsort ?hdp ?hun ?_
  case B => k_asm
  case F => k_asm
  case X => k_asm
  case N => k_asm
  case T => k_asm
  case hsub => exact fun q hq => List.mem_cons_of_mem _ (hsub q hq)
  case hal => exact List.mem_cons_self ..
  case hdp => dsimp only [ktrTop, Around.deeper]; (first | lia | omega)
  case hun => dsimp only [ktrTop, Around.deeper]; (first | lia | omega)
  intro r t5 h5 tk5 r1 r2 r3 r4 F5 N5
  (try dsimp only)
  have hvl := hiv.length
  k_steps
  (with_reducible show wpAny _ _ (call (Value.builtin _) [Value.ref _, Value.int _ _, _]) _ _ _)
  refine' kl_insert ?F ?N ?f ?e ?U ?z ?_
  case F => k_asm
  case N => k_asm
  case f => exact ins_fits (by assumption) (by (first | lia | omega))
  case e => exact rfl
  case U => exact Upd.head (by assumption)
  case z => (simp only [List.toList_toArray, PySem.sizeLine_eq]; (first | lia | omega))
  kl_rest
  k_steps
  refine' ret r.toNat (kl_ins vs r (.int i t1)) _ _ ?r2 ?r3 ?r4 ?F ?N ?iv
  case F => assumption
  case N => assumption
  case r2 => (first | lia | omega)
  case r3 => exact fun j h1 => r3 j (by (first | lia | omega)) (by (first | lia | omega))
  case r4 => exact fun j h1 h2 => r4 j (by (first | lia | omega)) (by (first | lia | omega))
  case iv => exact ins_ints hiv r1 r2
end
end

section
open PySem PySem.W PyProof.Rows PySem.Spec PySem.Calls
set_option Elab.async false
set_option maxRecDepth 100000
set_option maxHeartbeats 8000000
def forBody : Stmt → List Stmt | .For _ _ b _ _ => b | _ => []
/-- mark / size, or any other place on the wheel -/
theorem place_fx {a size c : Int} (ha : 0 ≤ a) (ha1 : a < 2 ^ 30) (hs0 : 8 ≤ size) (hs1 : size ≤ 1024) (hc : size * c = 2 ^ 20) (hc1 : c ≤ 2 ^ 17) (hc0 : 0 < c) : Float64.ofFrac (decide (a < 0) != decide (size < 0)) a.natAbs size.natAbs = fx (a * c) := by
  have e1 : (decide (a < 0) != decide (size < 0)) = false := by rw [decide_eq_false (by (first | lia | omega)), decide_eq_false (by (first | lia | omega))]; rfl
  have h0 : 0 ≤ a * c := Int.mul_nonneg ha (Int.le_of_lt hc0)
  have h1 : a * c ≤ 2 ^ 30 * 2 ^ 17 := Int.mul_le_mul (Int.le_of_lt ha1) hc1 (Int.le_of_lt hc0) (by decide)
  rw [e1, frac_fx (c := (a * c).natAbs) (by (first | lia | omega)) (by (first | lia | omega)) ?_]
  · unfold fx
    rw [decide_eq_false (show ¬ a * c < 0 by (first | lia | omega))]
  · rw [Int.natAbs_mul]
    have : c.natAbs * size.natAbs = 2 ^ 20 := by rw [← Int.natAbs_mul, Int.mul_comm, hc]; rfl
    rw [Nat.mul_assoc, this]
theorem scale_lt {a b c : Int} (hc : 0 < c) : a * c < b * c ↔ a < b := by
  constructor
  · intro h
    rcases Int.lt_or_le a b with x | x
    · exact x
    · have := Int.mul_le_mul_of_nonneg_right x (Int.le_of_lt hc); (first | lia | omega)
  · exact fun h => Int.mul_lt_mul_of_pos_right h hc
theorem scale_le {a b c : Int} (hc : 0 < c) : a * c ≤ b * c ↔ a ≤ b := by
  have := scale_lt (a := b) (b := a) hc
  constructor <;> intro h <;> (first | lia | omega)
theorem mark_abs {a c : Int} (h0 : 0 ≤ a) (h1 : a ≤ 1024) (c0 : 0 < c) (c1 : c ≤ 2 ^ 17) : (a * c).natAbs < 2 ^ 53 := by
  have x := Int.mul_nonneg h0 (Int.le_of_lt c0)
  have y : a * c ≤ 1024 * 2 ^ 17 := Int.mul_le_mul h1 c1 (Int.le_of_lt c0) (by decide)
  (first | lia | omega)
/-- what the searches of one row tell -/
structure RowFacts (W size leap first c : Int) (n : Nat) (hue : Int → Int) (is : List Int) : Prop where
  len : is.length = n
  mem : ∀ i ∈ is, 0 ≤ i ∧ i < (n : Int)
  sort : ∀ i j : Nat, i ≤ j → (j : Int) < (is.length : Int) → hue (is.getD i 0) ≤ hue (is.getD j 0)
  lt : ∀ (mark lo hi x : Int), 0 ≤ mark → mark ≤ size → 0 ≤ lo → lo ≤ hi → hi ≤ n → lo ≤ x → x ≤ hi → (∀ j : Nat, lo ≤ (j : Int) → (j : Int) < x → hue (is.getD j 0) < mark * c) → (∀ j : Nat, x ≤ (j : Int) → (j : Int) < hi → ¬ hue (is.getD j 0) < mark * c) →
    x = min (max (W - fsum size leap (first - mark) n) lo) hi
  le : ∀ (mark mm lo hi x : Int), 0 ≤ mark → mark ≤ size → mm = (if size < mark + 1 then size else mark + 1) → 0 ≤ lo → lo ≤ hi → hi ≤ n → lo ≤ x → x ≤ hi → (∀ j : Nat, lo ≤ (j : Int) → (j : Int) < x → hue (is.getD j 0) ≤ mark * c) → (∀ j : Nat, x ≤ (j : Int) → (j : Int) < hi → ¬ hue (is.getD j 0) ≤ mark * c) →
    x = min (max (W - fsum size leap (first - mm) n) lo) hi
theorem rowFacts {W size leap first c : Int} {n : Nat} {hue : Int → Int} {is : List Int} {r : Int → Int} (h : RowOf r n is) (hs : 0 < size) (hc : 0 < c) (hhue : ∀ i, hue i = ((first + i * leap) % size) * c) (hW : W = fsum size leap first n)
    (hmono : ∀ i j : Nat, i ≤ j → j < n → (first + is.getD i 0 * leap) % size ≤ (first + is.getD j 0 * leap) % size) : RowFacts W size leap first c n hue is := by
  have hl := h.length
  refine ⟨hl, fun i hi => h.mem hi, fun i j h1 h2 => ?_, ?_, ?_⟩
  · rw [hhue, hhue, scale_le hc]; exact hmono i j h1 (by (first | lia | omega))
  · intro mark lo hi x m0 m1 a0 a1 a2 b0 b1 c1 c2
    have e := search_eq h (fun a => (first + a * leap) % size) (fun a => decide ((first + a * leap) % size < mark)) hmono (fun a b h1 h2 => by simp at *; (first | lia | omega)) a0 a1 a2 b0 b1
      (fun j h1 h2 => by have := c1 j h1 h2; rw [hhue, scale_lt hc] at this; simpa using this) (fun j h1 h2 => by have := c2 j h1 h2; rw [hhue, scale_lt hc] at this; simpa using this)
    rw [← below_count, ← fsum_below hs m0 m1, ← hW] at e
    exact e
  · intro mark mm lo hi x m0 m1 hmm a0 a1 a2 b0 b1 c1 c2
    have hmm0 : 0 ≤ mm ∧ mm ≤ size := by rw [hmm]; split <;> (first | lia | omega)
    have hq : ∀ a : Int, (first + a * leap) % size ≤ mark ↔ (first + a * leap) % size < mm := by
      intro a
      have := Int.emod_lt_of_pos (first + a * leap) hs
      rw [hmm]; split <;> (first | lia | omega)
    have e := search_eq h (fun a => (first + a * leap) % size) (fun a => decide ((first + a * leap) % size < mm)) hmono (fun a b h1 h2 => by simp at *; (first | lia | omega)) a0 a1 a2 b0 b1
      (fun j h1 h2 => by have := c1 j h1 h2; rw [hhue, scale_le hc, hq] at this; simpa using this) (fun j h1 h2 => by have := c2 j h1 h2; rw [hhue, scale_le hc, hq] at this; simpa using this)
    rw [← below_count, ← fsum_below hs hmm0.1 hmm0.2, ← hW] at e
    exact e
theorem full_bounds {W size leap first mark : Int} {n : Nat} (hs : 0 < size) (hW : W = fsum size leap first n) (h0 : 0 ≤ mark) (h1 : mark ≤ size) : 0 ≤ W - fsum size leap (first - mark) n ∧ W - fsum size leap (first - mark) n ≤ n := by
  rw [hW, fsum_below hs h0 h1, below_count]
  have := count_le (fun i => decide ((first + i * leap) % size < mark)) n
  (first | lia | omega)
local macro_rules | `(tactic| walk_at "call ref") => `(tactic| (refine stop_of ?_))
section
variable {w : World} {p : Program} {loose : List Str} {mean : ExcName → Option Value} {mg mb : Str → Option Value} {dp un : Nat} {gd : Option (List Code)} {outer : List Env} {A₀ : Around} {base h₀ : Heap} {L fa : Addr} {m : Str → Option Value} {news led : List (Addr × Obj)} {s : Shared}
    {Q : Flow → Shared → Prop} {E : Value → Shared → Prop}
theorem mark_turn (kv kl lr lo lg lh cS cL cF cH cC : Addr) (n size leap first W mark c : Int) (tm tn tw tS tL tF : Tok) (oS oL oF oH : Obj) (hue : Int → Int) (hvs gvs rvs ovs : List Value) (hs gs is js : List Int) (kh kg kr ko : Nat) (ps qs : Array Value) (rest : List (Addr × Obj)) (u : Str → Option Value)
    {koc koc' : Value} {kod kod' : Option Addr} {kfd kfd' : FuncData} {ksl ksl' : Array (Option Value)}
    (B : Below A₀ base outer h₀) (X : (hd.heap_39 w.params).In h₀) (T : Top p loose mean mg mb h₀) (CA : CodeHd base 34 30) (CB : CodeHd base 41 37)
    (F : Fr h₀ L s.heap (kstB u [("given", .ref lg), ("count", .int n tn), ("by_value", .ref kv), ("by_light", .ref kl), ("row", .ref lr), ("other", .ref lo), ("whole", .int W tw), ("mark", .int mark tm)])) (N : News h₀ L s.heap ((30, tabObj ps) :: (37, tabObj qs) :: rest))
    (hnA : ∀ q ∈ rest, q.1 ≠ 30) (hnB : ∀ q ∈ rest, q.1 ≠ 37) (hsA : TabSt 32 4 qualA ps rest) (hsB : TabSt 47 4 qualB qs rest) (hG : ∃ rs, (129, tabObj rs) ∈ rest)
    (mS : (cS, oS) ∈ rest) (dS : oS.data = .cell (some (.int size tS))) (mL : (cL, oL) ∈ rest) (dL : oL.data = .cell (some (.int leap tL))) (mF : (cF, oF) ∈ rest) (dF : oF.data = .cell (some (.int first tF))) (mH : (cH, oH) ∈ rest) (dH : oH.data = .cell (some (.ref lh)))
    (mlh : (lh, listOf hvs.toArray kh) ∈ rest) (hhv : IntsAre hvs hs) (mlg : (lg, listOf gvs.toArray kg) ∈ rest) (hgv : IntsAre gvs gs) (mlr : (lr, listOf rvs.toArray kr) ∈ rest) (hrv : IntsAre rvs is) (mlo : (lo, listOf ovs.toArray ko) ∈ rest) (hov : IntsAre ovs js)
    (mkv : (kv, (⟨koc, kod, .func kfd, ksl⟩ : Obj)) ∈ rest) (mkl : (kl, (⟨koc', kod', .func kfd', ksl'⟩ : Obj)) ∈ rest) (hsub : ∀ q ∈ led, q ∈ rest) (hkv : KeyOK w p loose mean mg mb led kv n hue) (hkl : KeyOK w p loose mean mg mb led kl n hue)
    (hn0 : 4 ≤ n) (hn1 : n ≤ 8) (hz0 : 8 ≤ size) (hz1 : size ≤ 1024) (hl0 : 0 ≤ leap) (hl1 : leap < 3 * size) (hf0 : 0 ≤ first) (hf1 : first < 3 * size) (hdp : dp + 120 < recursionLimit) (hun : un + 1200 < cLine)
    (hm0 : 0 ≤ mark) (hm1 : mark ≤ size) (hc : size * c = 2 ^ 20) (hc0 : 0 < c) (hc1 : c ≤ 2 ^ 17) (hW : W = fsum size leap first n.toNat) (hhue : ∀ i, hue i = ((first + i * leap) % size) * c)
    (hrow : RowOf (rankR fun i => (first + i * leap) % size) n.toNat is) (hoth : RowOf (rankL fun i => (first + i * leap) % size) n.toNat js) (hE : PassesOwn (model PySem.Challenge.rw_pe0247_01.row.prog w) (ktrTop dp un gd "law" (defScope lawDef) L fa (.ref 131) [("colours", cC), ("hues", cH), ("first", cF), ("leap", cL), ("size", cS)] outer) (envX "law" (defScope lawDef) L fa (.ref 131) [("colours", cC), ("hues", cH), ("first", cF), ("leap", cL), ("size", cS)]) E)
    (ret : ∀ m' h' tk ps' qs' more, Fr h₀ L h' m' → (∀ z : Str, z ≠ "short" → z ≠ "upto" → m' z = kstB u [("given", .ref lg), ("count", .int n tn), ("by_value", .ref kv), ("by_light", .ref kl), ("row", .ref lr), ("other", .ref lo), ("whole", .int W tw), ("mark", .int mark tm)] z) → News h₀ L h' ((30, tabObj ps') :: (37, tabObj qs') :: (more ++ rest)) → TabSt 32 4 qualA ps' (more ++ rest) → TabSt 47 4 qualB qs' (more ++ rest) → (∀ q ∈ more ++ rest, q.1 ≠ 30) → (∀ q ∈ more ++ rest, q.1 ≠ 37) → Q .next { s with heap := h', toks := tk }) :
    wpAny (model PySem.Challenge.rw_pe0247_01.row.prog w) (ktrTop dp un gd "law" (defScope lawDef) L fa (.ref 131) [("colours", cC), ("hues", cH), ("first", cF), ("leap", cL), ("size", cS)] outer) (execs (forBody (lawAt 17)) (envX "law" (defScope lawDef) L fa (.ref 131) [("colours", cC), ("hues", cH), ("first", cF), ("leap", cL), ("size", cS)])) Q E s := by
  have es : defScope lawDef = defScope lawDef := rfl
  conv at es => rhs; whnf
  rw [es] at hE
  have eb : forBody (lawAt 17) = forBody (lawAt 17) := rfl
  conv at eb => rhs; whnf
  rw [eb, es]
  clear eb es
  dsimp only [kstB] at F
  revert X; k_fill; intro X
  have hhvl := hhv.length
  (with_reducible show wpAny _ _ (execs _ _) _ _ _)
  k_steps
  unfold Stop
  (with_reducible show wpAny _ _ (call (Value.ref _) _) _ _ _)
  refine' floors_back (news := rest) _ _ _ _ _ _ _ _ ps qs ?B ?F ?X ?N ?T rfl CA CB hnA hnB hsA hsB ?hdp ?hun ?c0 ?c1 ?s0 ?s1 ?l0 ?l1 ?f0 ?f1 ?_
  case B => k_asm
  case F => k_asm
  case X => k_asm
  case N => k_asm
  case T => k_asm
  case hdp => first | (first | lia | omega) | (dsimp only [ktrTop, Around.deeper]; (first | lia | omega))
  case hun => first | (first | lia | omega) | (dsimp only [ktrTop, Around.deeper]; (first | lia | omega))
  case c0 => (first | lia | omega)
  case c1 => (first | lia | omega)
  case s0 => (first | lia | omega)
  case s1 => (first | lia | omega)
  case l0 => (first | lia | omega)
  case l1 => (first | lia | omega)
  case f0 => (first | lia | omega)
  case f1 => (first | lia | omega)
  intro t1 ps1 qs1 more1 h1 tk1 F1 N1 sA1 sB1 nA1 nB1
  (try dsimp only)
  have mS := List.mem_append_right more1 mS
  have mL := List.mem_append_right more1 mL
  have mF := List.mem_append_right more1 mF
  have mH := List.mem_append_right more1 mH
  have mlh := List.mem_append_right more1 mlh
  have mlg := List.mem_append_right more1 mlg
  have mlr := List.mem_append_right more1 mlr
  have mlo := List.mem_append_right more1 mlo
  have mkv := List.mem_append_right more1 mkv
  have mkl := List.mem_append_right more1 mkl
  have hsub := fun q hq => List.mem_append_right more1 (hsub q hq)
  k_steps
  obtain ⟨mm, hmm⟩ : ∃ mm : Int, mm = if size < mark + 1 then size else mark + 1 := ⟨_, rfl⟩
  have hmm0 : 0 ≤ mm ∧ mm ≤ size := by rw [hmm]; split <;> (first | lia | omega)
  rw [← hmm]
  unfold Stop
  (with_reducible show wpAny _ _ (call (Value.ref _) _) _ _ _)
  refine' floors_back (news := more1 ++ rest) _ _ _ _ _ _ _ _ ps1 qs1 ?B ?F ?X ?N ?T rfl CA CB nA1 nB1 sA1 sB1 ?hdp ?hun ?c0 ?c1 ?s0 ?s1 ?l0 ?l1 ?f0 ?f1 ?_
  case B => k_asm
  case F => k_asm
  case X => k_asm
  case N => k_asm
  case T => k_asm
  case hdp => first | (first | lia | omega) | (dsimp only [ktrTop, Around.deeper]; (first | lia | omega))
  case hun => first | (first | lia | omega) | (dsimp only [ktrTop, Around.deeper]; (first | lia | omega))
  case c0 => (first | lia | omega)
  case c1 => (first | lia | omega)
  case s0 => (first | lia | omega)
  case s1 => (first | lia | omega)
  case l0 => (first | lia | omega)
  case l1 => (first | lia | omega)
  case f0 => (first | lia | omega)
  case f1 => (first | lia | omega)
  intro t2 ps2 qs2 more2 h2 tk2 F2 N2 sA2 sB2 nA2 nB2
  (try dsimp only)
  have mS := List.mem_append_right more2 mS
  have mL := List.mem_append_right more2 mL
  have mF := List.mem_append_right more2 mF
  have mH := List.mem_append_right more2 mH
  have mlh := List.mem_append_right more2 mlh
  have mlg := List.mem_append_right more2 mlg
  have mlr := List.mem_append_right more2 mlr
  have mlo := List.mem_append_right more2 mlo
  have mkv := List.mem_append_right more2 mkv
  have mkl := List.mem_append_right more2 mkl
  have hsub := fun q hq => List.mem_append_right more2 (hsub q hq)
  have hso : 0 < size := by (first | lia | omega)
  have hnn : (n.toNat : Int) = n := Int.toNat_of_nonneg (by (first | lia | omega))
  have fR := rowFacts hrow hso hc0 hhue hW (fun i j h1 h2 => hrow.hueR (by (first | lia | omega)) h1 h2)
  have fL := rowFacts hoth hso hc0 hhue hW (fun i j h1 h2 => hoth.hueL (by (first | lia | omega)) h1 h2)
  have hX : (mark * c).natAbs < 2 ^ 53 := mark_abs (by (first | lia | omega)) (by (first | lia | omega)) hc0 hc1
  have hhb : ∀ i, 0 ≤ i → i < n → (hue i).natAbs < 2 ^ 53 := fun i _ _ => by
    rw [hhue]; exact mark_abs (Int.emod_nonneg _ (by (first | lia | omega))) (by have := Int.emod_lt_of_pos (first + i * leap) hso; (first | lia | omega)) hc0 hc1
  have b1 := full_bounds (n := n.toNat) hso hW hm0 hm1
  have b2 := full_bounds (n := n.toNat) hso hW hmm0.1 hmm0.2
  rw [hnn] at b1 b2
  have hpl := place_fx (a := mark) hm0 (by (first | lia | omega)) hz0 hz1 hc hc1 hc0
  have lR := fR.len
  have lL := fL.len
  have mR : ∀ i ∈ is, 0 ≤ i ∧ i < n := fun i hi => by have := fR.mem i hi; (first | lia | omega)
  have mL : ∀ i ∈ js, 0 ≤ i ∧ i < n := fun i hi => by have := fL.mem i hi; (first | lia | omega)
  k_steps
  unfold Stop
  (with_reducible show wpAny _ _ (call (Value.ref _) _ _) _ _ _)
  rw [hpl]
  refine' bisL_b (led := led) lr kv (mark * c) n hue rvs is kr _ 0 0 ?B ?F ?X ?N ?T rfl ?hkf ?hsub hkv ?hal hrv (by (first | lia | omega)) mR hX hhb ?hsort ?hdp ?hun ?_
  case B => k_asm
  case F => k_asm
  case X => k_asm
  case N => k_asm
  case T => k_asm
  case hkf => exact List.mem_cons_of_mem _ (List.mem_cons_of_mem _ mkv)
  case hsub => exact fun q hq => List.mem_cons_of_mem _ (List.mem_cons_of_mem _ (hsub q hq))
  case hal => exact List.mem_cons_of_mem _ (List.mem_cons_of_mem _ mlr)
  case hsort => exact fun i j h1 h2 => fR.sort i j h1 (by (first | lia | omega))
  case hdp => (first | lia | omega)
  case hun => (first | lia | omega)
  intro r1 tr1 hr1 tkr1 q1 p1 w1 v1 F1 N1
  have e1 := fR.lt mark 0 n r1 hm0 hm1 (by decide) (by (first | lia | omega)) (by (first | lia | omega)) q1 (by (first | lia | omega)) w1 (fun j h1 h2 => v1 j h1 (by (first | lia | omega)))
  have e1' : r1 = W - fsum size leap (first - mark) n.toNat := by (first | lia | omega)
  subst e1'
  clear e1
  (try dsimp only)
  k_steps
  · exfalso; (first | lia | omega)
  unfold Stop
  (with_reducible show wpAny _ _ (call (Value.ref _) _ _) _ _ _)
  rw [hpl]
  refine' bisR_b (led := led) lo kl (mark * c) n hue ovs js ko _ 0 0 ?B ?F ?X ?N ?T rfl ?hkf ?hsub hkl ?hal hov (by (first | lia | omega)) mL hX hhb ?hsort ?hdp ?hun ?_
  case B => k_asm
  case F => k_asm
  case X => k_asm
  case N => k_asm
  case T => k_asm
  case hkf => exact List.mem_cons_of_mem _ (List.mem_cons_of_mem _ mkl)
  case hsub => exact fun q hq => List.mem_cons_of_mem _ (List.mem_cons_of_mem _ (hsub q hq))
  case hal => exact List.mem_cons_of_mem _ (List.mem_cons_of_mem _ mlo)
  case hsort => exact fun i j h1 h2 => fL.sort i j h1 (by (first | lia | omega))
  case hdp => (first | lia | omega)
  case hun => (first | lia | omega)
  intro r2 tr2 hr2 tkr2 q2 p2 w2 v2 F2 N2
  have e2 := fL.le mark mm 0 n r2 hm0 hm1 hmm (by decide) (by (first | lia | omega)) (by (first | lia | omega)) q2 (by (first | lia | omega)) w2 (fun j h1 h2 => v2 j h1 (by (first | lia | omega)))
  have e2' : r2 = W - fsum size leap (first - mm) n.toNat := by (first | lia | omega)
  subst e2'
  clear e2
  (try dsimp only)
  k_steps
  · exfalso; (first | lia | omega)
  unfold Stop
  (with_reducible show wpAny _ _ (call (Value.ref _) _ _) _ _ _)
  rw [hpl]
  refine' bisL_c (led := led) lo kl (mark * c) n 1 (n - 1) hue ovs js ko _ _ _ ?B ?F ?X ?N ?T rfl ?hkf ?hsub hkl ?hal hov (by (first | lia | omega)) mL hX hhb (by decide) (by (first | lia | omega)) (by (first | lia | omega)) ?hsort ?hdp ?hun ?_
  case B => k_asm
  case F => k_asm
  case X => k_asm
  case N => k_asm
  case T => k_asm
  case hkf => exact List.mem_cons_of_mem _ (List.mem_cons_of_mem _ mkl)
  case hsub => exact fun q hq => List.mem_cons_of_mem _ (List.mem_cons_of_mem _ (hsub q hq))
  case hal => exact List.mem_cons_of_mem _ (List.mem_cons_of_mem _ mlo)
  case hsort => exact fun i j h1 h2 => fL.sort i j h1 (by (first | lia | omega))
  case hdp => (first | lia | omega)
  case hun => (first | lia | omega)
  intro r3 tr3 hr3 tkr3 q3 p3 w3 v3 F3 N3
  have e3 := fL.lt mark 1 (n - 1) r3 hm0 hm1 (by decide) (by (first | lia | omega)) (by (first | lia | omega)) q3 (by (first | lia | omega)) w3 v3
  (try dsimp only)
  k_steps
  · exfalso; (first | lia | omega)
  unfold Stop
  (with_reducible show wpAny _ _ (call (Value.ref _) _ _) _ _ _)
  rw [hpl]
  refine' bisR_c (led := led) lr kv (mark * c) n 1 (n - 1) hue rvs is kr _ _ _ ?B ?F ?X ?N ?T rfl ?hkf ?hsub hkv ?hal hrv (by (first | lia | omega)) mR hX hhb (by decide) (by (first | lia | omega)) (by (first | lia | omega)) ?hsort ?hdp ?hun ?_
  case B => k_asm
  case F => k_asm
  case X => k_asm
  case N => k_asm
  case T => k_asm
  case hkf => exact List.mem_cons_of_mem _ (List.mem_cons_of_mem _ mkv)
  case hsub => exact fun q hq => List.mem_cons_of_mem _ (List.mem_cons_of_mem _ (hsub q hq))
  case hal => exact List.mem_cons_of_mem _ (List.mem_cons_of_mem _ mlr)
  case hsort => exact fun i j h1 h2 => fR.sort i j h1 (by (first | lia | omega))
  case hdp => (first | lia | omega)
  case hun => (first | lia | omega)
  intro r4 tr4 hr4 tkr4 q4 p4 w4 v4 F4 N4
  have e4 := fR.le mark mm 1 (n - 1) r4 hm0 hm1 hmm (by decide) (by (first | lia | omega)) (by (first | lia | omega)) q4 (by (first | lia | omega)) w4 v4
  (try dsimp only)
  k_steps
  · exfalso; (first | lia | omega)
  have ass : more2 ++ (more1 ++ rest) = (more2 ++ more1) ++ rest := by simp
  rw [ass] at sA2 sB2 nA2 nB2
  refine' ret _ _ _ ps2 qs2 (more2 ++ more1) ?F ?hz ?N sA2 sB2 nA2 nB2
  case F => assumption
  case N => rw [← ass]; assumption
  case hz =>
    intro z z1 z2
    simp only [kstB, z1, z2, if_false]
end
end

section
open PySem PySem.W PyProof.Rows PySem.Spec PySem.Calls
set_option Elab.async false
set_option maxRecDepth 100000
set_option maxHeartbeats 8000000
local macro_rules | `(tactic| walk_at "call ref") => `(tactic| (refine stop_of ?_))
local macro_rules | `(tactic| walk_at "pyIter ref") => `(tactic| (refine stop_of ?_))
local macro_rules | `(tactic| walk_at "exec For") => `(tactic| (refine stop_of ?_))
structure MkS where
  ps : Array Value
  qs : Array Value
  more : List (Addr × Obj)
theorem TabSt.keep {line col : Nat} {qual : Str} {ps : Array Value} {l l' : List (Addr × Obj)} (h : TabSt line col qual ps l) (hk : ∀ q ∈ l, (∃ cvs, q.2.data = .fields cvs ∧ ∃ s t, cvs[1]? = some (.str s t)) → q ∈ l') : TabSt line col qual ps l' :=
  h.imp id fun ⟨c', oc, cvs, tq, h1, h2, h3, h4⟩ => ⟨c', oc, cvs, tq, h1, hk _ h2 ⟨cvs, h3, _, _, h4⟩, h3, h4⟩
structure MkInv (rest : List (Addr × Obj)) (c : MkS) : Prop where
  sA : TabSt 32 4 qualA c.ps (c.more ++ rest)
  sB : TabSt 47 4 qualB c.qs (c.more ++ rest)
  nA : ∀ q ∈ c.more ++ rest, q.1 ≠ 30
  nB : ∀ q ∈ c.more ++ rest, q.1 ≠ 37
theorem marks_in {a k : Int} {l : List Int} (hk : 0 < k) (ha : 0 ≤ a ∧ a ≤ k - 1) : ∀ x ∈ [a] ++ l.map (fun x => x.fmod k), 0 ≤ x ∧ x ≤ k - 1 := by
  intro x hx
  rcases List.mem_append.mp hx with h | h
  · rw [List.mem_singleton.mp h]; exact ha
  · obtain ⟨y, _, rfl⟩ := List.mem_map.mp h
    rw [Int.fmod_eq_emod_of_nonneg _ (Int.le_of_lt hk)]
    have := Int.emod_nonneg y (Int.ne_of_gt hk)
    have := Int.emod_lt_of_pos y hk
    omega
theorem comp_ints {ys : List Value} {f : Int → Int} {l : List Int} (h : CarriedAll ys (List.map (fun a => PyData.int (f a)) (List.filter (fun _ => true) l))) : IntsAre ys (l.map f) := by
  refine IntsAre.ofCarried ?_
  have e : List.map PyData.int (l.map f) = List.map (fun a => PyData.int (f a)) (List.filter (fun _ => true) l) := by
    rw [List.map_map]
    have : List.filter (fun _ => true) l = l := List.filter_eq_self.mpr fun _ _ => rfl
    rw [this]; rfl
  rw [e]; exact h
section
variable {w : World} {p : Program} {loose : List Str} {mean : ExcName → Option Value} {mg mb : Str → Option Value} {dp un : Nat} {gd : Option (List Code)} {outer : List Env} {A₀ : Around} {base h₀ : Heap} {L fa : Addr} {m : Str → Option Value} {news led : List (Addr × Obj)} {s : Shared}
    {Q : Flow → Shared → Prop} {E : Value → Shared → Prop}
theorem law17 (kv kl lr lo lg lh cS cL cF cH cC : Addr) (n size leap first W : Int) (tn tw tS tL tF : Tok) (oS oL oF oH : Obj) (hue : Int → Int) (hvs gvs rvs ovs : List Value) (hs gs is js : List Int) (kh kg kr ko : Nat) (ps qs : Array Value) (rest : List (Addr × Obj)) (u : Str → Option Value)
    {koc koc' : Value} {kod kod' : Option Addr} {kfd kfd' : FuncData} {ksl ksl' : Array (Option Value)}
    (B : Below A₀ base outer h₀) (X : (hd.heap_39 w.params).In h₀) (T : Top p loose mean mg mb h₀) (CA : CodeHd base 34 30) (CB : CodeHd base 41 37)
    (F : Fr h₀ L s.heap (kstB u [("given", .ref lg), ("count", .int n tn), ("by_value", .ref kv), ("by_light", .ref kl), ("row", .ref lr), ("other", .ref lo), ("whole", .int W tw)])) (N : News h₀ L s.heap ((30, tabObj ps) :: (37, tabObj qs) :: rest))
    (hnA : ∀ q ∈ rest, q.1 ≠ 30) (hnB : ∀ q ∈ rest, q.1 ≠ 37) (hsA : TabSt 32 4 qualA ps rest) (hsB : TabSt 47 4 qualB qs rest) (hG : ∃ rs, (129, tabObj rs) ∈ rest)
    (mS : (cS, oS) ∈ rest) (dS : oS.data = .cell (some (.int size tS))) (mL : (cL, oL) ∈ rest) (dL : oL.data = .cell (some (.int leap tL))) (mF : (cF, oF) ∈ rest) (dF : oF.data = .cell (some (.int first tF))) (mH : (cH, oH) ∈ rest) (dH : oH.data = .cell (some (.ref lh)))
    (mlh : (lh, listOf hvs.toArray kh) ∈ rest) (hhv : IntsAre hvs hs) (mlg : (lg, listOf gvs.toArray kg) ∈ rest) (hgv : IntsAre gvs gs) (mlr : (lr, listOf rvs.toArray kr) ∈ rest) (hrv : IntsAre rvs is) (mlo : (lo, listOf ovs.toArray ko) ∈ rest) (hov : IntsAre ovs js)
    (mkv : (kv, (⟨koc, kod, .func kfd, ksl⟩ : Obj)) ∈ rest) (mkl : (kl, (⟨koc', kod', .func kfd', ksl'⟩ : Obj)) ∈ rest) (hsub : ∀ q ∈ led, q ∈ rest) (hkv : KeyOK w p loose mean mg mb led kv n hue) (hkl : KeyOK w p loose mean mg mb led kl n hue)
    (hn0 : 4 ≤ n) (hn1 : n ≤ 8) (hz0 : 8 ≤ size) (hz1 : size ≤ 1024) (hl0 : 0 ≤ leap) (hl1 : leap < 3 * size) (hf0 : 0 ≤ first) (hf1 : first < 3 * size) (hdp : dp + 120 < recursionLimit) (hun : un + 1200 < cLine)
    (hhl : hs.length = n.toNat) (hgl : gs.length ≤ 5) (hh1 : 0 ≤ hs.getD 1 0 ∧ hs.getD 1 0 ≤ size + 1 - 1) {c : Int} (hc : size * c = 2 ^ 20) (hc0 : 0 < c) (hc1 : c ≤ 2 ^ 17) (hW : W = fsum size leap first n.toNat) (hhue : ∀ i, hue i = ((first + i * leap) % size) * c)
    (hrow : RowOf (rankR fun i => (first + i * leap) % size) n.toNat is) (hoth : RowOf (rankL fun i => (first + i * leap) % size) n.toNat js) (hE : PassesOwn (model PySem.Challenge.rw_pe0247_01.row.prog w) (ktrTop dp un gd "law" (defScope lawDef) L fa (.ref 131) [("colours", cC), ("hues", cH), ("first", cF), ("leap", cL), ("size", cS)] outer) (envX "law" (defScope lawDef) L fa (.ref 131) [("colours", cC), ("hues", cH), ("first", cF), ("leap", cL), ("size", cS)]) E)
    (ret : ∀ m' h' tk news', Fr h₀ L h' m' → News h₀ L h' news' → GrownAt 30 h' → GrownAt 37 h' → GrownAt 129 h' → Q (.ret (.bool true)) { s with heap := h', toks := tk }) :
    wpAny (model PySem.Challenge.rw_pe0247_01.row.prog w) (ktrTop dp un gd "law" (defScope lawDef) L fa (.ref 131) [("colours", cC), ("hues", cH), ("first", cF), ("leap", cL), ("size", cS)] outer) (execs ((defBody lawDef).drop 17) (envX "law" (defScope lawDef) L fa (.ref 131) [("colours", cC), ("hues", cH), ("first", cF), ("leap", cL), ("size", cS)])) Q E s := by
  have es : defScope lawDef = defScope lawDef := rfl
  conv at es => rhs; whnf
  rw [es] at hE
  have eb : (defBody lawDef).drop 17 = (defBody lawDef).drop 17 := rfl
  conv at eb => rhs; whnf
  have es : defScope lawDef = defScope lawDef := rfl
  conv at es => rhs; whnf
  rw [eb, es]
  clear eb es
  dsimp only [kstB] at F
  revert X; k_fill; intro X
  have hhvl := hhv.length
  (with_reducible show wpAny _ _ (execs _ _) _ _ _)
  (try k_fold)
  k_steps
  unfold Stop
  (with_reducible show wpAny _ _ (exec _ _) _ _ _)
  refine For_invV h₀ rfl rfl ?_ (fun _ => rfl) hE
  k_steps
  all_goals (try k_data)
  (with_reducible show wpAny _ _ (binaryOp _ (Value.ref _) (Value.ref _)) _ _ _)
  have hci := comp_ints (by assumption : CarriedAll _ _)
  refine' kmk_add_ints (vs := [_]) (ns := [hs.getD 1 0]) ?F ?N ?a ?b ?i hci ?_ ?z
  case F => assumption
  case N => assumption
  case a => exact News.isList (by assumption) (List.mem_cons_of_mem _ (List.mem_cons_self ..))
  case b => assumption
  case i => exact .cons _ _ .nil
  case z => (simp only [List.length_cons, List.length_nil, List.length_map, List.length_drop, PySem.sizeLine_eq]; omega)
  intro D5 us5 h5 F5 N5 l5 hu5
  (try dsimp only)
  k_steps
  unfold Stop
  (with_reducible show wpAny _ _ (pyIter _) _ _ _)
  have hul := hu5.length
  refine' for_list (σ := MkS) (fun c => (D5, listOf us5.toArray 0) :: (30, tabObj c.ps) :: (37, tabObj c.qs) :: (c.more ++ rest)) (fun _ => [("given", .ref lg), ("count", .int n tn), ("by_value", .ref kv), ("by_light", .ref kl), ("row", .ref lr), ("other", .ref lo), ("whole", .int W tw)]) ["short", "upto"] (fun _ => MkInv rest) ⟨ps, qs, []⟩ ?hh ?F ?N ?hm ?hc ?hd ?hk ?h0 ?turn ?done
  case hh => exact rfl
  case F => assumption
  case N => exact cb_drop (by assumption) (by repeat' (first | exact List.forall_mem_nil _ | refine sub_cons (by k_mem) ?_ | (intro q hq; (repeat (first | exact hq | refine List.mem_cons_of_mem _ ?_)); done)))
  case hm => exact fun c => List.mem_cons_self ..
  case hc => exact rfl
  case hd => exact rfl
  case hk => (repeat' (first | exact List.forall_mem_nil _ | refine all_cons (by rfl) ?_))
  case h0 => exact ⟨hsA, hsB, hnA, hnB⟩
  case turn =>
    intro i v c2 u2 h2 tk2 I oI hv hI hoff hI0 hoI F2 N2
    obtain ⟨mk, tm, rfl, hmk⟩ := hu5.at i v hv
    have hmb := marks_in (by omega : 0 < size + 1) hh1 mk (List.mem_of_getElem? hmk)
    have hI30 : ¬ I = 30 := fun e => hoff (30, tabObj c2.ps) (by simp) e.symm
    have hI37 : ¬ I = 37 := fun e => hoff (37, tabObj c2.qs) (by simp) e.symm
    have hD30 : ¬ D5 = 30 := Nat.ne_of_gt (l5 (30, tabObj ps) (by simp))
    have hD37 : ¬ D5 = 37 := Nat.ne_of_gt (l5 (37, tabObj qs) (by simp))
    have sub : ∀ q ∈ c2.more ++ rest, q ∈ (I, oI) :: (D5, listOf us5.toArray 0) :: (c2.more ++ rest) := fun q hq => List.mem_cons_of_mem _ (List.mem_cons_of_mem _ hq)
    have sub2 : ∀ q ∈ rest, q ∈ (I, oI) :: (D5, listOf us5.toArray 0) :: (c2.more ++ rest) := fun q hq => sub q (List.mem_append_right _ hq)
    refine' mark_turn (led := led) kv kl lr lo lg lh cS cL cF cH cC n size leap first W mk c tm tn tw tS tL tF oS oL oF oH hue hvs gvs rvs ovs hs gs is js kh kg kr ko c2.ps c2.qs ((I, oI) :: (D5, listOf us5.toArray 0) :: (c2.more ++ rest)) _ B X T CA CB (fr_kst F2 ?FF) (cb_drop N2 ?Ns) ?nA ?nB (hI.sA.mono sub) (hI.sB.mono sub) (hG.imp fun _ h => sub2 (129, tabObj _) h)
      (sub2 _ mS) dS (sub2 _ mL) dL (sub2 _ mF) dF (sub2 _ mH) dH (sub2 _ mlh) hhv (sub2 _ mlg) hgv (sub2 _ mlr) hrv (sub2 _ mlo) hov (sub2 _ mkv) (sub2 _ mkl) (fun q hq => sub2 q (hsub q hq)) hkv hkl hn0 hn1 hz0 hz1 hl0 hl1 hf0 hf1 hdp hun
      hmb.1 (by omega) hc hc0 hc1 hW hhue hrow hoth hE ?_
    case FF => (repeat' (first | exact List.forall_mem_nil _ | refine all_cons (by rfl) ?_))
    case Ns =>
      (repeat' (first | exact List.forall_mem_nil _ | refine sub_cons (by k_mem) ?_ | (intro q hq; (repeat (first | exact hq | refine List.mem_cons_of_mem _ ?_)); done)))
    case nA => exact List.forall_mem_cons.mpr ⟨hI30, List.forall_mem_cons.mpr ⟨hD30, hI.nA⟩⟩
    case nB => exact List.forall_mem_cons.mpr ⟨hI37, List.forall_mem_cons.mpr ⟨hD37, hI.nB⟩⟩
    intro m3 h3 tk3 ps3 qs3 more3 F3 hz3 N3 sA3 sB3 nA3 nB3
    refine' for_end (x := "mark") (MkS.mk ps3 qs3 ((more3 ++ ((D5, listOf us5.toArray 0) :: c2.more)).filter fun q => decide (q.1 ≠ I))) F3 N3 ?hn ?ho ?hk ?hr ?hp
    case hn =>
      refine sub_cons (List.mem_cons_of_mem _ (List.mem_cons_of_mem _ (List.mem_append_right _ (List.mem_cons_self ..)))) (sub_cons (List.mem_cons_of_mem _ (List.mem_cons_of_mem _ (List.mem_append_right _ (List.mem_cons_of_mem _ (List.mem_cons_self ..))))) (sub_cons (by k_mem) (sub_cons (by k_mem) fun q hq => ?_)))
      refine List.mem_cons_of_mem _ (List.mem_cons_of_mem _ ?_)
      rcases List.mem_append.mp hq with h | h
      · rcases List.mem_append.mp (List.mem_filter.mp h).1 with h | h
        · exact List.mem_append_left _ h
        · refine List.mem_append_right _ (List.mem_cons_of_mem _ ?_)
          rcases List.mem_cons.mp h with h | h
          · exact h ▸ List.mem_cons_self ..
          · exact List.mem_cons_of_mem _ (List.mem_append_left _ h)
      · exact List.mem_append_right _ (List.mem_cons_of_mem _ (List.mem_cons_of_mem _ (List.mem_append_right _ h)))
    case ho =>
      refine List.forall_mem_cons.mpr ⟨hoff _ (List.mem_cons_self ..), List.forall_mem_cons.mpr ⟨hoff (30, tabObj c2.ps) (by simp), List.forall_mem_cons.mpr ⟨hoff (37, tabObj c2.qs) (by simp), fun q hq => ?_⟩⟩⟩
      rcases List.mem_append.mp hq with hq | hq
      · exact of_decide_eq_true (List.mem_filter.mp hq).2
      · exact hoff q (by simp [hq])
    case hk =>
      intro q hq
      simp only [List.mem_cons, List.not_mem_nil, or_false] at hq
      rcases hq with rfl | rfl | rfl | rfl | rfl | rfl | rfl <;> exact (hz3 _ (by dsimp only; decide) (by dsimp only; decide)).trans rfl
    case hr =>
      intro z z1 z2 z3
      simp only [List.forall_mem_cons, List.not_mem_nil, false_implies, implies_true, and_true, ne_eq] at z2
      simp only [List.contains_cons, List.contains_nil, Bool.or_false, Bool.or_eq_false_iff, beq_eq_false_iff_ne, ne_eq] at z3
      rw [hz3 z z3.1 z3.2]
      simp [kstB, z1, z2, z3]
    case hp =>
      have keep : ∀ q ∈ more3 ++ ((I, oI) :: (D5, listOf us5.toArray 0) :: (c2.more ++ rest)), (∃ cvs, q.2.data = .fields cvs ∧ ∃ s t, cvs[1]? = some (.str s t)) → q ∈ ((more3 ++ ((D5, listOf us5.toArray 0) :: c2.more)).filter fun q => decide (q.1 ≠ I)) ++ rest := by
        rintro q hq ⟨cvs, hd, s9, t9, hs9⟩
        by_cases e : q.1 = I
        · exfalso
          have a1 := (N3 q (by simp only [List.mem_cons]; exact .inr (.inr hq))).1
          have a2 := (N3 (I, oI) (by simp)).1
          rw [e, a2] at a1
          have a3 := Option.some.inj a1
          obtain ⟨l9, k9, hk9⟩ := hoI
          rw [← a3, hk9] at hd
          cases hd
          cases hs9
        · have hdec : decide (q.1 ≠ I) = true := decide_eq_true e
          simp only [List.mem_append, List.mem_filter, List.mem_cons] at hq ⊢
          rcases hq with h | h | h | h | h
          · exact .inl ⟨.inl h, hdec⟩
          · exact absurd (by rw [h]) e
          · exact .inl ⟨.inr (.inl h), hdec⟩
          · exact .inl ⟨.inr (.inr h), hdec⟩
          · exact .inr h
      have back : ∀ q ∈ ((more3 ++ ((D5, listOf us5.toArray 0) :: c2.more)).filter fun q => decide (q.1 ≠ I)) ++ rest, q ∈ more3 ++ ((I, oI) :: (D5, listOf us5.toArray 0) :: (c2.more ++ rest)) := by
        intro q hq
        rcases List.mem_append.mp hq with h | h
        · rcases List.mem_append.mp (List.mem_filter.mp h).1 with h | h
          · exact List.mem_append_left _ h
          · refine List.mem_append_right _ (List.mem_cons_of_mem _ ?_)
            rcases List.mem_cons.mp h with h | h
            · exact h ▸ List.mem_cons_self ..
            · exact List.mem_cons_of_mem _ (List.mem_append_left _ h)
        · exact List.mem_append_right _ (List.mem_cons_of_mem _ (List.mem_cons_of_mem _ (List.mem_append_right _ h)))
      exact ⟨sA3.keep keep, sB3.keep keep, fun q hq => nA3 q (back q hq), fun q hq => nB3 q (back q hq)⟩
  case done =>
    intro c2 u2 h2 tk2 hI F2 N2
    dsimp only [kstB] at F2
    (try dsimp only)
    k_steps
    obtain ⟨rs9, hG9⟩ := hG
    exact ret _ _ _ _ F2 N2 (GrownAt.of N2 (List.mem_cons_of_mem _ (List.mem_cons_self ..))) (GrownAt.of N2 (List.mem_cons_of_mem _ (List.mem_cons_of_mem _ (List.mem_cons_self ..)))) (GrownAt.of N2 (List.mem_cons_of_mem _ (List.mem_cons_of_mem _ (List.mem_cons_of_mem _ (List.mem_append_right _ hG9)))))
end
end

section
open PySem PySem.W PyProof.Rows PySem.Spec PySem.Calls
set_option Elab.async false
set_option maxRecDepth 100000
set_option maxHeartbeats 8000000
/-- a second word that no line takes -/
def Cut (P : Prop) : Prop := P
theorem execs_cut {M : Model} {A : Around} {env : Env} {a b : List Stmt} {Q : Flow → Shared → Prop} {E : Value → Shared → Prop} {s : Shared} (h : wpAny M A (execs a env) (fun f s' => match f with | .next => Cut (wpAny M A (execs b env) Q E s') | f => Q f s') E s) :
    wpAny M A (execs (a ++ b) env) Q E s := execs_app h
local macro_rules | `(tactic| walk_at "call ref") => `(tactic| (refine stop_of ?_))
section
variable {w : World} {p : Program} {loose : List Str} {mean : ExcName → Option Value} {mg mb : Str → Option Value} {dp un : Nat} {gd : Option (List Code)} {outer : List Env} {A₀ : Around} {base h₀ : Heap} {L fa : Addr} {m : Str → Option Value} {news led : List (Addr × Obj)} {s : Shared}
    {Q : Flow → Shared → Prop} {E : Value → Shared → Prop}
theorem law16 (kv kl lr lo lg lh cS cL cF cH cC : Addr) (n size leap first : Int) (tn tS tL tF : Tok) (oS oL oF oH : Obj) (hue : Int → Int) (hvs gvs rvs ovs : List Value) (hs gs is js : List Int) (kh kg kr ko : Nat) (ps qs : Array Value) (rest : List (Addr × Obj)) (u : Str → Option Value)
    {koc koc' : Value} {kod kod' : Option Addr} {kfd kfd' : FuncData} {ksl ksl' : Array (Option Value)}
    (B : Below A₀ base outer h₀) (X : (hd.heap_39 w.params).In h₀) (T : Top p loose mean mg mb h₀) (CA : CodeHd base 34 30) (CB : CodeHd base 41 37)
    (F : Fr h₀ L s.heap (kstB u [("given", .ref lg), ("count", .int n tn), ("by_value", .ref kv), ("by_light", .ref kl), ("row", .ref lr), ("other", .ref lo)])) (N : News h₀ L s.heap ((30, tabObj ps) :: (37, tabObj qs) :: rest))
    (hnA : ∀ q ∈ rest, q.1 ≠ 30) (hnB : ∀ q ∈ rest, q.1 ≠ 37) (hsA : TabSt 32 4 qualA ps rest) (hsB : TabSt 47 4 qualB qs rest) (hG : ∃ rs, (129, tabObj rs) ∈ rest)
    (mS : (cS, oS) ∈ rest) (dS : oS.data = .cell (some (.int size tS))) (mL : (cL, oL) ∈ rest) (dL : oL.data = .cell (some (.int leap tL))) (mF : (cF, oF) ∈ rest) (dF : oF.data = .cell (some (.int first tF))) (mH : (cH, oH) ∈ rest) (dH : oH.data = .cell (some (.ref lh)))
    (mlh : (lh, listOf hvs.toArray kh) ∈ rest) (hhv : IntsAre hvs hs) (mlg : (lg, listOf gvs.toArray kg) ∈ rest) (hgv : IntsAre gvs gs) (mlr : (lr, listOf rvs.toArray kr) ∈ rest) (hrv : IntsAre rvs is) (mlo : (lo, listOf ovs.toArray ko) ∈ rest) (hov : IntsAre ovs js)
    (mkv : (kv, (⟨koc, kod, .func kfd, ksl⟩ : Obj)) ∈ rest) (mkl : (kl, (⟨koc', kod', .func kfd', ksl'⟩ : Obj)) ∈ rest) (hsub : ∀ q ∈ led, q ∈ rest) (hkv : KeyOK w p loose mean mg mb led kv n hue) (hkl : KeyOK w p loose mean mg mb led kl n hue)
    (hn0 : 4 ≤ n) (hn1 : n ≤ 8) (hz0 : 8 ≤ size) (hz1 : size ≤ 1024) (hl0 : 0 ≤ leap) (hl1 : leap < 3 * size) (hf0 : 0 ≤ first) (hf1 : first < 3 * size) (hdp : dp + 120 < recursionLimit) (hun : un + 1200 < cLine)
    (hhl : hs.length = n.toNat) (hgl : gs.length ≤ 5) (hh1 : 0 ≤ hs.getD 1 0 ∧ hs.getD 1 0 ≤ size + 1 - 1) {c : Int} (hc : size * c = 2 ^ 20) (hc0 : 0 < c) (hc1 : c ≤ 2 ^ 17) (hhue : ∀ i, hue i = ((first + i * leap) % size) * c)
    (hrow : RowOf (rankR fun i => (first + i * leap) % size) n.toNat is) (hoth : RowOf (rankL fun i => (first + i * leap) % size) n.toNat js) (hE : PassesOwn (model PySem.Challenge.rw_pe0247_01.row.prog w) (ktrTop dp un gd "law" (defScope lawDef) L fa (.ref 131) [("colours", cC), ("hues", cH), ("first", cF), ("leap", cL), ("size", cS)] outer) (envX "law" (defScope lawDef) L fa (.ref 131) [("colours", cC), ("hues", cH), ("first", cF), ("leap", cL), ("size", cS)]) E)
    (ret : ∀ m' h' tk news', Fr h₀ L h' m' → News h₀ L h' news' → GrownAt 30 h' → GrownAt 37 h' → GrownAt 129 h' → Q (.ret (.bool true)) { s with heap := h', toks := tk }) :
    wpAny (model PySem.Challenge.rw_pe0247_01.row.prog w) (ktrTop dp un gd "law" (defScope lawDef) L fa (.ref 131) [("colours", cC), ("hues", cH), ("first", cF), ("leap", cL), ("size", cS)] outer) (execs ((defBody lawDef).drop 16) (envX "law" (defScope lawDef) L fa (.ref 131) [("colours", cC), ("hues", cH), ("first", cF), ("leap", cL), ("size", cS)])) Q E s := by
  have eb : (defBody lawDef).drop 16 = (defBody lawDef).drop 16 := rfl
  conv at eb => rhs; whnf
  have es : defScope lawDef = defScope lawDef := rfl
  conv at es => rhs; whnf
  rw [eb, es]
  clear eb es
  dsimp only [kstB] at F
  revert X; k_fill; intro X
  (with_reducible show wpAny _ _ (execs _ _) _ _ _)
  refine execs_cut (a := [_]) ?_
  k_steps
  unfold Stop
  (with_reducible show wpAny _ _ (call (Value.ref _) _) _ _ _)
  refine' floors_back (news := rest) _ _ _ _ _ _ _ _ ps qs ?B ?F ?X ?N ?T rfl CA CB hnA hnB hsA hsB ?hdp ?hun ?c0 ?c1 ?s0 ?s1 ?l0 ?l1 ?f0 ?f1 ?_
  case B => k_asm
  case F => k_asm
  case X => k_asm
  case N => k_asm
  case T => k_asm
  case hdp => first | omega | (dsimp only [ktrTop, Around.deeper]; omega)
  case hun => first | omega | (dsimp only [ktrTop, Around.deeper]; omega)
  case c0 => omega
  case c1 => omega
  case s0 => omega
  case s1 => omega
  case l0 => omega
  case l1 => omega
  case f0 => omega
  case f1 => omega
  intro t1 ps1 qs1 more1 h1 tk1 F1 N1 sA1 sB1 nA1 nB1
  (try dsimp only)
  k_steps
  (try dsimp only)
  unfold Cut
  have sub : ∀ q ∈ rest, q ∈ more1 ++ rest := fun q hq => List.mem_append_right _ hq
  refine' law17 (led := led) kv kl lr lo lg lh cS cL cF cH cC n size leap first _ tn _ tS tL tF oS oL oF oH hue hvs gvs rvs ovs hs gs is js kh kg kr ko ps1 qs1 (more1 ++ rest) _ B X T CA CB (fr_kst ?F ?FF) ?N nA1 nB1 sA1 sB1 (hG.imp fun _ h => List.mem_append_right _ h)
      (sub _ mS) dS (sub _ mL) dL (sub _ mF) dF (sub _ mH) dH (sub _ mlh) hhv (sub _ mlg) hgv (sub _ mlr) hrv (sub _ mlo) hov (sub _ mkv) (sub _ mkl) (fun q hq => sub q (hsub q hq)) hkv hkl hn0 hn1 hz0 hz1 hl0 hl1 hf0 hf1 hdp hun
      hhl hgl hh1 hc hc0 hc1 rfl hhue hrow hoth hE ?_
  case F => assumption
  case FF => (repeat' (first | exact List.forall_mem_nil _ | refine all_cons (by rfl) ?_))
  case N => assumption
  intro m3 h3 tk3 news3 F3 N3 G3 G4 G5
  exact ret _ _ _ _ F3 N3 G3 G4 G5
end
end

section
open PySem PySem.W PyProof.Rows PySem.Spec PySem.Calls
set_option Elab.async false
set_option maxRecDepth 100000
set_option maxHeartbeats 8000000
theorem range_small {n : Int} (h0 : 0 ≤ n) (h1 : n ≤ 64) : Builtin.Range.small 0 n 1 = true := by
  have e : Builtin.Range.rangeSize 0 n 1 = n := by
    unfold Builtin.Range.rangeSize
    simp
    (first | lia | omega)
  unfold Builtin.Range.small
  rw [e]
  simp only [Builtin.Range.rangeFitsLong, Bool.and_eq_true, Bool.or_eq_true, decide_eq_true_eq, if_pos (show (1 : Int) > 0 by decide)]
  simp
  (first | lia | omega)
theorem range_size {n : Int} (h0 : 0 ≤ n) : Builtin.Range.rangeSize 0 n 1 = ((n.toNat : Nat) : Int) := by
  unfold Builtin.Range.rangeSize
  simp
  (first | lia | omega)
def pairsTo (H : Int → Int) (sg : Int) (n : Nat) : List (Int × Int) := (upInts n).map fun a => (H a, sg * a)
theorem pairsTo_succ (H : Int → Int) (sg : Int) (n : Nat) : pairsTo H sg (n + 1) = pairsTo H sg n ++ [(H n, sg * n)] := by unfold pairsTo; rw [upInts_succ, List.map_append]; rfl
theorem pairsTo_length (H : Int → Int) (sg : Int) (n : Nat) : (pairsTo H sg n).length = n := by unfold pairsTo; rw [List.length_map, upInts_length]
theorem pairsTo_get (H : Int → Int) (sg : Int) {n i : Nat} (h : i < n) : (pairsTo H sg n).getD i (0, 0) = (H i, sg * i) := by
  unfold pairsTo upInts
  simp [List.getD_eq_getElem?_getD, h]
theorem lex_rank {a b c d : Int} (h1 : -64 < b - d) (h2 : b - d < 64) : decide (a * 64 + b < c * 64 + d) = if a = c then decide (b < d) else decide (a < c) := by
  split
  · exact decide_eq_decide.mpr (by (first | lia | omega))
  · exact decide_eq_decide.mpr (by (first | lia | omega))
structure PInv (base : List (Addr × Obj)) (H : Int → Int) (sg : Int) (i : Nat) (ys : List Value) (nw : List (Addr × Obj)) : Prop where
  ex : ∃ tl, nw = tl ++ base
  are : PairsAre nw ys (pairsTo H sg i)
local macro_rules | `(tactic| walk_at "call ref") => `(tactic| (refine stop_of ?_))
local macro_rules | `(tactic| walk_at "eval ListComp") => `(tactic| (refine stop_of ?_))
local macro_rules | `(tactic| walk_at "compareOp NotEq ref ref") => `(tactic| (refine stop_of ?_))
local macro_rules | `(tactic| walk_at "CompSrc") => `(tactic| (refine stop_of ?_))
local macro_rules | `(tactic| walk_at "SrcLP") => `(tactic| (refine stop_of ?_))
local macro_rules | `(tactic| walk_at "CompEnd") => `(tactic| (refine stop_of ?_))
local macro_rules | `(tactic| walk_at "call builtin:sorted") => `(tactic| (refine stop_of ?_))
section
variable {w : World} {p : Program} {loose : List Str} {mean : ExcName → Option Value} {mg mb : Str → Option Value} {dp un : Nat} {gd : Option (List Code)} {outer : List Env} {A₀ : Around} {base h₀ : Heap} {L fa : Addr} {m : Str → Option Value} {news led : List (Addr × Obj)} {s : Shared}
    {Q : Flow → Shared → Prop} {E : Value → Shared → Prop}
theorem law15 (kv kl lr lo lg lh cS cL cF cH cC : Addr) (n size leap first : Int) (tn tS tL tF : Tok) (oS oL oF oH : Obj) (hue : Int → Int) (hvs gvs rvs ovs : List Value) (hs gs is js : List Int) (kh kg kr ko : Nat) (ps qs : Array Value) (rest : List (Addr × Obj)) (u : Str → Option Value)
    {koc koc' : Value} {kod kod' : Option Addr} {kfd kfd' : FuncData} {ksl ksl' : Array (Option Value)}
    (B : Below A₀ base outer h₀) (X : (hd.heap_39 w.params).In h₀) (T : Top p loose mean mg mb h₀) (CA : CodeHd base 34 30) (CB : CodeHd base 41 37)
    (F : Fr h₀ L s.heap (kstB u [("given", .ref lg), ("count", .int n tn), ("by_value", .ref kv), ("by_light", .ref kl), ("row", .ref lr), ("other", .ref lo)])) (N : News h₀ L s.heap ((30, tabObj ps) :: (37, tabObj qs) :: rest))
    (hnA : ∀ q ∈ rest, q.1 ≠ 30) (hnB : ∀ q ∈ rest, q.1 ≠ 37) (hsA : TabSt 32 4 qualA ps rest) (hsB : TabSt 47 4 qualB qs rest) (hG : ∃ rs, (129, tabObj rs) ∈ rest)
    (mS : (cS, oS) ∈ rest) (dS : oS.data = .cell (some (.int size tS))) (mL : (cL, oL) ∈ rest) (dL : oL.data = .cell (some (.int leap tL))) (mF : (cF, oF) ∈ rest) (dF : oF.data = .cell (some (.int first tF))) (mH : (cH, oH) ∈ rest) (dH : oH.data = .cell (some (.ref lh)))
    (mlh : (lh, listOf hvs.toArray kh) ∈ rest) (hhv : IntsAre hvs hs) (mlg : (lg, listOf gvs.toArray kg) ∈ rest) (hgv : IntsAre gvs gs) (mlr : (lr, listOf rvs.toArray kr) ∈ rest) (hrv : IntsAre rvs is) (mlo : (lo, listOf ovs.toArray ko) ∈ rest) (hov : IntsAre ovs js)
    (mkv : (kv, (⟨koc, kod, .func kfd, ksl⟩ : Obj)) ∈ rest) (mkl : (kl, (⟨koc', kod', .func kfd', ksl'⟩ : Obj)) ∈ rest) (hsub : ∀ q ∈ led, q ∈ rest) (hkv : KeyOK w p loose mean mg mb led kv n hue) (hkl : KeyOK w p loose mean mg mb led kl n hue)
    (hn0 : 4 ≤ n) (hn1 : n ≤ 8) (hz0 : 8 ≤ size) (hz1 : size ≤ 1024) (hl0 : 0 ≤ leap) (hl1 : leap < 3 * size) (hf0 : 0 ≤ first) (hf1 : first < 3 * size) (hdp : dp + 120 < recursionLimit) (hun : un + 1200 < cLine)
    (hhs : hs = (upInts n.toNat).map fun i => (first + i * leap) % size) (hhl : hs.length = n.toNat) (hgl : gs.length ≤ 5) (hh1 : 0 ≤ hs.getD 1 0 ∧ hs.getD 1 0 ≤ size + 1 - 1) {c : Int} (hc : size * c = 2 ^ 20) (hc0 : 0 < c) (hc1 : c ≤ 2 ^ 17) (hhue : ∀ i, hue i = ((first + i * leap) % size) * c)
    (hrow : RowOf (rankR fun i => (first + i * leap) % size) n.toNat is) (hoth : RowOf (rankL fun i => (first + i * leap) % size) n.toNat js) (hE : PassesOwn (model PySem.Challenge.rw_pe0247_01.row.prog w) (ktrTop dp un gd "law" (defScope lawDef) L fa (.ref 131) [("colours", cC), ("hues", cH), ("first", cF), ("leap", cL), ("size", cS)] outer) (envX "law" (defScope lawDef) L fa (.ref 131) [("colours", cC), ("hues", cH), ("first", cF), ("leap", cL), ("size", cS)]) E)
    (ret : ∀ m' h' tk news', Fr h₀ L h' m' → News h₀ L h' news' → GrownAt 30 h' → GrownAt 37 h' → GrownAt 129 h' → Q (.ret (.bool true)) { s with heap := h', toks := tk }) :
    wpAny (model PySem.Challenge.rw_pe0247_01.row.prog w) (ktrTop dp un gd "law" (defScope lawDef) L fa (.ref 131) [("colours", cC), ("hues", cH), ("first", cF), ("leap", cL), ("size", cS)] outer) (execs ((defBody lawDef).drop 15) (envX "law" (defScope lawDef) L fa (.ref 131) [("colours", cC), ("hues", cH), ("first", cF), ("leap", cL), ("size", cS)])) Q E s := by
  have eb : (defBody lawDef).drop 15 = (defBody lawDef).drop 15 := rfl
  conv at eb => rhs; whnf
  have es : defScope lawDef = defScope lawDef := rfl
  conv at es => rhs; whnf
  rw [eb, es]
  clear eb es
  dsimp only [kstB] at F
  revert X; k_fill; intro X
  (with_reducible show wpAny _ _ (execs _ _) _ _ _)
  refine execs_cut (a := [_]) ?_
  k_steps
  unfold Stop
  (with_reducible show wpAny _ _ (eval _ _) _ _ _)
  refine LCp.ListComp_P (F₀ := by k_asm) (by with_unfolding_all rfl) (by decide) (by rfl) (by decide) (by rfl) (by rfl) (by decide) ?_
  k_steps
  unfold Stop
  (with_reducible show wpAny _ _ (eval _ _) _ _ _)
  refine LCg.ListComp_U (F₀ := by k_asm) (by with_unfolding_all rfl) (by decide) (by rfl) (by decide) (by rfl) ?_
  k_steps
  unfold Stop
  refine LCg.CompSrc.range rfl (by k_asm) (by k_asm) (by assumption) (range_small (by (first | lia | omega)) (by (first | lia | omega))) (range_size (by (first | lia | omega))) (by rw [PySem.sizeLine_eq]; (first | lia | omega)) ?_
  intro g9
  refine compRest_inv n.toNat (PInv ((30, tabObj ps) :: (37, tabObj qs) :: rest) (fun i => (first + i * leap) % size) (-1)) ?turn ?fin n.toNat 0 [] _ (by (first | lia | omega)) ⟨⟨[], rfl⟩, trivial⟩
  case turn =>
    intro i ys nw v I oI C oC D m₂ hh tk9 E' hi hI hP hC hx F9 N9 off9 ne9
    obtain ⟨t9, rfl⟩ := hP
    obtain ⟨tl, rfl⟩ := hI.ex
    have mH := List.mem_append_right tl (List.mem_cons_of_mem (30, tabObj ps) (List.mem_cons_of_mem (37, tabObj qs) mH))
    have mlh := List.mem_append_right tl (List.mem_cons_of_mem (30, tabObj ps) (List.mem_cons_of_mem (37, tabObj qs) mlh))
    have hhvl := hhv.length
    k_steps
    rename_i t8 T9 h8 F8 N8 l8
    unfold Stop
    have e1 : hs.getD (0 + (i : Int)).toNat 0 = (first + i * leap) % size := by
      have e0 : (0 + (i : Int)).toNat = i := by (first | lia | omega)
      rw [e0, hhs]
      simp [upInts, List.getD_eq_getElem?_getD, hi]
    rw [e1, (by (first | lia | omega) : -(0 + (i : Int)) = (-1) * (i : Int))] at N8
    refine' LCg.CompEnd.intro ?F N8 ((T9, tup2 ((first + i * leap) % size) ((-1) * (i : Int)) t8 tk9) :: (tl ++ ((30, tabObj ps) :: (37, tabObj qs) :: rest))) ?sub ⟨⟨Nat.ne_of_gt l8.1, Nat.ne_of_gt l8.2.1, Nat.ne_of_gt l8.2.2.1⟩, off9⟩ trivial ⟨⟨_ :: tl, rfl⟩, ?are⟩
    case F => assumption
    case sub =>
      (repeat' (first | exact List.forall_mem_nil _ | refine sub_cons (by k_mem) ?_ | (intro q hq; (repeat (first | exact hq | refine List.mem_cons_of_mem _ ?_)); done)))
    case are =>
      rw [pairsTo_succ]
      exact PairsAre.snoc (p := ((first + i * leap) % size, (-1) * (i : Int))) ⟨T9, t8, tk9, rfl, List.mem_cons_self ..⟩ (hI.are.mono fun q hq => List.mem_cons_of_mem _ hq)
  case fin =>
    intro ys nw hI
    obtain ⟨tl, rfl⟩ := hI.ex
    unfold LCg.FinE
    intro D h9 tk9 F9 N9 o9
    have hpl := pairsTo_length (fun i => (first + i * leap) % size) (-1) n.toNat
    (try dsimp only)
    k_steps
    unfold Stop
    (with_reducible show wpAny _ _ (call _ _) _ _ _)
    refine' sorted_pairs (vs := ys) (ps := pairsTo (fun i => (first + i * leap) % size) (-1) n.toNat) (news := (D, listOf ys.toArray ys.length) :: (tl ++ ((30, tabObj ps) :: (37, tabObj qs) :: rest))) ?F ?N (List.mem_cons_self ..) (hI.are.mono fun q hq => List.mem_cons_of_mem _ hq) ?h2 ?h64 (fun i => ((first + (i : Int) * leap) % size) * 64 + (-1) * i) ?hne ?hlex ?_
    case F => k_asm
    case N => k_asm
    case h2 => rw [hpl]; (first | lia | omega)
    case h64 => rw [hpl]; (first | lia | omega)
    case hne =>
      intro i j hi hj hij
      rw [hpl] at hi hj
      (first | lia | omega)
    case hlex =>
      intro i j hi hj
      rw [hpl] at hi hj
      rw [pairsTo_get _ _ hi, pairsTo_get _ _ hj]
      exact lex_rank (by (first | lia | omega)) (by (first | lia | omega))
    intro D2 e2 h3 vs2 idx F3 N3 l3 hperm hpw hpa
    (try dsimp only)
    rw [hpl] at hperm
    have hrw := picks_row (r' := rankL (fun i => (first + i * leap) % size)) hperm hpw (fun i => by unfold rankL; dsimp only; (first | lia | omega))
    have hjs := hoth.unique hrw
    have hil : idx.length = n.toNat := by rw [hperm.length_eq, List.length_range]
    have hvl : vs2.length = idx.length := by have := hpa.length; rw [List.length_map] at this; exact this
    have hsz2 : vs2.toArray.size = idx.length := by rw [List.size_toArray, hvl]
    k_steps
    unfold Stop
    refine LCp.SrcLP.ledger rfl (by k_asm) (by k_asm) (List.mem_cons_self ..) (by rw [hsz2, hil, PySem.sizeLine_eq]; (first | lia | omega)) ?_
    intro g8
    rw [hsz2]
    refine compRestP_inv idx.length (fun i zs nw => nw = (D2, listOf vs2.toArray e2) :: (D, listOf ys.toArray ys.length) :: (tl ++ ((30, tabObj ps) :: (37, tabObj qs) :: rest)) ∧ IntsAre zs ((idx.take i).map Int.ofNat)) ?turn2 ?fin2 idx.length 0 [] _ (by (first | lia | omega)) ⟨rfl, .nil⟩
    case turn2 =>
      rintro i zs nw v hi ⟨rfl, hzs⟩ hP
      have hik : idx.getD i 0 < n.toNat := by
        have hm := (hperm.mem_iff (a := idx.getD i 0)).mp (by rw [List.getD_eq_getElem?_getD, List.getElem?_eq_getElem hi]; exact List.getElem_mem hi)
        exact List.mem_range.mp hm
      obtain ⟨T6, t6, u6, hv6, hm6⟩ := hpa.get i (by rw [List.length_map]; exact hi)
      have hv7 : v = .ref T6 := by
        have : vs2[i]? = some v := by simpa using hP
        rw [List.getD_eq_getElem?_getD, this] at hv6
        exact hv6
      have hg7 : (idx.map fun i => (pairsTo (fun i => (first + i * leap) % size) (-1) n.toNat).getD i (0, 0)).getD i (0, 0) = ((first + (idx.getD i 0 : Int) * leap) % size, (-1) * (idx.getD i 0 : Int)) := by
        rw [← pairsTo_get (fun i => (first + i * leap) % size) (-1) hik]
        simp [List.getD_eq_getElem?_getD, hi]
      rw [hg7] at hm6
      refine ⟨T6, _, .int _ t6, .int _ u6, 0, hv7, List.mem_cons_of_mem _ hm6, rfl, rfl, ?_⟩
      intro I oI C oC D3 m₂ hh tk7 E' hC hx hx2 F7 N7 off7 ne7
      k_steps
      unfold Stop
      refine' LCg.CompEnd.intro ?F ?N _ (fun q hq => hq) off7 (.inr ⟨_, List.mem_cons_self .., rfl, _, rfl⟩) ⟨rfl, ?iv⟩
      case F => exact F7
      case N => exact N7
      case iv =>
        have et : (idx.take (i + 1)).map Int.ofNat = (idx.take i).map Int.ofNat ++ [-(-1 * (idx.getD i 0 : Int))] := by
          rw [List.take_succ, List.getElem?_eq_getElem hi, List.map_append]
          simp [List.getD_eq_getElem?_getD, hi]
        rw [et]
        exact hzs.append (.cons _ _ .nil)
    case fin2 =>
      rintro zs nw ⟨rfl, hzs⟩
      rw [List.take_length, ← hjs] at hzs
      intro D9 h9 tk9 F9 N9 o9
      have mlo9 := List.mem_cons_of_mem (D9, LCg.lst zs) (List.mem_cons_of_mem (D2, listOf vs2.toArray e2) (List.mem_cons_of_mem (D, listOf ys.toArray ys.length) (List.mem_append_right tl (List.mem_cons_of_mem (30, tabObj ps) (List.mem_cons_of_mem (37, tabObj qs) mlo)))))
      have hjl := hoth.length
      (try dsimp only)
      (with_reducible show wpAny _ _ (compareOp _ _ _) _ _ _)
      refine' ne_intsK (News.isList N9 mlo9) hov (News.isList N9 (List.mem_cons_self ..)) hzs ?u5 ?_
      case u5 => dsimp only [ktrTop]; (first | lia | omega)
      rw [decide_eq_true (rfl : js = js)]
      k_steps
      (try dsimp only)
      unfold Cut
      refine' law16 (led := led) kv kl lr lo lg lh cS cL cF cH cC n size leap first tn tS tL tF oS oL oF oH hue hvs gvs rvs ovs hs gs is js kh kg kr ko ps qs rest _ B X T CA CB (fr_kst F9 ?FF) (cb_drop N9 ?Ns) hnA hnB hsA hsB hG
          mS dS mL dL mF dF mH dH mlh hhv mlg hgv mlr hrv mlo hov mkv mkl hsub hkv hkl hn0 hn1 hz0 hz1 hl0 hl1 hf0 hf1 hdp hun hhl hgl hh1 hc hc0 hc1 hhue hrow hoth hE ?_
      case FF => (repeat' (first | exact List.forall_mem_nil _ | refine all_cons (by rfl) ?_))
      case Ns => exact fun q hq => List.mem_cons_of_mem _ (List.mem_cons_of_mem _ (List.mem_cons_of_mem _ (List.mem_append_right _ hq)))
      intro m3 h3 tk3 news3 F3 N3 G3 G4 G5
      exact ret _ _ _ _ F3 N3 G3 G4 G5
theorem law14 (kv kl lr lo lg lh cS cL cF cH cC : Addr) (n size leap first : Int) (tn tS tL tF : Tok) (oS oL oF oH : Obj) (hue : Int → Int) (hvs gvs rvs ovs : List Value) (hs gs is js : List Int) (kh kg kr ko : Nat) (ps qs : Array Value) (rest : List (Addr × Obj)) (u : Str → Option Value)
    {koc koc' : Value} {kod kod' : Option Addr} {kfd kfd' : FuncData} {ksl ksl' : Array (Option Value)}
    (B : Below A₀ base outer h₀) (X : (hd.heap_39 w.params).In h₀) (T : Top p loose mean mg mb h₀) (CA : CodeHd base 34 30) (CB : CodeHd base 41 37)
    (F : Fr h₀ L s.heap (kstB u [("given", .ref lg), ("count", .int n tn), ("by_value", .ref kv), ("by_light", .ref kl), ("row", .ref lr), ("other", .ref lo)])) (N : News h₀ L s.heap ((30, tabObj ps) :: (37, tabObj qs) :: rest))
    (hnA : ∀ q ∈ rest, q.1 ≠ 30) (hnB : ∀ q ∈ rest, q.1 ≠ 37) (hsA : TabSt 32 4 qualA ps rest) (hsB : TabSt 47 4 qualB qs rest) (hG : ∃ rs, (129, tabObj rs) ∈ rest)
    (mS : (cS, oS) ∈ rest) (dS : oS.data = .cell (some (.int size tS))) (mL : (cL, oL) ∈ rest) (dL : oL.data = .cell (some (.int leap tL))) (mF : (cF, oF) ∈ rest) (dF : oF.data = .cell (some (.int first tF))) (mH : (cH, oH) ∈ rest) (dH : oH.data = .cell (some (.ref lh)))
    (mlh : (lh, listOf hvs.toArray kh) ∈ rest) (hhv : IntsAre hvs hs) (mlg : (lg, listOf gvs.toArray kg) ∈ rest) (hgv : IntsAre gvs gs) (mlr : (lr, listOf rvs.toArray kr) ∈ rest) (hrv : IntsAre rvs is) (mlo : (lo, listOf ovs.toArray ko) ∈ rest) (hov : IntsAre ovs js)
    (mkv : (kv, (⟨koc, kod, .func kfd, ksl⟩ : Obj)) ∈ rest) (mkl : (kl, (⟨koc', kod', .func kfd', ksl'⟩ : Obj)) ∈ rest) (hsub : ∀ q ∈ led, q ∈ rest) (hkv : KeyOK w p loose mean mg mb led kv n hue) (hkl : KeyOK w p loose mean mg mb led kl n hue)
    (hn0 : 4 ≤ n) (hn1 : n ≤ 8) (hz0 : 8 ≤ size) (hz1 : size ≤ 1024) (hl0 : 0 ≤ leap) (hl1 : leap < 3 * size) (hf0 : 0 ≤ first) (hf1 : first < 3 * size) (hdp : dp + 120 < recursionLimit) (hun : un + 1200 < cLine)
    (hhs : hs = (upInts n.toNat).map fun i => (first + i * leap) % size) (hhl : hs.length = n.toNat) (hgl : gs.length ≤ 5) (hh1 : 0 ≤ hs.getD 1 0 ∧ hs.getD 1 0 ≤ size + 1 - 1) {c : Int} (hc : size * c = 2 ^ 20) (hc0 : 0 < c) (hc1 : c ≤ 2 ^ 17) (hhue : ∀ i, hue i = ((first + i * leap) % size) * c)
    (hrow : RowOf (rankR fun i => (first + i * leap) % size) n.toNat is) (hoth : RowOf (rankL fun i => (first + i * leap) % size) n.toNat js) (hE : PassesOwn (model PySem.Challenge.rw_pe0247_01.row.prog w) (ktrTop dp un gd "law" (defScope lawDef) L fa (.ref 131) [("colours", cC), ("hues", cH), ("first", cF), ("leap", cL), ("size", cS)] outer) (envX "law" (defScope lawDef) L fa (.ref 131) [("colours", cC), ("hues", cH), ("first", cF), ("leap", cL), ("size", cS)]) E)
    (ret : ∀ m' h' tk news', Fr h₀ L h' m' → News h₀ L h' news' → GrownAt 30 h' → GrownAt 37 h' → GrownAt 129 h' → Q (.ret (.bool true)) { s with heap := h', toks := tk }) :
    wpAny (model PySem.Challenge.rw_pe0247_01.row.prog w) (ktrTop dp un gd "law" (defScope lawDef) L fa (.ref 131) [("colours", cC), ("hues", cH), ("first", cF), ("leap", cL), ("size", cS)] outer) (execs ((defBody lawDef).drop 14) (envX "law" (defScope lawDef) L fa (.ref 131) [("colours", cC), ("hues", cH), ("first", cF), ("leap", cL), ("size", cS)])) Q E s := by
  have eb : (defBody lawDef).drop 14 = (defBody lawDef).drop 14 := rfl
  conv at eb => rhs; whnf
  have es : defScope lawDef = defScope lawDef := rfl
  conv at es => rhs; whnf
  rw [eb, es]
  clear eb es
  dsimp only [kstB] at F
  revert X; k_fill; intro X
  (with_reducible show wpAny _ _ (execs _ _) _ _ _)
  refine execs_cut (a := [_]) ?_
  k_steps
  unfold Stop
  (with_reducible show wpAny _ _ (eval _ _) _ _ _)
  refine LCp.ListComp_P (F₀ := by k_asm) (by with_unfolding_all rfl) (by decide) (by rfl) (by decide) (by rfl) (by rfl) (by decide) ?_
  k_steps
  unfold Stop
  (with_reducible show wpAny _ _ (eval _ _) _ _ _)
  refine LCg.ListComp_U (F₀ := by k_asm) (by with_unfolding_all rfl) (by decide) (by rfl) (by decide) (by rfl) ?_
  k_steps
  unfold Stop
  refine LCg.CompSrc.range rfl (by k_asm) (by k_asm) (by assumption) (range_small (by (first | lia | omega)) (by (first | lia | omega))) (range_size (by (first | lia | omega))) (by rw [PySem.sizeLine_eq]; (first | lia | omega)) ?_
  intro g9
  refine compRest_inv n.toNat (PInv ((30, tabObj ps) :: (37, tabObj qs) :: rest) (fun i => (first + i * leap) % size) 1) ?turn ?fin n.toNat 0 [] _ (by (first | lia | omega)) ⟨⟨[], rfl⟩, trivial⟩
  case turn =>
    intro i ys nw v I oI C oC D m₂ hh tk9 E' hi hI hP hC hx F9 N9 off9 ne9
    obtain ⟨t9, rfl⟩ := hP
    obtain ⟨tl, rfl⟩ := hI.ex
    have mH := List.mem_append_right tl (List.mem_cons_of_mem (30, tabObj ps) (List.mem_cons_of_mem (37, tabObj qs) mH))
    have mlh := List.mem_append_right tl (List.mem_cons_of_mem (30, tabObj ps) (List.mem_cons_of_mem (37, tabObj qs) mlh))
    have hhvl := hhv.length
    k_steps
    rename_i t8 T9 h8 F8 N8 l8
    unfold Stop
    have e1 : hs.getD (0 + (i : Int)).toNat 0 = (first + i * leap) % size := by
      have e0 : (0 + (i : Int)).toNat = i := by (first | lia | omega)
      rw [e0, hhs]
      simp [upInts, List.getD_eq_getElem?_getD, hi]
    rw [e1, (by (first | lia | omega) : 0 + (i : Int) = 1 * (i : Int))] at N8
    refine' LCg.CompEnd.intro ?F N8 ((T9, tup2 ((first + i * leap) % size) (1 * (i : Int)) t8 t9) :: (tl ++ ((30, tabObj ps) :: (37, tabObj qs) :: rest))) ?sub ⟨⟨Nat.ne_of_gt l8.1, Nat.ne_of_gt l8.2.1, Nat.ne_of_gt l8.2.2.1⟩, off9⟩ trivial ⟨⟨_ :: tl, rfl⟩, ?are⟩
    case F => assumption
    case sub =>
      (repeat' (first | exact List.forall_mem_nil _ | refine sub_cons (by k_mem) ?_ | (intro q hq; (repeat (first | exact hq | refine List.mem_cons_of_mem _ ?_)); done)))
    case are =>
      rw [pairsTo_succ]
      exact PairsAre.snoc (p := ((first + i * leap) % size, 1 * (i : Int))) ⟨T9, t8, t9, rfl, List.mem_cons_self ..⟩ (hI.are.mono fun q hq => List.mem_cons_of_mem _ hq)
  case fin =>
    intro ys nw hI
    obtain ⟨tl, rfl⟩ := hI.ex
    unfold LCg.FinE
    intro D h9 tk9 F9 N9 o9
    have hpl := pairsTo_length (fun i => (first + i * leap) % size) 1 n.toNat
    (try dsimp only)
    k_steps
    unfold Stop
    (with_reducible show wpAny _ _ (call _ _) _ _ _)
    refine' sorted_pairs (vs := ys) (ps := pairsTo (fun i => (first + i * leap) % size) 1 n.toNat) (news := (D, listOf ys.toArray ys.length) :: (tl ++ ((30, tabObj ps) :: (37, tabObj qs) :: rest))) ?F ?N (List.mem_cons_self ..) (hI.are.mono fun q hq => List.mem_cons_of_mem _ hq) ?h2 ?h64 (fun i => ((first + (i : Int) * leap) % size) * 64 + 1 * i) ?hne ?hlex ?_
    case F => k_asm
    case N => k_asm
    case h2 => rw [hpl]; (first | lia | omega)
    case h64 => rw [hpl]; (first | lia | omega)
    case hne =>
      intro i j hi hj hij
      rw [hpl] at hi hj
      (first | lia | omega)
    case hlex =>
      intro i j hi hj
      rw [hpl] at hi hj
      rw [pairsTo_get _ _ hi, pairsTo_get _ _ hj]
      exact lex_rank (by (first | lia | omega)) (by (first | lia | omega))
    intro D2 e2 h3 vs2 idx F3 N3 l3 hperm hpw hpa
    (try dsimp only)
    rw [hpl] at hperm
    have hrw := picks_row (r' := rankR (fun i => (first + i * leap) % size)) hperm hpw (fun i => by unfold rankR; dsimp only; (first | lia | omega))
    have hjs := hrow.unique hrw
    have hil : idx.length = n.toNat := by rw [hperm.length_eq, List.length_range]
    have hvl : vs2.length = idx.length := by have := hpa.length; rw [List.length_map] at this; exact this
    have hsz2 : vs2.toArray.size = idx.length := by rw [List.size_toArray, hvl]
    k_steps
    unfold Stop
    refine LCp.SrcLP.ledger rfl (by k_asm) (by k_asm) (List.mem_cons_self ..) (by rw [hsz2, hil, PySem.sizeLine_eq]; (first | lia | omega)) ?_
    intro g8
    rw [hsz2]
    refine compRestP_inv idx.length (fun i zs nw => nw = (D2, listOf vs2.toArray e2) :: (D, listOf ys.toArray ys.length) :: (tl ++ ((30, tabObj ps) :: (37, tabObj qs) :: rest)) ∧ IntsAre zs ((idx.take i).map Int.ofNat)) ?turn2 ?fin2 idx.length 0 [] _ (by (first | lia | omega)) ⟨rfl, .nil⟩
    case turn2 =>
      rintro i zs nw v hi ⟨rfl, hzs⟩ hP
      have hik : idx.getD i 0 < n.toNat := by
        have hm := (hperm.mem_iff (a := idx.getD i 0)).mp (by rw [List.getD_eq_getElem?_getD, List.getElem?_eq_getElem hi]; exact List.getElem_mem hi)
        exact List.mem_range.mp hm
      obtain ⟨T6, t6, u6, hv6, hm6⟩ := hpa.get i (by rw [List.length_map]; exact hi)
      have hv7 : v = .ref T6 := by
        have : vs2[i]? = some v := by simpa using hP
        rw [List.getD_eq_getElem?_getD, this] at hv6
        exact hv6
      have hg7 : (idx.map fun i => (pairsTo (fun i => (first + i * leap) % size) 1 n.toNat).getD i (0, 0)).getD i (0, 0) = ((first + (idx.getD i 0 : Int) * leap) % size, 1 * (idx.getD i 0 : Int)) := by
        rw [← pairsTo_get (fun i => (first + i * leap) % size) 1 hik]
        simp [List.getD_eq_getElem?_getD, hi]
      rw [hg7] at hm6
      refine ⟨T6, _, .int _ t6, .int _ u6, 0, hv7, List.mem_cons_of_mem _ hm6, rfl, rfl, ?_⟩
      intro I oI C oC D3 m₂ hh tk7 E' hC hx hx2 F7 N7 off7 ne7
      k_steps
      unfold Stop
      refine' LCg.CompEnd.intro ?F ?N _ (fun q hq => hq) off7 (.inr ⟨_, List.mem_cons_self .., rfl, _, rfl⟩) ⟨rfl, ?iv⟩
      case F => exact F7
      case N => exact N7
      case iv =>
        have et : (idx.take (i + 1)).map Int.ofNat = (idx.take i).map Int.ofNat ++ [1 * (idx.getD i 0 : Int)] := by
          rw [List.take_succ, List.getElem?_eq_getElem hi, List.map_append]
          simp [List.getD_eq_getElem?_getD, hi]
        rw [et]
        exact hzs.append (.cons _ _ .nil)
    case fin2 =>
      rintro zs nw ⟨rfl, hzs⟩
      rw [List.take_length, ← hjs] at hzs
      intro D9 h9 tk9 F9 N9 o9
      have mlo9 := List.mem_cons_of_mem (D9, LCg.lst zs) (List.mem_cons_of_mem (D2, listOf vs2.toArray e2) (List.mem_cons_of_mem (D, listOf ys.toArray ys.length) (List.mem_append_right tl (List.mem_cons_of_mem (30, tabObj ps) (List.mem_cons_of_mem (37, tabObj qs) mlr)))))
      have hjl := hrow.length
      (try dsimp only)
      (with_reducible show wpAny _ _ (compareOp _ _ _) _ _ _)
      refine' ne_intsK (News.isList N9 mlo9) hrv (News.isList N9 (List.mem_cons_self ..)) hzs ?u5 ?_
      case u5 => dsimp only [ktrTop]; (first | lia | omega)
      rw [decide_eq_true (rfl : is = is)]
      k_steps
      (try dsimp only)
      unfold Cut
      refine' law15 (led := led) kv kl lr lo lg lh cS cL cF cH cC n size leap first tn tS tL tF oS oL oF oH hue hvs gvs rvs ovs hs gs is js kh kg kr ko ps qs rest _ B X T CA CB (fr_kst F9 ?FF) (cb_drop N9 ?Ns) hnA hnB hsA hsB hG
          mS dS mL dL mF dF mH dH mlh hhv mlg hgv mlr hrv mlo hov mkv mkl hsub hkv hkl hn0 hn1 hz0 hz1 hl0 hl1 hf0 hf1 hdp hun hhs hhl hgl hh1 hc hc0 hc1 hhue hrow hoth hE ?_
      case FF => (repeat' (first | exact List.forall_mem_nil _ | refine all_cons (by rfl) ?_))
      case Ns => exact fun q hq => List.mem_cons_of_mem _ (List.mem_cons_of_mem _ (List.mem_cons_of_mem _ (List.mem_append_right _ hq)))
      intro m3 h3 tk3 news3 F3 N3 G3 G4 G5
      exact ret _ _ _ _ F3 N3 G3 G4 G5
end
end

section
open PySem PySem.W PyProof.Rows PySem.Spec PySem.Calls
set_option Elab.async false
set_option maxRecDepth 100000
set_option maxHeartbeats 8000000
theorem hues_eq {first leap size n : Int} (hs : 0 < size) : List.map (fun k' => (first + k' * leap).fmod size) (rangeKs 0 (n - 0).toNat) = (upInts n.toNat).map fun i => (first + i * leap) % size := by
  unfold rangeKs upInts
  rw [List.map_map, List.map_map, Int.sub_zero]
  refine List.map_congr_left fun i _ => ?_
  simp only [Function.comp, Int.zero_add, Int.ofNat_eq_natCast]
  exact Int.fmod_eq_emod_of_nonneg _ (Int.le_of_lt hs)
theorem hues_one {first leap size n : Int} (hs : 0 < size) (hn : 4 ≤ n) : 0 ≤ ((upInts n.toNat).map fun i => (first + i * leap) % size).getD 1 0 ∧ ((upInts n.toNat).map fun i => (first + i * leap) % size).getD 1 0 ≤ size + 1 - 1 := by
  have e : ((upInts n.toNat).map fun i => (first + i * leap) % size).getD 1 0 = (first + 1 * leap) % size := by
    have h1 : 1 < n.toNat := by omega
    unfold upInts
    simp [List.getD_eq_getElem?_getD, h1]
  rw [e]
  have := Int.emod_nonneg (first + 1 * leap) (Int.ne_of_gt hs)
  have := Int.emod_lt_of_pos (first + 1 * leap) hs
  omega
local macro_rules | `(tactic| walk_at "call ref") => `(tactic| (refine stop_of ?_))
section
variable {w : World} {p : Program} {loose : List Str} {mean : ExcName → Option Value} {mg mb : Str → Option Value} {dp un : Nat} {gd : Option (List Code)} {outer : List Env} {A₀ : Around} {base h₀ : Heap} {L fa : Addr} {m : Str → Option Value} {news led : List (Addr × Obj)} {s : Shared}
    {Q : Flow → Shared → Prop} {E : Value → Shared → Prop}
theorem law13 (kv kl lr lo lg cS cL cF cH cC : Addr) (n size leap first : Int) (tn tS tL tF : Tok) (oS oL oF oH : Obj) (hue : Int → Int) (gvs rvs ovs : List Value) (gs is js : List Int) (kg kr ko : Nat) (ps qs : Array Value) (rest : List (Addr × Obj)) (u : Str → Option Value)
    {koc koc' : Value} {kod kod' : Option Addr} {kfd kfd' : FuncData} {ksl ksl' : Array (Option Value)}
    (B : Below A₀ base outer h₀) (X : (hd.heap_39 w.params).In h₀) (T : Top p loose mean mg mb h₀) (CA : CodeHd base 34 30) (CB : CodeHd base 41 37)
    (F : Fr h₀ L s.heap (kstB u [("given", .ref lg), ("count", .int n tn), ("by_value", .ref kv), ("by_light", .ref kl), ("row", .ref lr), ("other", .ref lo)])) (N : News h₀ L s.heap ((cH, oH) :: (30, tabObj ps) :: (37, tabObj qs) :: rest)) (dH : oH.data = .cell none) (hH1 : 30 < cH) (hH2 : 37 < cH) (hH3 : ∀ q ∈ rest, q.1 ≠ cH)
    (hnA : ∀ q ∈ rest, q.1 ≠ 30) (hnB : ∀ q ∈ rest, q.1 ≠ 37) (hsA : TabSt 32 4 qualA ps rest) (hsB : TabSt 47 4 qualB qs rest) (hG : ∃ rs, (129, tabObj rs) ∈ rest)
    (mS : (cS, oS) ∈ rest) (dS : oS.data = .cell (some (.int size tS))) (mL : (cL, oL) ∈ rest) (dL : oL.data = .cell (some (.int leap tL))) (mF : (cF, oF) ∈ rest) (dF : oF.data = .cell (some (.int first tF)))
    (mlg : (lg, listOf gvs.toArray kg) ∈ rest) (hgv : IntsAre gvs gs) (mlr : (lr, listOf rvs.toArray kr) ∈ rest) (hrv : IntsAre rvs is) (mlo : (lo, listOf ovs.toArray ko) ∈ rest) (hov : IntsAre ovs js)
    (mkv : (kv, (⟨koc, kod, .func kfd, ksl⟩ : Obj)) ∈ rest) (mkl : (kl, (⟨koc', kod', .func kfd', ksl'⟩ : Obj)) ∈ rest) (hsub : ∀ q ∈ led, q ∈ rest) (hkv : KeyOK w p loose mean mg mb led kv n hue) (hkl : KeyOK w p loose mean mg mb led kl n hue)
    (hn0 : 4 ≤ n) (hn1 : n ≤ 8) (hz0 : 8 ≤ size) (hz1 : size ≤ 1024) (hl0 : 0 ≤ leap) (hl1 : leap < 3 * size) (hf0 : 0 ≤ first) (hf1 : first < 3 * size) (hdp : dp + 120 < recursionLimit) (hun : un + 1200 < cLine)
    (hgl : gs.length ≤ 5) {c : Int} (hc : size * c = 2 ^ 20) (hc0 : 0 < c) (hc1 : c ≤ 2 ^ 17) (hhue : ∀ i, hue i = ((first + i * leap) % size) * c)
    (hrow : RowOf (rankR fun i => (first + i * leap) % size) n.toNat is) (hoth : RowOf (rankL fun i => (first + i * leap) % size) n.toNat js) (hE : PassesOwn (model PySem.Challenge.rw_pe0247_01.row.prog w) (ktrTop dp un gd "law" (defScope lawDef) L fa (.ref 131) [("colours", cC), ("hues", cH), ("first", cF), ("leap", cL), ("size", cS)] outer) (envX "law" (defScope lawDef) L fa (.ref 131) [("colours", cC), ("hues", cH), ("first", cF), ("leap", cL), ("size", cS)]) E)
    (ret : ∀ m' h' tk news', Fr h₀ L h' m' → News h₀ L h' news' → GrownAt 30 h' → GrownAt 37 h' → GrownAt 129 h' → Q (.ret (.bool true)) { s with heap := h', toks := tk }) :
    wpAny (model PySem.Challenge.rw_pe0247_01.row.prog w) (ktrTop dp un gd "law" (defScope lawDef) L fa (.ref 131) [("colours", cC), ("hues", cH), ("first", cF), ("leap", cL), ("size", cS)] outer) (execs ((defBody lawDef).drop 13) (envX "law" (defScope lawDef) L fa (.ref 131) [("colours", cC), ("hues", cH), ("first", cF), ("leap", cL), ("size", cS)])) Q E s := by
  have eb : (defBody lawDef).drop 13 = (defBody lawDef).drop 13 := rfl
  conv at eb => rhs; whnf
  have es : defScope lawDef = defScope lawDef := rfl
  conv at es => rhs; whnf
  rw [eb, es]
  clear eb es
  dsimp only [kstB] at F
  revert X; k_fill; intro X
  (with_reducible show wpAny _ _ (execs _ _) _ _ _)
  refine execs_cut (a := [_]) ?_
  k_steps
  rename_i g9 ys hI8 hL8 D9 h9 tk9 F9 N9 o9
  rw [hues_eq (by omega)] at hI8
  (with_reducible show wpAny _ _ (storeName _ _ _) _ _ _)
  refine' storeX_C (c := cH) F9 N9 rfl (UpdF.tail (Ne.symm o9.1) (UpdF.head ?U)) dH ?_
  case U => exact List.forall_mem_cons.mpr ⟨Nat.ne_of_lt hH1, List.forall_mem_cons.mpr ⟨Nat.ne_of_lt hH2, hH3⟩⟩
  intro h8 o8 F8 N8 d8
  (try dsimp only)
  k_steps
  (try dsimp only)
  unfold Cut
  have hD30 : D9 ≠ 30 := Ne.symm o9.2.1
  have hD37 : D9 ≠ 37 := Ne.symm o9.2.2.1
  have hH30 : cH ≠ 30 := Nat.ne_of_gt hH1
  have hH37 : cH ≠ 37 := Nat.ne_of_gt hH2
  have sub : ∀ q ∈ rest, q ∈ (cH, o8) :: (D9, LCg.lst ys) :: rest := fun q hq => List.mem_cons_of_mem _ (List.mem_cons_of_mem _ hq)
  refine' law14 (led := led) kv kl lr lo lg D9 cS cL cF cH cC n size leap first tn tS tL tF oS oL oF o8 hue ys gvs rvs ovs _ gs is js ys.length kg kr ko ps qs ((cH, o8) :: (D9, LCg.lst ys) :: rest) _ B X T CA CB (fr_kst F8 ?FF) (cb_drop N8 ?Ns) ?nA ?nB (hsA.mono sub) (hsB.mono sub) (hG.imp fun _ h => sub _ h)
      (sub _ mS) dS (sub _ mL) dL (sub _ mF) dF (List.mem_cons_self ..) d8 (List.mem_cons_of_mem _ (List.mem_cons_self ..)) hI8 (sub _ mlg) hgv (sub _ mlr) hrv (sub _ mlo) hov (sub _ mkv) (sub _ mkl) (fun q hq => sub q (hsub q hq)) hkv hkl hn0 hn1 hz0 hz1 hl0 hl1 hf0 hf1 hdp hun rfl
      (by rw [List.length_map, upInts_length]) hgl (hues_one (by omega) hn0) hc hc0 hc1 hhue hrow hoth hE ?_
  case FF => (repeat' (first | exact List.forall_mem_nil _ | refine all_cons (by rfl) ?_))
  case Ns =>
    (repeat' (first | exact List.forall_mem_nil _ | refine sub_cons (by k_mem) ?_ | (intro q hq; (repeat (first | exact hq | refine List.mem_cons_of_mem _ ?_)); done)))
  case nA => exact List.forall_mem_cons.mpr ⟨hH30, List.forall_mem_cons.mpr ⟨hD30, hnA⟩⟩
  case nB => exact List.forall_mem_cons.mpr ⟨hH37, List.forall_mem_cons.mpr ⟨hD37, hnB⟩⟩
  intro m3 h3 tk3 news3 F3 N3 G3 G4 G5
  exact ret _ _ _ _ F3 N3 G3 G4 G5
end
end

section
open PySem PySem.W PyProof.Rows PySem.Spec PySem.Calls
set_option Elab.async false
set_option maxRecDepth 100000
set_option maxHeartbeats 8000000
structure RwS where
  rvs : List Value
  ovs : List Value
  is : List Int
  js : List Int
  kr : Nat
  ko : Nat
structure RwInv (H : Int → Int) (i : Nat) (c : RwS) : Prop where
  ri : IntsAre c.rvs c.is
  oi : IntsAre c.ovs c.js
  row : RowOf (rankR H) i c.is
  oth : RowOf (rankL H) i c.js
local macro_rules | `(tactic| walk_at "call ref") => `(tactic| (refine stop_of ?_))
local macro_rules | `(tactic| walk_at "call type:range") => `(tactic| (k_here; (with_unfolding_all refine' range1_rows ?F ?N ?_; (case F => k_asm); (case N => k_asm)); intro _ _ _ _ _ _ _ _ _))
local macro_rules | `(tactic| walk_at "pyIter ref") => `(tactic| (refine stop_of ?_))
section
variable {w : World} {p : Program} {loose : List Str} {mean : ExcName → Option Value} {mg mb : Str → Option Value} {dp un : Nat} {gd : Option (List Code)} {outer : List Env} {A₀ : Around} {base h₀ : Heap} {L fa : Addr} {m : Str → Option Value} {news led : List (Addr × Obj)} {s : Shared}
    {Q : Flow → Shared → Prop} {E : Value → Shared → Prop}
theorem law12 (kv kl lr lo lg cS cL cF cH cC : Addr) (n size leap first : Int) (tn tS tL tF : Tok) (oS oL oF oH : Obj) (hue : Int → Int) (gvs : List Value) (gs : List Int) (kg : Nat) (ps qs : Array Value) (rest : List (Addr × Obj)) (u : Str → Option Value)
    {koc koc' : Value} {kod kod' : Option Addr} {kfd kfd' : FuncData} {ksl ksl' : Array (Option Value)}
    (B : Below A₀ base outer h₀) (X : (hd.heap_39 w.params).In h₀) (T : Top p loose mean mg mb h₀) (CA : CodeHd base 34 30) (CB : CodeHd base 41 37)
    (F : Fr h₀ L s.heap (kstB u [("given", .ref lg), ("count", .int n tn), ("by_value", .ref kv), ("by_light", .ref kl), ("row", .ref lr), ("other", .ref lo)])) (N : News h₀ L s.heap ((lr, listOf #[] 0) :: (lo, listOf #[] 0) :: (cH, oH) :: (30, tabObj ps) :: (37, tabObj qs) :: rest)) (dH : oH.data = .cell none) (hH1 : 30 < cH) (hH2 : 37 < cH) (hH3 : ∀ q ∈ rest, q.1 ≠ cH) (hr1 : lr < lo) (hr2 : ∀ q ∈ (cH, oH) :: (30, tabObj ps) :: (37, tabObj qs) :: rest, q.1 < lr)
    (hnA : ∀ q ∈ rest, q.1 ≠ 30) (hnB : ∀ q ∈ rest, q.1 ≠ 37) (hsA : TabSt 32 4 qualA ps rest) (hsB : TabSt 47 4 qualB qs rest) (hG : ∃ rs, (129, tabObj rs) ∈ rest)
    (mS : (cS, oS) ∈ rest) (dS : oS.data = .cell (some (.int size tS))) (mL : (cL, oL) ∈ rest) (dL : oL.data = .cell (some (.int leap tL))) (mF : (cF, oF) ∈ rest) (dF : oF.data = .cell (some (.int first tF)))
    (mlg : (lg, listOf gvs.toArray kg) ∈ rest) (hgv : IntsAre gvs gs) 
    (mkv : (kv, (⟨koc, kod, .func kfd, ksl⟩ : Obj)) ∈ rest) (mkl : (kl, (⟨koc', kod', .func kfd', ksl'⟩ : Obj)) ∈ rest) (hsub : ∀ q ∈ led, q ∈ rest) (hkv : KeyOK w p loose mean mg mb led kv n hue) (hkl : KeyOK w p loose mean mg mb led kl n hue)
    (hn0 : 4 ≤ n) (hn1 : n ≤ 8) (hz0 : 8 ≤ size) (hz1 : size ≤ 1024) (hl0 : 0 ≤ leap) (hl1 : leap < 3 * size) (hf0 : 0 ≤ first) (hf1 : first < 3 * size) (hdp : dp + 120 < recursionLimit) (hun : un + 1200 < cLine)
    (hgl : gs.length ≤ 5) {c : Int} (hc : size * c = 2 ^ 20) (hc0 : 0 < c) (hc1 : c ≤ 2 ^ 17) (hhue : ∀ i, hue i = ((first + i * leap) % size) * c)
    (hE : PassesOwn (model PySem.Challenge.rw_pe0247_01.row.prog w) (ktrTop dp un gd "law" (defScope lawDef) L fa (.ref 131) [("colours", cC), ("hues", cH), ("first", cF), ("leap", cL), ("size", cS)] outer) (envX "law" (defScope lawDef) L fa (.ref 131) [("colours", cC), ("hues", cH), ("first", cF), ("leap", cL), ("size", cS)]) E)
    (ret : ∀ m' h' tk news', Fr h₀ L h' m' → News h₀ L h' news' → GrownAt 30 h' → GrownAt 37 h' → GrownAt 129 h' → Q (.ret (.bool true)) { s with heap := h', toks := tk }) :
    wpAny (model PySem.Challenge.rw_pe0247_01.row.prog w) (ktrTop dp un gd "law" (defScope lawDef) L fa (.ref 131) [("colours", cC), ("hues", cH), ("first", cF), ("leap", cL), ("size", cS)] outer) (execs ((defBody lawDef).drop 12) (envX "law" (defScope lawDef) L fa (.ref 131) [("colours", cC), ("hues", cH), ("first", cF), ("leap", cL), ("size", cS)])) Q E s := by
  have eb : (defBody lawDef).drop 12 = (defBody lawDef).drop 12 := rfl
  conv at eb => rhs; whnf
  have es : defScope lawDef = defScope lawDef := rfl
  conv at es => rhs; whnf
  rw [eb, es]
  clear eb es
  dsimp only [kstB] at F
  revert X; k_fill; intro X
  (with_reducible show wpAny _ _ (execs _ _) _ _ _)
  refine execs_cut (a := [_]) ?_
  k_steps
  unfold Stop
  (with_reducible show wpAny _ _ (pyIter _) _ _ _)
  refine' for_range (σ := RwS) (b₀ := n) (n := n.toNat) (fun c => (lr, listOf c.rvs.toArray c.kr) :: (lo, listOf c.ovs.toArray c.ko) :: (cH, oH) :: (30, tabObj ps) :: (37, tabObj qs) :: rest) (fun _ => [("given", .ref lg), ("count", .int n tn), ("by_value", .ref kv), ("by_light", .ref kl), ("row", .ref lr), ("other", .ref lo)]) [] (RwInv fun i => (first + i * leap) % size) ⟨[], [], [], [], 0, 0⟩ ?hh ?hr (range_small (by (first | lia | omega)) (by (first | lia | omega))) (range_size (by (first | lia | omega))) ?F ?N ?hk ?h0 ?turn ?done
  case hh => exact rfl
  case hr => assumption
  case F => assumption
  case N => assumption
  case hk => (repeat' (first | exact List.forall_mem_nil _ | refine all_cons (by rfl) ?_))
  case h0 => exact ⟨.nil, .nil, RowOf.nil _, RowOf.nil _⟩
  case turn =>
    intro i t9 c2 u2 h2 tk2 I oI hi hI hoff hI0 F2 N2
    have hli := hI.row.length
    have hlj := hI.oth.length
    dsimp only [kstB] at F2
    have hb : ∀ q ∈ (cH, oH) :: (30, tabObj ps) :: (37, tabObj qs) :: rest, q.1 ≠ lo ∧ q.1 ≠ lr := fun q hq => ⟨Nat.ne_of_lt (Nat.lt_trans (hr2 q hq) hr1), Nat.ne_of_lt (hr2 q hq)⟩
    have hIr : I ≠ lr := fun e => hoff (lr, _) (List.mem_cons_self ..) e.symm
    have hIo : I ≠ lo := fun e => hoff (lo, _) (List.mem_cons_of_mem _ (List.mem_cons_self ..)) e.symm
    have sub : ∀ q ∈ rest, q ∈ (cH, oH) :: (30, tabObj ps) :: (37, tabObj qs) :: rest := fun q hq => List.mem_cons_of_mem _ (List.mem_cons_of_mem _ (List.mem_cons_of_mem _ hq))
    have hhb : ∀ i, 0 ≤ i → i < n → (hue i).natAbs < 2 ^ 53 := fun i _ _ => by
      rw [hhue]; exact mark_abs (Int.emod_nonneg _ (by (first | lia | omega))) (by have := Int.emod_lt_of_pos (first + i * leap) (show 0 < size by (first | lia | omega)); (first | lia | omega)) hc0 hc1
    k_steps
    unfold Stop
    (with_reducible show wpAny _ _ (call (Value.ref _) _ _) _ _ _)
    refine' insR (led := led) (news := (I, oI) :: (lo, listOf c2.ovs.toArray c2.ko) :: (cH, oH) :: (30, tabObj ps) :: (37, tabObj qs) :: rest) lr kv n (i : Int) hue c2.rvs c2.is c2.kr _ ?B ?F ?X (cb_drop N2 ?Ns) ?T rfl (List.mem_cons_of_mem _ (List.mem_cons_of_mem _ (sub _ mkv))) ?hne (fun q hq => List.mem_cons_of_mem _ (List.mem_cons_of_mem _ (sub _ (hsub q hq)))) hkv hI.ri (by (first | lia | omega)) ?his (by (first | lia | omega)) (by (first | lia | omega)) hhb ?hsort ?hdp ?hun ?_
    case B => k_asm
    case F => k_asm
    case X => k_asm
    case T => k_asm
    case Ns =>
      (repeat' (first | exact List.forall_mem_nil _ | refine sub_cons (by k_mem) ?_ | (intro q hq; (repeat (first | exact hq | refine List.mem_cons_of_mem _ ?_)); done)))
    case hne => exact List.forall_mem_cons.mpr ⟨hIr, List.forall_mem_cons.mpr ⟨Nat.ne_of_gt hr1, fun q hq => (hb q hq).2⟩⟩
    case his => exact fun a ha => by have := hI.row.mem ha; (first | lia | omega)
    case hsort => exact fun a b h1 h2 => by rw [hhue, hhue, scale_le hc0]; exact hI.row.hueR (by (first | lia | omega)) h1 (by (first | lia | omega))
    case hdp => (first | lia | omega)
    case hun => (first | lia | omega)
    intro q1 ws1 h3 tk3 r1 f1 g1 F3 N3 iv1
    (try dsimp only)
    k_steps
    unfold Stop
    (with_reducible show wpAny _ _ (call (Value.ref _) _ _) _ _ _)
    refine' insL (led := led) (news := (I, oI) :: (lr, listOf (List.toArray ws1) (c2.kr + 1)) :: (cH, oH) :: (30, tabObj ps) :: (37, tabObj qs) :: rest) lo kl n (i : Int) hue c2.ovs c2.js c2.ko _ ?B ?F ?X (cb_drop N3 ?Ns) ?T rfl (List.mem_cons_of_mem _ (List.mem_cons_of_mem _ (sub _ mkl))) ?hne (fun q hq => List.mem_cons_of_mem _ (List.mem_cons_of_mem _ (sub _ (hsub q hq)))) hkl hI.oi (by (first | lia | omega)) ?his (by (first | lia | omega)) (by (first | lia | omega)) hhb ?hsort ?hdp ?hun ?_
    case B => k_asm
    case F => k_asm
    case X => k_asm
    case T => k_asm
    case Ns =>
      (repeat' (first | exact List.forall_mem_nil _ | refine sub_cons (by k_mem) ?_ | (intro q hq; (repeat (first | exact hq | refine List.mem_cons_of_mem _ ?_)); done)))
    case hne => exact List.forall_mem_cons.mpr ⟨hIo, List.forall_mem_cons.mpr ⟨Nat.ne_of_lt hr1, fun q hq => (hb q hq).1⟩⟩
    case his => exact fun a ha => by have := hI.oth.mem ha; (first | lia | omega)
    case hsort => exact fun a b h1 h2 => by rw [hhue, hhue, scale_le hc0]; exact hI.oth.hueL (by (first | lia | omega)) h1 (by (first | lia | omega))
    case hdp => (first | lia | omega)
    case hun => (first | lia | omega)
    intro q2 ws2 h4 tk4 r2 f2 g2 F4 N4 iv2
    (try dsimp only)
    k_steps
    refine' for_end (x := "i") (RwS.mk ws1 ws2 (c2.is.take q1 ++ (i : Int) :: c2.is.drop q1) (c2.js.take q2 ++ (i : Int) :: c2.js.drop q2) (c2.kr + 1) (c2.ko + 1)) F4 N4 ?hn ?ho ?hk ?hr ⟨iv1, iv2, ?row, ?oth⟩
    case hn =>
      (repeat' (first | exact List.forall_mem_nil _ | refine sub_cons (by k_mem) ?_ | (intro q hq; (repeat (first | exact hq | refine List.mem_cons_of_mem _ ?_)); done)))
    case ho => exact List.forall_mem_cons.mpr ⟨hIr.symm, List.forall_mem_cons.mpr ⟨hIo.symm, fun q hq => hoff q (List.mem_cons_of_mem _ (List.mem_cons_of_mem _ hq))⟩⟩
    case hk => (repeat' (first | exact List.forall_mem_nil _ | refine all_cons (by rfl) ?_))
    case hr =>
      intro z z1 z2 z3
      simp only [List.forall_mem_cons, List.not_mem_nil, false_implies, implies_true, and_true, ne_eq] at z2
      simp [z1, z2]
    case row => exact hI.row.stepR (by (first | lia | omega)) r1 (fun j hj => by have := f1 j hj; rw [hhue, hhue, scale_le hc0] at this; exact this) (fun j h1 h2 => by have := g1 j h1 h2; rw [hhue, hhue, scale_le hc0] at this; exact this)
    case oth => exact hI.oth.stepL (by (first | lia | omega)) r2 (fun j hj => by have := f2 j hj; rw [hhue, hhue, scale_lt hc0] at this; exact this) (fun j h1 h2 => by have := g2 j h1 h2; rw [hhue, hhue, scale_lt hc0] at this; exact this)
  case done =>
    intro c2 u2 h2 tk2 hI F2 N2
    (try dsimp only)
    k_steps
    (try dsimp only)
    unfold Cut
    have hb : ∀ q ∈ (cH, oH) :: (30, tabObj ps) :: (37, tabObj qs) :: rest, q.1 < lo ∧ q.1 < lr := fun q hq => ⟨Nat.lt_trans (hr2 q hq) hr1, hr2 q hq⟩
    have a1 := hb (cH, oH) (by simp)
    have a2 := hb (30, tabObj ps) (by simp)
    have a3 := hb (37, tabObj qs) (by simp)
    have sub : ∀ q ∈ rest, q ∈ (lr, listOf c2.rvs.toArray c2.kr) :: (lo, listOf c2.ovs.toArray c2.ko) :: rest := fun q hq => List.mem_cons_of_mem _ (List.mem_cons_of_mem _ hq)
    refine' law13 (led := led) kv kl lr lo lg cS cL cF cH cC n size leap first tn tS tL tF oS oL oF oH hue gvs c2.rvs c2.ovs gs c2.is c2.js kg c2.kr c2.ko ps qs ((lr, listOf c2.rvs.toArray c2.kr) :: (lo, listOf c2.ovs.toArray c2.ko) :: rest) _ B X T CA CB (fr_kst F2 ?FF) (cb_drop N2 ?Ns) dH hH1 hH2 ?nH ?nA ?nB (hsA.mono sub) (hsB.mono sub) (hG.imp fun _ h => sub _ h)
      (sub _ mS) dS (sub _ mL) dL (sub _ mF) dF (sub _ mlg) hgv (List.mem_cons_self ..) hI.ri (List.mem_cons_of_mem _ (List.mem_cons_self ..)) hI.oi (sub _ mkv) (sub _ mkl) (fun q hq => sub q (hsub q hq)) hkv hkl hn0 hn1 hz0 hz1 hl0 hl1 hf0 hf1 hdp hun hgl hc hc0 hc1 hhue hI.row hI.oth hE ?_
    case FF => (repeat' (first | exact List.forall_mem_nil _ | refine all_cons (by rfl) ?_))
    case Ns =>
      (repeat' (first | exact List.forall_mem_nil _ | refine sub_cons (by k_mem) ?_ | (intro q hq; (repeat (first | exact hq | refine List.mem_cons_of_mem _ ?_)); done)))
    case nH => exact List.forall_mem_cons.mpr ⟨Nat.ne_of_gt a1.2, List.forall_mem_cons.mpr ⟨Nat.ne_of_gt a1.1, hH3⟩⟩
    case nA => exact List.forall_mem_cons.mpr ⟨Nat.ne_of_gt a2.2, List.forall_mem_cons.mpr ⟨Nat.ne_of_gt a2.1, hnA⟩⟩
    case nB => exact List.forall_mem_cons.mpr ⟨Nat.ne_of_gt a3.2, List.forall_mem_cons.mpr ⟨Nat.ne_of_gt a3.1, hnB⟩⟩
    intro m3 h3 tk3 news3 F3 N3 G3 G4 G5
    exact ret _ _ _ _ F3 N3 G3 G4 G5
end
end

section
open PySem PySem.W PyProof.Rows PySem.Spec PySem.Calls
set_option Elab.async false
set_option maxRecDepth 100000
set_option maxHeartbeats 8000000
local macro_rules | `(tactic| walk_at "call ref") => `(tactic| (refine stop_of ?_))
theorem Spot.mono {led led' : List (Addr × Obj)} {v : Value} {k : Int} (h : Spot led v k) (hs : ∀ q ∈ led, q ∈ led') : Spot led' v k :=
  ⟨h.ex.imp fun _ => Exists.imp fun _ => Exists.imp fun _ => Exists.imp fun _ => Exists.imp fun _ => Exists.imp fun _ => Exists.imp fun _ => Exists.imp fun _ => Exists.imp fun _ => Exists.imp fun _ x => ⟨x.1, x.2.1, x.2.2.1, x.2.2.2.1, hs _ x.2.2.2.2.1, x.2.2.2.2.2⟩⟩
section
variable {w : World} {p : Program} {loose : List Str} {mean : ExcName → Option Value} {mg mb : Str → Option Value} {dp un : Nat} {gd : Option (List Code)} {outer : List Env} {A₀ : Around} {base h₀ : Heap} {L fa : Addr} {m : Str → Option Value} {news led : List (Addr × Obj)} {s : Shared}
    {Q : Flow → Shared → Prop} {E : Value → Shared → Prop}
theorem law8 (lg lc cS cL cF cH cC : Addr) (n size leap first : Int) (tn tS tL tF : Tok) (oS oL oF oH oC : Obj) (hue : Int → Int) (gvs cvs : List Value) (gs : List Int) (kg kc : Nat) (ps qs : Array Value) (rest : List (Addr × Obj)) (u : Str → Option Value)
    (B : Below A₀ base outer h₀) (X : (hd.heap_39 w.params).In h₀) (T : Top p loose mean mg mb h₀) (CA : CodeHd base 34 30) (CB : CodeHd base 41 37)
    (F : Fr h₀ L s.heap (kstB u [("given", .ref lg), ("count", .int n tn)])) (CC : CodeHd base 131 129) (N : News h₀ L s.heap ((129, tabObj #[]) :: (cH, oH) :: (30, tabObj ps) :: (37, tabObj qs) :: rest)) (dH : oH.data = .cell none) (hH1 : 30 < cH) (hH2 : 37 < cH) (hH3 : ∀ q ∈ rest, q.1 ≠ cH) (hH4 : 129 < cH) (hM : ∀ q ∈ rest, q.1 ≠ 129)
    (hnA : ∀ q ∈ rest, q.1 ≠ 30) (hnB : ∀ q ∈ rest, q.1 ≠ 37) (hsA : TabSt 32 4 qualA ps rest) (hsB : TabSt 47 4 qualB qs rest)
    (mS : (cS, oS) ∈ rest) (dS : oS.data = .cell (some (.int size tS))) (mL : (cL, oL) ∈ rest) (dL : oL.data = .cell (some (.int leap tL))) (mF : (cF, oF) ∈ rest) (dF : oF.data = .cell (some (.int first tF)))
    (mlg : (lg, listOf gvs.toArray kg) ∈ rest) (hgv : IntsAre gvs gs) 
    (mC : (cC, oC) ∈ rest) (dC : oC.data = .cell (some (.ref lc))) (mlc : (lc, listOf cvs.toArray kc) ∈ rest) (hsp : ∀ i : Int, 0 ≤ i → i < n → ∃ v, cvs[i.toNat]? = some v ∧ Spot rest v (hue i))
    (hn0 : 4 ≤ n) (hn1 : n ≤ 8) (hz0 : 8 ≤ size) (hz1 : size ≤ 1024) (hl0 : 0 ≤ leap) (hl1 : leap < 3 * size) (hf0 : 0 ≤ first) (hf1 : first < 3 * size) (hdp : dp + 120 < recursionLimit) (hun : un + 1200 < cLine)
    (hgl : gs.length ≤ 5) {c : Int} (hc : size * c = 2 ^ 20) (hc0 : 0 < c) (hc1 : c ≤ 2 ^ 17) (hhue : ∀ i, hue i = ((first + i * leap) % size) * c)
    (hE : PassesOwn (model PySem.Challenge.rw_pe0247_01.row.prog w) (ktrTop dp un gd "law" (defScope lawDef) L fa (.ref 131) [("colours", cC), ("hues", cH), ("first", cF), ("leap", cL), ("size", cS)] outer) (envX "law" (defScope lawDef) L fa (.ref 131) [("colours", cC), ("hues", cH), ("first", cF), ("leap", cL), ("size", cS)]) E)
    (ret : ∀ m' h' tk news', Fr h₀ L h' m' → News h₀ L h' news' → GrownAt 30 h' → GrownAt 37 h' → GrownAt 129 h' → Q (.ret (.bool true)) { s with heap := h', toks := tk }) :
    wpAny (model PySem.Challenge.rw_pe0247_01.row.prog w) (ktrTop dp un gd "law" (defScope lawDef) L fa (.ref 131) [("colours", cC), ("hues", cH), ("first", cF), ("leap", cL), ("size", cS)] outer) (execs ((defBody lawDef).drop 8) (envX "law" (defScope lawDef) L fa (.ref 131) [("colours", cC), ("hues", cH), ("first", cF), ("leap", cL), ("size", cS)])) Q E s := by
  have eb : (defBody lawDef).drop 8 = (defBody lawDef).drop 8 := rfl
  conv at eb => rhs; whnf
  have es : defScope lawDef = defScope lawDef := rfl
  conv at es => rhs; whnf
  rw [eb, es]
  clear eb es
  dsimp only [kstB] at F
  revert X; k_fill; intro X
  (with_reducible show wpAny _ _ (execs _ _) _ _ _)
  refine execs_cut (a := [_, _, _, _]) ?_
  k_steps
  (with_reducible show wpAny _ _ (eval _ _) _ _ _)
  have hA30 : (30 : Nat) ≠ 129 := by decide
  have hA37 : (37 : Nat) ≠ 129 := by decide
  have CC' : CodeHd h₀ 131 129 := CodeHd.keeps CC (Below.stays B)
  refine' kla_eval rfl ?_
  refine' kla_nest F N T CC' rfl (UpdF.head (List.forall_mem_cons.mpr ⟨Nat.ne_of_gt hH4, List.forall_mem_cons.mpr ⟨hA30, List.forall_mem_cons.mpr ⟨hA37, hM⟩⟩⟩)) (by kn_triples) (by kn_among) rfl ?_
  intro kv c1 oc1 vs1 t1 ctv1 h1 tk1 F1 N1 d1 d1' l1 l1'
  (try dsimp only at N1)
  obtain ⟨o1, qual1, pm1, ho1, d1', N1⟩ : ∃ (o : Obj) (qual : Str) (pm : Value), o = kla_obj "<lambda>" qual (lamParams (assignVal (lawAt 8))) (lamBody (assignVal (lawAt 8))) (lamScope (assignVal (lawAt 8))) [("colours", cC)] pm c1 ctv1 ∧ vs1[1]? = some (.str qual t1) ∧
      News h₀ L h1 ((kv, o) :: (c1, oc1) :: (129, tabObj (#[] ++ #[rawInt (226 : Nat), rawInt (15 : Nat), .ref c1])) :: (cH, oH) :: (30, tabObj ps) :: (37, tabObj qs) :: rest) := ⟨_, _, _, rfl, d1', N1⟩
  (try dsimp only)
  k_steps
  rename_i h3 F3 N3
  (with_reducible show wpAny _ _ (eval _ _) _ _ _)
  have x129 := l1 (129, tabObj #[]) (List.mem_cons_self ..)
  refine' kla_eval rfl ?_
  refine' kla_nest F3 N3 T CC' rfl (UpdF.tail (Nat.ne_of_gt (Nat.lt_trans x129 l1')) (UpdF.tail (Nat.ne_of_gt x129) (UpdF.head (List.forall_mem_cons.mpr ⟨Nat.ne_of_gt hH4, List.forall_mem_cons.mpr ⟨hA30, List.forall_mem_cons.mpr ⟨hA37, hM⟩⟩⟩)))) (by kn_triples) (by kn_among) rfl ?_
  intro kl c2 oc2 vs2 t2 ctv2 h4 tk4 F4 N4 d2 d2' l2 l2'
  (try dsimp only at N4)
  obtain ⟨o2, rs9, qual2, pm2, ho2, d2', N4⟩ : ∃ (o : Obj) (rs9 : Array Value) (qual : Str) (pm : Value), o = kla_obj "<lambda>" qual (lamParams (assignVal (lawAt 9))) (lamBody (assignVal (lawAt 9))) (lamScope (assignVal (lawAt 9))) [("colours", cC)] pm c2 ctv2 ∧ vs2[1]? = some (.str qual t2) ∧
      News h₀ L h4 ((kl, o) :: (c2, oc2) :: (kv, o1) :: (c1, oc1) :: (129, tabObj rs9) :: (cH, oH) :: (30, tabObj ps) :: (37, tabObj qs) :: rest) := ⟨_, _, _, _, rfl, d2', N4⟩
  (try dsimp only)
  k_steps
  rename_i hA tA lr hB lA hC tB lo hD lB hE9 F5 N5
  (try dsimp only)
  unfold Cut
  have y30 := l1 (30, tabObj ps) (by simp)
  have y37 := l1 (37, tabObj qs) (by simp)
  have yH := l1 (cH, oH) (by simp)
  have z1 := l2 (c1, oc1) (by simp)
  have sub : ∀ q ∈ rest, q ∈ (kl, o2) :: (c2, oc2) :: (kv, o1) :: (c1, oc1) :: (129, tabObj rs9) :: rest := fun q hq => List.mem_cons_of_mem _ (List.mem_cons_of_mem _ (List.mem_cons_of_mem _ (List.mem_cons_of_mem _ (List.mem_cons_of_mem _ hq))))
  have far : ∀ b : Nat, b < c1 → b ≠ 129 → (∀ q ∈ rest, q.1 ≠ b) → ∀ q ∈ (kl, o2) :: (c2, oc2) :: (kv, o1) :: (c1, oc1) :: (129, tabObj rs9) :: rest, q.1 ≠ b := fun b hb h129 hr => List.forall_mem_cons.mpr ⟨Nat.ne_of_gt (Nat.lt_trans hb (Nat.lt_trans z1 l2')), List.forall_mem_cons.mpr ⟨Nat.ne_of_gt (Nat.lt_trans hb z1), List.forall_mem_cons.mpr ⟨Nat.ne_of_gt (Nat.lt_trans hb l1'), List.forall_mem_cons.mpr ⟨Nat.ne_of_gt hb, List.forall_mem_cons.mpr ⟨Ne.symm h129, hr⟩⟩⟩⟩⟩
  have hs' : ∀ i : Int, 0 ≤ i → i < n → ∃ v, cvs[i.toNat]? = some v ∧ Spot ((kl, o2) :: (c2, oc2) :: (kv, o1) :: (c1, oc1) :: (129, tabObj rs9) :: rest) v (hue i) := fun i h0 h1 => let ⟨v, e, sp⟩ := hsp i h0 h1; ⟨v, e, sp.mono sub⟩
  have m1 : (kv, o1) ∈ (kl, o2) :: (c2, oc2) :: (kv, o1) :: (c1, oc1) :: (129, tabObj rs9) :: rest := by simp
  have m2 : (kl, o2) ∈ (kl, o2) :: (c2, oc2) :: (kv, o1) :: (c1, oc1) :: (129, tabObj rs9) :: rest := by simp
  have m1c : (c1, oc1) ∈ (kl, o2) :: (c2, oc2) :: (kv, o1) :: (c1, oc1) :: (129, tabObj rs9) :: rest := by simp
  have m2c : (c2, oc2) ∈ (kl, o2) :: (c2, oc2) :: (kv, o1) :: (c1, oc1) :: (129, tabObj rs9) :: rest := by simp
  have m1x : (kv, kla_obj "<lambda>" qual1 (lamParams (assignVal (lawAt 8))) (lamBody (assignVal (lawAt 8))) (lamScope (assignVal (lawAt 8))) [("colours", cC)] pm1 c1 ctv1) ∈ (kl, o2) :: (c2, oc2) :: (kv, o1) :: (c1, oc1) :: (129, tabObj rs9) :: rest := by rw [← ho1]; exact m1
  have K1 : KeyOK w p loose mean mg mb ((kl, o2) :: (c2, oc2) :: (kv, o1) :: (c1, oc1) :: (129, tabObj rs9) :: rest) kv n hue := byValue_ok m1x m1c d1 d1' (sub _ mC) dC (sub _ mlc) (by omega) hs'
  have m2x : (kl, kla_obj "<lambda>" qual2 (lamParams (assignVal (lawAt 9))) (lamBody (assignVal (lawAt 9))) (lamScope (assignVal (lawAt 9))) [("colours", cC)] pm2 c2 ctv2) ∈ (kl, o2) :: (c2, oc2) :: (kv, o1) :: (c1, oc1) :: (129, tabObj rs9) :: rest := by rw [← ho2]; exact m2
  have K2 : KeyOK w p loose mean mg mb ((kl, o2) :: (c2, oc2) :: (kv, o1) :: (c1, oc1) :: (129, tabObj rs9) :: rest) kl n hue := byLight_ok m2x m2c d2 d2' (sub _ mC) dC (sub _ mlc) (by omega) hs'
  clear m1x m2x
  have hG9 : (129, tabObj rs9) ∈ (kl, o2) :: (c2, oc2) :: (kv, o1) :: (c1, oc1) :: (129, tabObj rs9) :: rest := by simp
  generalize hR : (kl, o2) :: (c2, oc2) :: (kv, o1) :: (c1, oc1) :: (129, tabObj rs9) :: rest = rest' at *
  rw [ho1] at m1
  rw [ho2] at m2
  refine' law12 (led := rest') kv kl lr lo lg cS cL cF cH cC n size leap first tn tS tL tF oS oL oF oH hue gvs gs kg ps qs rest' _ B X T CA CB (fr_kst F5 ?FF) (cb_drop N5 ?Ns) dH hH1 hH2 (far cH yH (Nat.ne_of_gt hH4) hH3) lB.1 ?hr2 (far 30 y30 hA30 hnA) (far 37 y37 hA37 hnB) (hsA.mono sub) (hsB.mono sub) ⟨_, hG9⟩
      (sub _ mS) dS (sub _ mL) dL (sub _ mF) dF (sub _ mlg) hgv m1 m2 (fun q hq => hq) K1 K2 hn0 hn1 hz0 hz1 hl0 hl1 hf0 hf1 hdp hun hgl hc hc0 hc1 hhue hE ?_
  case FF => (repeat' (first | exact List.forall_mem_nil _ | refine all_cons (by rfl) ?_))
  case Ns =>
    intro q hq
    rw [← hR] at hq
    revert hq
    revert q
    (repeat' (first | exact List.forall_mem_nil _ | refine sub_cons (by k_mem) ?_ | (intro q hq; (repeat (first | exact hq | refine List.mem_cons_of_mem _ ?_)); done)))
  case hr2 =>
    rw [← hR]
    have al := (TailLt.of lA.2.2.2.2.2.2.2.2).lt
    exact List.forall_mem_cons.mpr ⟨lA.2.2.2.2.2.1, List.forall_mem_cons.mpr ⟨lA.2.2.2.2.2.2.1, List.forall_mem_cons.mpr ⟨lA.2.2.2.2.2.2.2.1, List.forall_mem_cons.mpr ⟨lA.1, List.forall_mem_cons.mpr ⟨lA.2.1, List.forall_mem_cons.mpr ⟨lA.2.2.1, List.forall_mem_cons.mpr ⟨lA.2.2.2.1, List.forall_mem_cons.mpr ⟨lA.2.2.2.2.1, al⟩⟩⟩⟩⟩⟩⟩⟩
  intro m3 h3' tk3 news3 F6 N6 G3 G4 G5
  exact ret _ _ _ _ F6 N6 G3 G4 G5
end
end

section
open PySem PySem.W PyProof.Rows PySem.Spec PySem.Calls
set_option Elab.async false
set_option maxRecDepth 100000
set_option maxHeartbeats 8000000
section
variable {w : World} {p : Program} {loose : List Str} {mean : ExcName → Option Value} {mg mb : Str → Option Value} {dp un : Nat} {gd : Option (List Code)} {cn : Str} {cs : Scope} {a : Addr} {ccd : Value} {cl : List (Str × Addr)} {outer : List Env} {A₀ : Around} {base h₀ : Heap} {L : Addr} {m : Str → Option Value} {news : List (Addr × Obj)} {s : Shared}
    {Q E : Value → Shared → Prop}
theorem spot_back (x y z : UInt64) (t1 t2 t3 : Tok) (R s9 v9 : Int) (hx : x = fx (R * 1024)) (hy : y = fx (s9 * 2 ^ 18)) (hz : z = fx (v9 * 2 ^ 18)) (hR0 : 0 ≤ R) (hR1 : R < 24 * 1024) (hs0 : 1 ≤ s9) (hs1 : s9 ≤ 4) (hv0 : 1 ≤ v9) (hv1 : v9 ≤ 4)
    (B : Below A₀ base outer h₀) (F : Fr h₀ L s.heap m) (X : (hd.heap_39 w.params).In h₀) (N : News h₀ L s.heap news) (T : Top p loose mean mg mb h₀) (hk : cs.kind = .function)
    (hdp : dp + 2 < recursionLimit) (hun : un + 16 < cLine) (hst : 0 < s.toks) (ht1 : 0 < t1) (ht2 : 0 < t2) (ht3 : 0 < t3)
    (ret : ∀ rr gg bb, ToldFacts rr gg bb (fx (R % 1024 * 1024)) s9 v9 → HueIs rr gg bb (R % 1024 * 1024) → ∀ (D : Addr) (u1 u2 u3 : Tok) h' tk, s.toks ≤ tk → 0 < u1 → 0 < u2 → 0 < u3 → Fr h₀ L h' m → News h₀ L h' ((D, ({ cls := .type "tuple", data := .seq #[.float rr u1, .float gg u2, .float bb u3] } : Obj)) :: news) → (∀ q ∈ news, q.1 < D) → Q (.ref D) { s with heap := h', toks := tk }) :
    wpAny (model PySem.Challenge.rw_pe0247_01.row.prog w) (ktrTop dp un gd cn cs L a ccd cl outer) (call (.ref 113) [.float x t1, .float y t2, .float z t3]) Q E s := by
  subst hx hy hz
  obtain ⟨hTF, hHU⟩ := told_facts hR0 hR1 hs0 hs1 hv0 hv1
  obtain ⟨ra, rb, rc⟩ := rgb_asks hR0 hR1
  refine rgb_back _ _ _ t1 t2 t3 B F X N T hk hdp hun hst ht1 ht2 ht3 (sat_asks hs0 hs1) ra rb rc fun D o h' tk hle F' N' l ht => ?_
  obtain ⟨u1, u2, u3, q1, q2, q3, rfl⟩ := ht
  exact ret _ _ _ hTF ⟨hHU⟩ D u1 u2 u3 h' tk hle (Nat.pos_of_ne_zero q1) (Nat.pos_of_ne_zero q2) (Nat.pos_of_ne_zero q3) F' N' l
end
structure CvS where
  cvs : List Value
  kc : Nat
  tl : List (Addr × Obj)
structure CvInv (hue : Int → Int) (lc : Addr) (i : Nat) (c : CvS) : Prop where
  len : c.cvs.length = i
  sp : ∀ j : Nat, j < i → ∃ v, c.cvs[j]? = some v ∧ Spot c.tl v (hue j)
  far : ∀ q ∈ c.tl, lc < q.1
theorem small_over {x : Int} (h : x.natAbs ≤ 4) : ¬ Flt.Over x := by
  have : (4 : Nat) < 2 ^ 1024 - 2 ^ 970 := by decide +kernel
  intro h2
  have h3 : 2 ^ 1024 - 2 ^ 970 ≤ x.natAbs := h2
  exact absurd (Nat.le_trans h3 h) (Nat.not_le.mpr this)
theorem mod4 (a : Int) : 1 ≤ 1 + a.fmod 4 ∧ 1 + a.fmod 4 ≤ 4 := by
  rw [Int.fmod_eq_emod_of_nonneg _ (by decide)]; (first | lia | omega)
/-- the wheel's place in 1024ths -/
theorem wheel {first leap size c c' i : Int} (hs : 8 ≤ size) (hcc : size * c' = 1024) (hcc1 : c = c' * 1024) (hcc0 : 0 < c') (hf0 : 0 ≤ first) (hf1 : first < 3 * size) (hl0 : 0 ≤ leap) (hl1 : leap < 3 * size) (hi0 : 0 ≤ i) (hi1 : i ≤ 7) (hz1 : size ≤ 1024) :
    0 ≤ first + i * leap ∧ first + i * leap < 2 ^ 30 ∧ 0 ≤ (first + i * leap) * c' ∧ (first + i * leap) * c' < 24 * 1024 ∧ (first + i * leap) * c = (first + i * leap) * c' * 1024 ∧ ((first + i * leap) % size) * c = ((first + i * leap) * c') % 1024 * 1024 := by
  have a0 := Int.mul_nonneg hi0 hl0
  have a1 : i * leap ≤ 7 * leap := Int.mul_le_mul_of_nonneg_right hi1 hl0
  have b0 : 0 ≤ first + i * leap := by (first | lia | omega)
  have b1 : first + i * leap < 24 * size := by (first | lia | omega)
  generalize first + i * leap = H at *
  have d0 := Int.mul_nonneg b0 (Int.le_of_lt hcc0)
  have d1 : H * c' < 24 * size * c' := Int.mul_lt_mul_of_pos_right b1 hcc0
  have d2 : 24 * size * c' = 24 * 1024 := by rw [Int.mul_assoc, hcc]
  refine ⟨b0, by (first | lia | omega), d0, by (first | lia | omega), by rw [hcc1, Int.mul_assoc], ?_⟩
  have e : (H % size) * c' = (H * c') % 1024 := by
    rw [← hcc, Int.mul_comm H, Int.mul_comm size, Int.mul_emod_mul_of_pos _ _ hcc0, Int.mul_comm]
  rw [hcc1, ← Int.mul_assoc, e]
local macro_rules | `(tactic| walk_at "call ref") => `(tactic| (refine stop_of ?_))
local macro_rules | `(tactic| walk_at "call type:range") => `(tactic| (k_here; (with_unfolding_all refine' range1_rows ?F ?N ?_; (case F => k_asm); (case N => k_asm)); intro _ _ _ _ _ _ _ _ _))
local macro_rules | `(tactic| walk_at "pyIter ref") => `(tactic| (refine stop_of ?_))
local macro_rules | `(tactic| walk_at "call builtin:list.append") => `(tactic| (refine stop_of ?_))
section
variable {w : World} {p : Program} {loose : List Str} {mean : ExcName → Option Value} {mg mb : Str → Option Value} {dp un : Nat} {gd : Option (List Code)} {outer : List Env} {A₀ : Around} {base h₀ : Heap} {L fa : Addr} {m : Str → Option Value} {news led : List (Addr × Obj)} {s : Shared}
    {Q : Flow → Shared → Prop} {E : Value → Shared → Prop}
theorem law7 (lg lc ld cS cL cF cH cC : Addr) (n size leap first : Int) (tn tS tL tF : Tok) (oS oL oF oH oC : Obj) (hue : Int → Int) (gvs dvs : List Value) (gs : List Int) (d0 d1 d2 : Int) (kg kd : Nat) (ps qs : Array Value) (rest : List (Addr × Obj)) (u : Str → Option Value)
    (B : Below A₀ base outer h₀) (X : (hd.heap_39 w.params).In h₀) (T : Top p loose mean mg mb h₀) (CA : CodeHd base 34 30) (CB : CodeHd base 41 37)
    (F : Fr h₀ L s.heap (kstB u [("given", .ref lg), ("drawn", .ref ld), ("count", .int n tn)])) (CC : CodeHd base 131 129) (N : News h₀ L s.heap ((lc, listOf #[] 0) :: (129, tabObj #[]) :: (cH, oH) :: (30, tabObj ps) :: (37, tabObj qs) :: rest)) (dH : oH.data = .cell none) (hH1 : 30 < cH) (hH2 : 37 < cH) (hH3 : ∀ q ∈ rest, q.1 ≠ cH) (hH4 : 129 < cH) (hM : ∀ q ∈ rest, q.1 ≠ 129)
    (hnA : ∀ q ∈ rest, q.1 ≠ 30) (hnB : ∀ q ∈ rest, q.1 ≠ 37) (hsA : TabSt 32 4 qualA ps rest) (hsB : TabSt 47 4 qualB qs rest)
    (mS : (cS, oS) ∈ rest) (dS : oS.data = .cell (some (.int size tS))) (mL : (cL, oL) ∈ rest) (dL : oL.data = .cell (some (.int leap tL))) (mF : (cF, oF) ∈ rest) (dF : oF.data = .cell (some (.int first tF)))
    (mlg : (lg, listOf gvs.toArray kg) ∈ rest) (hgv : IntsAre gvs gs) 
    (mC : (cC, oC) ∈ rest) (dC : oC.data = .cell (some (.ref lc))) (mld : (ld, listOf dvs.toArray kd) ∈ rest) (hdv : IntsAre dvs [d0, d1, d2]) (hd20 : 0 ≤ d2) (hd21 : d2 < 2 ^ 30) (hlc : ∀ q ∈ (129, tabObj #[]) :: (cH, oH) :: (30, tabObj ps) :: (37, tabObj qs) :: rest, q.1 < lc)
    (hn0 : 4 ≤ n) (hn1 : n ≤ 8) (hz0 : 8 ≤ size) (hz1 : size ≤ 1024) (hl0 : 0 ≤ leap) (hl1 : leap < 3 * size) (hf0 : 0 ≤ first) (hf1 : first < 3 * size) (hdp : dp + 120 < recursionLimit) (hun : un + 1200 < cLine)
    (hgl : gs.length ≤ 5) {c : Int} (hc : size * c = 2 ^ 20) (hc0 : 0 < c) (hc1 : c ≤ 2 ^ 17) {c' : Int} (hcc : size * c' = 1024) (hcc1 : c = c' * 1024) (hcc0 : 0 < c') (hhue : ∀ i, hue i = ((first + i * leap) % size) * c)
    (hE : PassesOwn (model PySem.Challenge.rw_pe0247_01.row.prog w) (ktrTop dp un gd "law" (defScope lawDef) L fa (.ref 131) [("colours", cC), ("hues", cH), ("first", cF), ("leap", cL), ("size", cS)] outer) (envX "law" (defScope lawDef) L fa (.ref 131) [("colours", cC), ("hues", cH), ("first", cF), ("leap", cL), ("size", cS)]) E)
    (ret : ∀ m' h' tk news', Fr h₀ L h' m' → News h₀ L h' news' → GrownAt 30 h' → GrownAt 37 h' → GrownAt 129 h' → Q (.ret (.bool true)) { s with heap := h', toks := tk }) :
    wpAny (model PySem.Challenge.rw_pe0247_01.row.prog w) (ktrTop dp un gd "law" (defScope lawDef) L fa (.ref 131) [("colours", cC), ("hues", cH), ("first", cF), ("leap", cL), ("size", cS)] outer) (execs ((defBody lawDef).drop 7) (envX "law" (defScope lawDef) L fa (.ref 131) [("colours", cC), ("hues", cH), ("first", cF), ("leap", cL), ("size", cS)])) Q E s := by
  have eb : (defBody lawDef).drop 7 = (defBody lawDef).drop 7 := rfl
  conv at eb => rhs; whnf
  have es : defScope lawDef = defScope lawDef := rfl
  conv at es => rhs; whnf
  rw [eb, es]
  clear eb es
  dsimp only [kstB] at F
  revert X; k_fill; intro X
  (with_reducible show wpAny _ _ (execs _ _) _ _ _)
  refine execs_cut (a := [_]) ?_
  k_steps
  unfold Stop
  (with_reducible show wpAny _ _ (pyIter _) _ _ _)
  have bl : ∀ q ∈ (129, tabObj #[]) :: (cH, oH) :: (30, tabObj ps) :: (37, tabObj qs) :: rest, q.1 ≠ lc := fun q hq => Nat.ne_of_lt (hlc q hq)
  refine' for_range (σ := CvS) (b₀ := n) (n := n.toNat) (fun c => (lc, listOf c.cvs.toArray c.kc) :: (c.tl ++ ((129, tabObj #[]) :: (cH, oH) :: (30, tabObj ps) :: (37, tabObj qs) :: rest))) (fun _ => [("given", .ref lg), ("drawn", .ref ld), ("count", .int n tn)]) ["s", "v", "colour"] (CvInv hue lc) ⟨[], 0, []⟩ ?hh ?hr (range_small (by (first | lia | omega)) (by (first | lia | omega))) (range_size (by (first | lia | omega))) ?F ?N ?hk ?h0 ?turn ?done
  case hh => exact rfl
  case hr => assumption
  case F => assumption
  case N => assumption
  case hk => (repeat' (first | exact List.forall_mem_nil _ | refine all_cons (by rfl) ?_))
  case h0 => exact ⟨rfl, fun j hj => absurd hj (Nat.not_lt_zero _), fun q hq => nomatch hq⟩
  case turn =>
    intro i t9 c2 u2 h2 tk2 I oI hi hI hoff hI0 F2 N2
    have hlv := hI.len
    have upm : ∀ q ∈ rest, q ∈ (lc, listOf c2.cvs.toArray c2.kc) :: (c2.tl ++ ((129, tabObj #[]) :: (cH, oH) :: (30, tabObj ps) :: (37, tabObj qs) :: rest)) := fun q hq => List.mem_cons_of_mem _ (List.mem_append_right _ (List.mem_cons_of_mem _ (List.mem_cons_of_mem _ (List.mem_cons_of_mem _ (List.mem_cons_of_mem _ hq)))))
    have mS := upm _ mS
    have mL := upm _ mL
    have mF := upm _ mF
    have mC := upm _ mC
    have mld := upm _ mld
    have hdl := hdv.length
    dsimp only [kstB] at F2
    obtain ⟨w0, w1, w2, w3, w4, w5⟩ := wheel (i := (i : Int)) hz0 hcc hcc1 hcc0 hf0 hf1 hl0 hl1 (by (first | lia | omega)) (by (first | lia | omega)) hz1
    have hpl := place_fx w0 w1 hz0 hz1 hc hc1 hc0
    have hni : Float64.isInf (fx ((first + (i : Int) * leap) * c)) = false := isInf_fx (by rw [w4]; (first | lia | omega))
    have hS := mod4 ([d0, d1, d2].getD (Int.toNat 2) 0 + (i : Int))
    have hV := mod4 (([d0, d1, d2].getD (Int.toNat 2) 0).fdiv 4 + 3 * (i : Int))
    k_steps
    unfold Stop
    (with_reducible show wpAny _ _ (call (Value.ref _) _) _ _ _)
    refine' spot_back _ _ _ _ _ _ _ _ _ ((hpl.trans (congrArg fx w4))) (fx_sat hS.1 hS.2) (fx_sat hV.1 hV.2) w2 w3 hS.1 hS.2 hV.1 hV.2 ?B ?F ?X ?N ?T rfl ?hdp ?hun ?hs0 ?t1 ?t2 ?t3 ?_
    case B => k_asm
    case F => k_asm
    case X => k_asm
    case N => k_asm
    case T => k_asm
    case hdp => (first | lia | omega)
    case hun => (first | lia | omega)
    case hs0 => first | exact Nat.succ_pos _ | (dsimp only; (first | lia | omega))
    case t1 => first | exact Nat.succ_pos _ | (dsimp only; (first | lia | omega))
    case t2 => first | exact Nat.succ_pos _ | (dsimp only; (first | lia | omega))
    case t3 => first | exact Nat.succ_pos _ | (dsimp only; (first | lia | omega))
    clear hpl hni
    intro rr gg bb hTF hHI D3 u1 u2 u3 h3 tk3 hle3 q1 q2 q3 F3 N3 l3
    have hfm : (first + (i : Int) * leap).fmod size = (first + (i : Int) * leap) % size := Int.fmod_eq_emod_of_nonneg _ (by (first | lia | omega))
    have hm0 : 0 ≤ (first + (i : Int) * leap).fmod size ∧ (first + (i : Int) * leap).fmod size < size := by
      rw [hfm]; exact ⟨Int.emod_nonneg _ (by (first | lia | omega)), Int.emod_lt_of_pos _ (by (first | lia | omega))⟩
    have hlt3 : lc ≠ D3 := Nat.ne_of_lt (l3 (lc, listOf c2.cvs.toArray c2.kc) (by simp))
    (try dsimp only)
    k_steps
    unfold Stop
    (with_reducible show wpAny _ _ (call (Value.ref _) _) _ _ _)
    refine' told_back rr gg bb _ _ _ u1 u2 u3 _ _ _ D3 ?B ?F ?X ?N ?T rfl ?hdp ?hun ?hs0 q1 q2 q3 ?t4 ?hc (by (first | lia | omega)) (by (first | lia | omega)) (by (first | lia | omega)) (by (first | lia | omega)) ?H ?_
    case B => k_asm
    case F => k_asm
    case X => k_asm
    case N => k_asm
    case T => k_asm
    case hdp => (first | lia | omega)
    case hun => (first | lia | omega)
    case hs0 => first | exact Nat.succ_pos _ | (dsimp only; (first | lia | omega))
    case t4 => first | exact Nat.succ_pos _ | (dsimp only; (first | lia | omega))
    case hc => exact List.mem_cons_self ..
    case H =>
      have hpl2 := place_fx (a := (first + (i : Int) * leap).fmod size) hm0.1 (by (first | lia | omega)) hz0 hz1 hc hc1 hc0
      rw [hpl2, hfm, w5]
      exact hTF
    intro h5 tk5 hle5 F5 N5
    (try dsimp only)
    k_steps
    unfold Stop
    (with_reducible show wpAny _ _ (call (Value.builtin _) [Value.ref _, _]) _ _ _)
    have hIl : I ≠ lc := fun e => hoff (lc, listOf c2.cvs.toArray c2.kc) (List.mem_cons_self ..) e.symm
    refine' append_K (D := lc) ?F ?N (Upd.tail (p := (D3, _)) (Ne.symm hlt3) (Upd.tail (p := (I, oI)) hIl (Upd.head ?U))) ?_ ?z
    case F => k_asm
    case N => assumption
    case U =>
      intro q hq
      rcases List.mem_append.mp hq with hq | hq
      · exact Nat.ne_of_gt (hI.far q hq)
      · exact bl q hq
    case z => (simp only [List.size_toArray, PySem.sizeLine_eq]; (first | lia | omega))
    intro h6 F6 N6
    (try dsimp only)
    k_steps
    refine' for_end (x := "i") (CvS.mk (c2.cvs ++ [.ref D3]) (c2.kc + 1) ((D3, ({ cls := .type "tuple", data := .seq #[.float rr u1, .float gg u2, .float bb u3] } : Obj)) :: c2.tl)) F6 N6 ?hn ?ho ?hk ?hr ⟨?len, ?sp, ?far⟩
    case hn =>
      simp only [List.push_toArray]
      (repeat' (first | exact List.forall_mem_nil _ | refine sub_cons (by k_mem) ?_ | (intro q hq; (repeat (first | exact hq | refine List.mem_cons_of_mem _ ?_)); done)))
    case ho =>
      refine List.forall_mem_cons.mpr ⟨hIl.symm, fun q hq => ?_⟩
      rcases List.mem_cons.mp hq with h | h
      · rw [h]; exact Nat.ne_of_gt (l3 (I, oI) (by simp))
      · exact hoff q (List.Mem.tail _ h)
    case hk => (repeat' (first | exact List.forall_mem_nil _ | refine all_cons (by rfl) ?_))
    case hr =>
      intro z z1 z2 z3
      simp only [List.forall_mem_cons, List.not_mem_nil, false_implies, implies_true, and_true, ne_eq] at z2
      simp only [List.contains_cons, List.contains_nil, Bool.or_false, Bool.or_eq_false_iff, beq_eq_false_iff_ne, ne_eq] at z3
      simp [z1, z2, z3]
    case len => simp [hlv]
    case sp =>
      intro j hj
      by_cases e : j = i
      · subst e
        refine ⟨.ref D3, by simp [← hlv], ⟨D3, rr, gg, bb, u1, u2, u3, _, _, _, rfl, q1, q2, q3, List.mem_cons_self .., hTF, ?_⟩⟩
        rw [hhue, w5]; exact hHI
      · obtain ⟨v, e1, sp⟩ := hI.sp j (by (first | lia | omega))
        refine ⟨v, ?_, sp.mono fun q hq => List.mem_cons_of_mem _ hq⟩
        rw [List.getElem?_append_left (by (first | lia | omega))]; exact e1
    case far => exact List.forall_mem_cons.mpr ⟨l3 (lc, listOf c2.cvs.toArray c2.kc) (by simp), hI.far⟩
  case done =>
    intro c2 u2 h2 tk2 hI F2 N2
    (try dsimp only)
    k_steps
    (try dsimp only)
    unfold Cut
    have sub : ∀ q ∈ rest, q ∈ (lc, listOf c2.cvs.toArray c2.kc) :: (c2.tl ++ rest) := fun q hq => List.mem_cons_of_mem _ (List.mem_append_right _ hq)
    have g129 := hlc (129, tabObj #[]) (by simp)
    have gH := hlc (cH, oH) (by simp)
    have g30 := hlc (30, tabObj ps) (by simp)
    have g37 := hlc (37, tabObj qs) (by simp)
    have far : ∀ b : Nat, b < lc → (∀ q ∈ rest, q.1 ≠ b) → ∀ q ∈ (lc, listOf c2.cvs.toArray c2.kc) :: (c2.tl ++ rest), q.1 ≠ b := fun b hb hr => List.forall_mem_cons.mpr ⟨Nat.ne_of_gt hb, fun q hq => by
      rcases List.mem_append.mp hq with h | h
      · exact Nat.ne_of_gt (Nat.lt_trans hb (hI.far q h))
      · exact hr q h⟩
    refine' law8 lg lc cS cL cF cH cC n size leap first tn tS tL tF oS oL oF oH oC hue gvs c2.cvs gs kg c2.kc ps qs ((lc, listOf c2.cvs.toArray c2.kc) :: (c2.tl ++ rest)) _ B X T CA CB (fr_kst F2 ?FF) CC (cb_drop N2 ?Ns) dH hH1 hH2 (far cH gH hH3) hH4 (far 129 g129 hM) (far 30 g30 hnA) (far 37 g37 hnB) (hsA.mono sub) (hsB.mono sub)
      (sub _ mS) dS (sub _ mL) dL (sub _ mF) dF (sub _ mlg) hgv (sub _ mC) dC (List.mem_cons_self ..) ?sp hn0 hn1 hz0 hz1 hl0 hl1 hf0 hf1 hdp hun hgl hc hc0 hc1 hhue hE ?_
    case FF => (repeat' (first | exact List.forall_mem_nil _ | refine all_cons (by rfl) ?_))
    case Ns =>
      refine sub_cons (List.mem_cons_of_mem _ (List.mem_append_right _ (by k_mem))) (sub_cons (List.mem_cons_of_mem _ (List.mem_append_right _ (by k_mem))) (sub_cons (List.mem_cons_of_mem _ (List.mem_append_right _ (by k_mem))) (sub_cons (List.mem_cons_of_mem _ (List.mem_append_right _ (by k_mem))) (sub_cons (by k_mem) fun q hq => ?_))))
      rcases List.mem_append.mp hq with h | h
      · exact List.mem_cons_of_mem _ (List.mem_append_left _ h)
      · exact List.mem_cons_of_mem _ (List.mem_append_right _ (List.mem_cons_of_mem _ (List.mem_cons_of_mem _ (List.mem_cons_of_mem _ (List.mem_cons_of_mem _ h)))))
    case sp =>
      intro i h0 h1
      obtain ⟨v, e, sp⟩ := hI.sp i.toNat (by (first | lia | omega))
      rw [Int.toNat_of_nonneg h0] at sp
      exact ⟨v, e, sp.mono fun q hq => List.mem_cons_of_mem _ (List.mem_append_left _ hq)⟩
    intro m3 h3 tk3 news3 F6 N6 G3 G4 G5
    exact ret _ _ _ _ F6 N6 G3 G4 G5
end
end

section
open PySem PySem.W PyProof.Rows PySem.Spec PySem.Calls
set_option Elab.async false
set_option maxRecDepth 100000
set_option maxHeartbeats 1500000
theorem size_facts {k : Nat} (h0 : 3 ≤ k) (h1 : k ≤ 10) : ∃ c c' : Int, (2 : Int) ^ k * c = 2 ^ 20 ∧ 0 < c ∧ c ≤ 2 ^ 17 ∧ (2 : Int) ^ k * c' = 1024 ∧ c = c' * 1024 ∧ 0 < c' ∧ 8 ≤ (2 : Int) ^ k ∧ (2 : Int) ^ k ≤ 1024 := by
  have h : k = 3 ∨ k = 4 ∨ k = 5 ∨ k = 6 ∨ k = 7 ∨ k = 8 ∨ k = 9 ∨ k = 10 := by (first | lia | omega)
  rcases h with rfl | rfl | rfl | rfl | rfl | rfl | rfl | rfl
  · exact ⟨128 * 1024, 128, by decide, by decide, by decide, by decide, by decide, by decide, by decide, by decide⟩
  · exact ⟨64 * 1024, 64, by decide, by decide, by decide, by decide, by decide, by decide, by decide, by decide⟩
  · exact ⟨32 * 1024, 32, by decide, by decide, by decide, by decide, by decide, by decide, by decide, by decide⟩
  · exact ⟨16 * 1024, 16, by decide, by decide, by decide, by decide, by decide, by decide, by decide, by decide⟩
  · exact ⟨8 * 1024, 8, by decide, by decide, by decide, by decide, by decide, by decide, by decide, by decide⟩
  · exact ⟨4 * 1024, 4, by decide, by decide, by decide, by decide, by decide, by decide, by decide, by decide⟩
  · exact ⟨2 * 1024, 2, by decide, by decide, by decide, by decide, by decide, by decide, by decide, by decide⟩
  · exact ⟨1 * 1024, 1, by decide, by decide, by decide, by decide, by decide, by decide, by decide, by decide⟩
theorem fmod_in {a b : Int} (h : 0 < b) : 0 ≤ a.fmod b ∧ a.fmod b < b := by
  rw [Int.fmod_eq_emod_of_nonneg _ (Int.le_of_lt h)]
  exact ⟨Int.emod_nonneg _ (by (first | lia | omega)), Int.emod_lt_of_pos _ h⟩
/-- what is drawn from a script: three numbers -/
theorem drawn_three (f : Int → Int) (hf : ∀ x, 0 ≤ f x ∧ f x < 1000000) (xs : List Int) :
    ∃ d0 d1 d2, ((xs.take 5).map f).take 3 ++ [155, 15, 6].drop ((((xs.take 5).map f).length : Int)).toNat = [d0, d1, d2] ∧ 0 ≤ d0 ∧ d0 < 1000000 ∧ 0 ≤ d1 ∧ d1 < 1000000 ∧ 0 ≤ d2 ∧ d2 < 1000000 := by
  rcases xs with _ | ⟨a, _ | ⟨b, _ | ⟨c, r⟩⟩⟩
  · exact ⟨155, 15, 6, rfl, by decide, by decide, by decide, by decide, by decide, by decide⟩
  · exact ⟨f a, 15, 6, rfl, (hf a).1, (hf a).2, by decide, by decide, by decide, by decide⟩
  · exact ⟨f a, f b, 6, rfl, (hf a).1, (hf a).2, (hf b).1, (hf b).2, by decide, by decide⟩
  · refine ⟨f a, f b, f c, ?_, (hf a).1, (hf a).2, (hf b).1, (hf b).2, (hf c).1, (hf c).2⟩
    rw [List.drop_of_length_le (by simp only [List.length_map, List.length_take, List.length_cons, List.length_nil, Int.toNat_natCast]; (first | lia | omega))]
    simp
local macro_rules | `(tactic| walk_at "call ref") => `(tactic| (refine stop_of ?_))
section
variable {w : World} {p : Program} {loose : List Str} {mean : ExcName → Option Value} {mg mb : Str → Option Value} {dp un : Nat} {gd : Option (List Code)} {outer : List Env} {A₀ : Around} {base h₀ : Heap} {L fa : Addr} {m : Str → Option Value} {news led : List (Addr × Obj)} {s : Shared}
    {Q : Flow → Shared → Prop} {E : Value → Shared → Prop}
theorem law2 (lg ld cS cL cF cH cC : Addr) (oS oL oF oH oC : Obj) (dvs gvs : List Value) (gs : List Int) (d0 d1 d2 : Int) (kd kg : Nat) (u : Str → Option Value)
    (B : Below A₀ base outer h₀) (X : (hd.heap_39 w.params).In h₀) (T : Top p loose mean mg mb h₀) (CA : CodeHd base 34 30) (CB : CodeHd base 41 37) (CC : CodeHd base 131 129)
    (F : Fr h₀ L s.heap (kstB u [("given", .ref lg), ("drawn", .ref ld)])) (hdv : IntsAre dvs [d0, d1, d2]) (hgv : IntsAre gvs gs) (hgl : gs.length ≤ 5)
    (N : News h₀ L s.heap [(ld, listOf dvs.toArray kd), (lg, listOf gvs.toArray kg), (cC, oC), (cH, oH), (cF, oF), (cL, oL), (cS, oS), (37, tabObj #[]), (30, tabObj #[]), (129, tabObj #[])])
    (dC : oC.data = .cell none) (dH : oH.data = .cell none) (dF : oF.data = .cell none) (dL : oL.data = .cell none) (dS : oS.data = .cell none)
    (hS1 : 37 < cS) (hS2 : 30 < cS) (hS3 : 129 < cS) (hLS : cS < cL) (hFL : cL < cF) (hHF : cF < cH) (hCH : cH < cC) (hgC : cC < ld) (hgn : cC ≠ lg ∧ cH ≠ lg ∧ cF ≠ lg ∧ cL ≠ lg ∧ cS ≠ lg ∧ 37 ≠ lg ∧ 30 ≠ lg ∧ 129 ≠ lg)
    (hd00 : 0 ≤ d0) (hd01 : d0 < 1000000) (hd10 : 0 ≤ d1) (hd11 : d1 < 1000000) (hd20 : 0 ≤ d2) (hd21 : d2 < 1000000)
    (hdp : dp + 120 < recursionLimit) (hun : un + 1200 < cLine)
    (hE : PassesOwn (model PySem.Challenge.rw_pe0247_01.row.prog w) (ktrTop dp un gd "law" (defScope lawDef) L fa (.ref 131) [("colours", cC), ("hues", cH), ("first", cF), ("leap", cL), ("size", cS)] outer) (envX "law" (defScope lawDef) L fa (.ref 131) [("colours", cC), ("hues", cH), ("first", cF), ("leap", cL), ("size", cS)]) E)
    (ret : ∀ m' h' tk news', Fr h₀ L h' m' → News h₀ L h' news' → GrownAt 30 h' → GrownAt 37 h' → GrownAt 129 h' → Q (.ret (.bool true)) { s with heap := h', toks := tk }) :
    wpAny (model PySem.Challenge.rw_pe0247_01.row.prog w) (ktrTop dp un gd "law" (defScope lawDef) L fa (.ref 131) [("colours", cC), ("hues", cH), ("first", cF), ("leap", cL), ("size", cS)] outer) (execs ((defBody lawDef).drop 2) (envX "law" (defScope lawDef) L fa (.ref 131) [("colours", cC), ("hues", cH), ("first", cF), ("leap", cL), ("size", cS)])) Q E s := by
  have eb : (defBody lawDef).drop 2 = (defBody lawDef).drop 2 := rfl
  conv at eb => rhs; whnf
  have es : defScope lawDef = defScope lawDef := rfl
  conv at es => rhs; whnf
  rw [eb, es]
  clear eb es
  dsimp only [kstB] at F
  revert X; k_fill; intro X
  (with_reducible show wpAny _ _ (execs _ _) _ _ _)
  have l_cS_cL : cS < cL := hLS
  have n_cS_cL : cS ≠ cL := Nat.ne_of_lt l_cS_cL
  have m_cS_cL : cL ≠ cS := Ne.symm n_cS_cL
  have l_cS_cF : cS < cF := Nat.lt_trans (hLS) hFL
  have n_cS_cF : cS ≠ cF := Nat.ne_of_lt l_cS_cF
  have m_cS_cF : cF ≠ cS := Ne.symm n_cS_cF
  have l_cS_cH : cS < cH := Nat.lt_trans (Nat.lt_trans (hLS) hFL) hHF
  have n_cS_cH : cS ≠ cH := Nat.ne_of_lt l_cS_cH
  have m_cS_cH : cH ≠ cS := Ne.symm n_cS_cH
  have l_cS_cC : cS < cC := Nat.lt_trans (Nat.lt_trans (Nat.lt_trans (hLS) hFL) hHF) hCH
  have n_cS_cC : cS ≠ cC := Nat.ne_of_lt l_cS_cC
  have m_cS_cC : cC ≠ cS := Ne.symm n_cS_cC
  have l_cS_ld : cS < ld := Nat.lt_trans (Nat.lt_trans (Nat.lt_trans (Nat.lt_trans (hLS) hFL) hHF) hCH) hgC
  have n_cS_ld : cS ≠ ld := Nat.ne_of_lt l_cS_ld
  have m_cS_ld : ld ≠ cS := Ne.symm n_cS_ld
  have l_cL_cF : cL < cF := hFL
  have n_cL_cF : cL ≠ cF := Nat.ne_of_lt l_cL_cF
  have m_cL_cF : cF ≠ cL := Ne.symm n_cL_cF
  have l_cL_cH : cL < cH := Nat.lt_trans (hFL) hHF
  have n_cL_cH : cL ≠ cH := Nat.ne_of_lt l_cL_cH
  have m_cL_cH : cH ≠ cL := Ne.symm n_cL_cH
  have l_cL_cC : cL < cC := Nat.lt_trans (Nat.lt_trans (hFL) hHF) hCH
  have n_cL_cC : cL ≠ cC := Nat.ne_of_lt l_cL_cC
  have m_cL_cC : cC ≠ cL := Ne.symm n_cL_cC
  have l_cL_ld : cL < ld := Nat.lt_trans (Nat.lt_trans (Nat.lt_trans (hFL) hHF) hCH) hgC
  have n_cL_ld : cL ≠ ld := Nat.ne_of_lt l_cL_ld
  have m_cL_ld : ld ≠ cL := Ne.symm n_cL_ld
  have l_cF_cH : cF < cH := hHF
  have n_cF_cH : cF ≠ cH := Nat.ne_of_lt l_cF_cH
  have m_cF_cH : cH ≠ cF := Ne.symm n_cF_cH
  have l_cF_cC : cF < cC := Nat.lt_trans (hHF) hCH
  have n_cF_cC : cF ≠ cC := Nat.ne_of_lt l_cF_cC
  have m_cF_cC : cC ≠ cF := Ne.symm n_cF_cC
  have l_cF_ld : cF < ld := Nat.lt_trans (Nat.lt_trans (hHF) hCH) hgC
  have n_cF_ld : cF ≠ ld := Nat.ne_of_lt l_cF_ld
  have m_cF_ld : ld ≠ cF := Ne.symm n_cF_ld
  have l_cH_cC : cH < cC := hCH
  have n_cH_cC : cH ≠ cC := Nat.ne_of_lt l_cH_cC
  have m_cH_cC : cC ≠ cH := Ne.symm n_cH_cC
  have l_cH_ld : cH < ld := Nat.lt_trans (hCH) hgC
  have n_cH_ld : cH ≠ ld := Nat.ne_of_lt l_cH_ld
  have m_cH_ld : ld ≠ cH := Ne.symm n_cH_ld
  have l_cC_ld : cC < ld := hgC
  have n_cC_ld : cC ≠ ld := Nat.ne_of_lt l_cC_ld
  have m_cC_ld : ld ≠ cC := Ne.symm n_cC_ld
  have l_37_cS : 37 < cS := hS1
  have n_37_cS : (37 : Addr) ≠ cS := Nat.ne_of_lt l_37_cS
  have m_37_cS : cS ≠ (37 : Addr) := Ne.symm n_37_cS
  have l_37_cL : 37 < cL := Nat.lt_trans hS1 l_cS_cL
  have n_37_cL : (37 : Addr) ≠ cL := Nat.ne_of_lt l_37_cL
  have m_37_cL : cL ≠ (37 : Addr) := Ne.symm n_37_cL
  have l_37_cF : 37 < cF := Nat.lt_trans hS1 l_cS_cF
  have n_37_cF : (37 : Addr) ≠ cF := Nat.ne_of_lt l_37_cF
  have m_37_cF : cF ≠ (37 : Addr) := Ne.symm n_37_cF
  have l_37_cH : 37 < cH := Nat.lt_trans hS1 l_cS_cH
  have n_37_cH : (37 : Addr) ≠ cH := Nat.ne_of_lt l_37_cH
  have m_37_cH : cH ≠ (37 : Addr) := Ne.symm n_37_cH
  have l_37_cC : 37 < cC := Nat.lt_trans hS1 l_cS_cC
  have n_37_cC : (37 : Addr) ≠ cC := Nat.ne_of_lt l_37_cC
  have m_37_cC : cC ≠ (37 : Addr) := Ne.symm n_37_cC
  have l_37_ld : 37 < ld := Nat.lt_trans hS1 l_cS_ld
  have n_37_ld : (37 : Addr) ≠ ld := Nat.ne_of_lt l_37_ld
  have m_37_ld : ld ≠ (37 : Addr) := Ne.symm n_37_ld
  have l_30_cS : 30 < cS := hS2
  have n_30_cS : (30 : Addr) ≠ cS := Nat.ne_of_lt l_30_cS
  have m_30_cS : cS ≠ (30 : Addr) := Ne.symm n_30_cS
  have l_30_cL : 30 < cL := Nat.lt_trans hS2 l_cS_cL
  have n_30_cL : (30 : Addr) ≠ cL := Nat.ne_of_lt l_30_cL
  have m_30_cL : cL ≠ (30 : Addr) := Ne.symm n_30_cL
  have l_30_cF : 30 < cF := Nat.lt_trans hS2 l_cS_cF
  have n_30_cF : (30 : Addr) ≠ cF := Nat.ne_of_lt l_30_cF
  have m_30_cF : cF ≠ (30 : Addr) := Ne.symm n_30_cF
  have l_30_cH : 30 < cH := Nat.lt_trans hS2 l_cS_cH
  have n_30_cH : (30 : Addr) ≠ cH := Nat.ne_of_lt l_30_cH
  have m_30_cH : cH ≠ (30 : Addr) := Ne.symm n_30_cH
  have l_30_cC : 30 < cC := Nat.lt_trans hS2 l_cS_cC
  have n_30_cC : (30 : Addr) ≠ cC := Nat.ne_of_lt l_30_cC
  have m_30_cC : cC ≠ (30 : Addr) := Ne.symm n_30_cC
  have l_30_ld : 30 < ld := Nat.lt_trans hS2 l_cS_ld
  have n_30_ld : (30 : Addr) ≠ ld := Nat.ne_of_lt l_30_ld
  have m_30_ld : ld ≠ (30 : Addr) := Ne.symm n_30_ld
  have l_129_cS : 129 < cS := hS3
  have n_129_cS : (129 : Addr) ≠ cS := Nat.ne_of_lt l_129_cS
  have m_129_cS : cS ≠ (129 : Addr) := Ne.symm n_129_cS
  have l_129_cL : 129 < cL := Nat.lt_trans hS3 l_cS_cL
  have n_129_cL : (129 : Addr) ≠ cL := Nat.ne_of_lt l_129_cL
  have m_129_cL : cL ≠ (129 : Addr) := Ne.symm n_129_cL
  have l_129_cF : 129 < cF := Nat.lt_trans hS3 l_cS_cF
  have n_129_cF : (129 : Addr) ≠ cF := Nat.ne_of_lt l_129_cF
  have m_129_cF : cF ≠ (129 : Addr) := Ne.symm n_129_cF
  have l_129_cH : 129 < cH := Nat.lt_trans hS3 l_cS_cH
  have n_129_cH : (129 : Addr) ≠ cH := Nat.ne_of_lt l_129_cH
  have m_129_cH : cH ≠ (129 : Addr) := Ne.symm n_129_cH
  have l_129_cC : 129 < cC := Nat.lt_trans hS3 l_cS_cC
  have n_129_cC : (129 : Addr) ≠ cC := Nat.ne_of_lt l_129_cC
  have m_129_cC : cC ≠ (129 : Addr) := Ne.symm n_129_cC
  have l_129_ld : 129 < ld := Nat.lt_trans hS3 l_cS_ld
  have n_129_ld : (129 : Addr) ≠ ld := Nat.ne_of_lt l_129_ld
  have m_129_ld : ld ≠ (129 : Addr) := Ne.symm n_129_ld
  obtain ⟨n_cC_lg, n_cH_lg, n_cF_lg, n_cL_lg, n_cS_lg, n_37_lg, n_30_lg, n_129_lg⟩ := hgn
  have m_cC_lg := Ne.symm n_cC_lg
  have m_cH_lg := Ne.symm n_cH_lg
  have m_cF_lg := Ne.symm n_cF_lg
  have m_cL_lg := Ne.symm n_cL_lg
  have m_cS_lg := Ne.symm n_cS_lg
  have m_37_lg := Ne.symm n_37_lg
  have m_30_lg := Ne.symm n_30_lg
  have m_129_lg := Ne.symm n_129_lg
  refine execs_cut (a := [_, _, _, _, _]) ?_
  k_steps
  rename_i t3 q1 q2 h5 o3 e3 t2 h4 o2 e2 t1 h3 o1 e1 t0 h2 lc h1 l1 h0 oC2 F0 N0 e0
  (try dsimp only)
  unfold Cut
  obtain ⟨c, c', z1, z2, z3, z4, z5, z6, z7, z8⟩ := size_facts (k := (3 + ([d0, d1, d2].getD (Int.toNat 0) 0).fmod 8).toNat) (by (first | lia | omega)) (by (first | lia | omega))
  have hl := fmod_in (a := ([d0, d1, d2].getD (Int.toNat 0) 0).fdiv 8) (b := 3 * (2 : Int) ^ (3 + ([d0, d1, d2].getD (Int.toNat 0) 0).fmod 8).toNat) (by (first | lia | omega))
  have hf := fmod_in (a := ([d0, d1, d2].getD (Int.toNat 1) 0)) (b := 3 * (2 : Int) ^ (3 + ([d0, d1, d2].getD (Int.toNat 0) 0).fmod 8).toNat) (by (first | lia | omega))
  have hn := fmod_in (a := ([d0, d1, d2].getD (Int.toNat 1) 0).fdiv 3) (b := 5) (by decide)
  refine' law7 lg lc ld cS cL cF cH cC (4 + (([d0, d1, d2].getD (Int.toNat 1) 0).fdiv 3).fmod 5) _ _ _ _ _ _ _ o3 o2 o1 oH oC2 _ gvs dvs gs d0 d1 d2 kg kd #[] #[] [(ld, listOf dvs.toArray kd), (lg, listOf gvs.toArray kg), (cC, oC2), (cF, o1), (cL, o2), (cS, o3)] _ B X T CA CB (fr_kst F0 ?FF) CC (cb_drop N0 ?Ns) dH l_30_cH l_37_cH ?hH3 l_129_cH ?hM ?nA ?nB (.inl rfl) (.inl rfl)
    (by simp) e3 (by simp) e2 (by simp) e1 (by simp) hgv (by simp) e0 (by simp) hdv hd20 (by (first | lia | omega)) ?hlc (by (first | lia | omega)) (by (first | lia | omega)) z7 z8 hl.1 hl.2 hf.1 hf.2 hdp hun hgl z1 z2 z3 z4 z5 z6 (fun _ => rfl) hE ?_
  case FF => (repeat' (first | exact List.forall_mem_nil _ | refine all_cons (by rfl) ?_))
  case Ns =>
    (repeat' (first | exact List.forall_mem_nil _ | refine sub_cons (by k_mem) ?_ | (intro q hq; (repeat (first | exact hq | refine List.mem_cons_of_mem _ ?_)); done)))
  case hH3 => k_all
  case hM => k_all
  case nA => k_all
  case nB => k_all
  case hlc =>
    obtain ⟨w1, w2, w3, w4, w5, w6, w7, w8, w9, w10⟩ := l1
    intro q hq
    simp only [List.mem_cons, List.not_mem_nil, or_false] at hq
    rcases hq with rfl | rfl | rfl | rfl | rfl | rfl | rfl | rfl | rfl | rfl <;> assumption
  intro m3 h3 tk3 news3 F3 N3 G3 G4 G5
  exact ret _ _ _ _ F3 N3 G3 G4 G5
end
end

section
open PySem PySem.W PyProof.Rows PySem.Spec PySem.Calls
set_option Elab.async false
set_option maxRecDepth 100000
set_option maxHeartbeats 1500000
local macro_rules | `(tactic| walk_at "call ref") => `(tactic| (refine stop_of ?_))
section
variable {prog : Program} {w : World} {A : Around} {E : Value → Shared → Prop} {s : Shared} {h₀ : Heap} {L l : Addr} {m : Str → Option Value} {news : List (Addr × Obj)}
/-- a slice of a written list -/
theorem cut_lit {value slice : PySem.Expr} {vs : List Value} {ms : List Int} {vl vu : Value} {lo hi : Option Int} {Q : Value → Shared → Prop} (F : Fr h₀ L s.heap m) (N : News h₀ L s.heap news) (hl : s.heap.IsList l vs.toArray) (pl : IsPart vl lo) (pu : IsPart vu hi)
    (hm : IntsAre (slicePick vs.toArray lo hi none).toList ms) (hz : vs.toArray.size ≤ sizeLine)
    (hs : subscripted slice false (.ref l) (.ref s.heap.objs.size) = operate [.ref s.heap.objs.size, .ref l] (getItem (.ref l) (.ref s.heap.objs.size)))
    (h : ∀ D ws h', Fr h₀ L h' m → News h₀ L h' ((D, listOf (List.toArray ws) 0) :: news) → (∀ p ∈ news, p.1 < D) → IntsAre ws ms → Q (.ref D) { s with heap := h' }) :
    wpAny (model prog w) A (subscriptTail value slice (.ref l) (.ref s.heap.objs.size)) Q E { s with heap := s.heap.push { cls := .type "slice", data := .fields #[vl, vu, .none] } } := by
  refine tail_any (Heap.IsList.typeIs (s := { s with heap := s.heap.push { cls := .type "slice", data := .fields #[vl, vu, .none] } }) (hl.push _)) list_getitem_lookup
    (wpAny_getItem_list_slice (hl.push _) (Heap.IsSliceOf.new ..) pl pu .none (by simp) ?_ hz) hs
  have N1 := News.push (F.push { cls := .type "slice", data := .fields #[vl, vu, .none] }) (N.grown fun _ _ e => Heap.get?_push_of_some _ e) { cls := .type "list", data := .seq (slicePick vs.toArray lo hi none) }
  rw [Heap.size_push] at N1
  have h9 := h (s.heap.objs.size + 1) (slicePick vs.toArray lo hi none).toList _ ((F.push _).push _) (by rw [Array.toArray_toList]; exact N1) (fun p hp => Nat.lt_succ_of_lt (Heap.lt_size (N p hp).1)) hm
  show Q (.ref (s.heap.push _).objs.size) _
  rw [Heap.size_push]
  exact h9
end
local macro_rules | `(tactic| walk_at "subscriptTail") => `(tactic| (refine stop_of ?_))
local macro_rules | `(tactic| walk_at "subscriptTail List Slice ref ref") => `(tactic| (refine stop_of ?_))
section
variable {w : World} {p : Program} {loose : List Str} {mean : ExcName → Option Value} {mg mb : Str → Option Value} {dp un : Nat} {gd : Option (List Code)} {outer : List Env} {A₀ : Around} {base h₀ : Heap} {L fa : Addr} {m : Str → Option Value} {news led : List (Addr × Obj)} {s : Shared}
    {Q : Flow → Shared → Prop} {E : Value → Shared → Prop}
theorem law0 (lq cS cL cF cH cC : Addr) (oS oL oF oH oC : Obj) (xs : List Int) (vs : List Value) (u : Str → Option Value)
    (B : Below A₀ base outer h₀) (X : (hd.heap_39 w.params).In h₀) (T : Top p loose mean mg mb h₀) (CA : CodeHd base 34 30) (CB : CodeHd base 41 37) (CC : CodeHd base 131 129)
    (F : Fr h₀ L s.heap (kstB u [("script", .ref lq)])) (hq : h₀.IsList lq vs.toArray) (hxs : IntsAre vs xs) (hxl : xs.length ≤ 63)
    (N : News h₀ L s.heap [(cC, oC), (cH, oH), (cF, oF), (cL, oL), (cS, oS), (37, tabObj #[]), (30, tabObj #[]), (129, tabObj #[])])
    (dC : oC.data = .cell none) (dH : oH.data = .cell none) (dF : oF.data = .cell none) (dL : oL.data = .cell none) (dS : oS.data = .cell none)
    (hS1 : 37 < cS) (hS2 : 30 < cS) (hS3 : 129 < cS) (hLS : cS < cL) (hFL : cL < cF) (hHF : cF < cH) (hCH : cH < cC)
    (hdp : dp + 120 < recursionLimit) (hun : un + 1200 < cLine)
    (hE : PassesOwn (model PySem.Challenge.rw_pe0247_01.row.prog w) (ktrTop dp un gd "law" (defScope lawDef) L fa (.ref 131) [("colours", cC), ("hues", cH), ("first", cF), ("leap", cL), ("size", cS)] outer) (envX "law" (defScope lawDef) L fa (.ref 131) [("colours", cC), ("hues", cH), ("first", cF), ("leap", cL), ("size", cS)]) E)
    (ret : ∀ m' h' tk news', Fr h₀ L h' m' → News h₀ L h' news' → GrownAt 30 h' → GrownAt 37 h' → GrownAt 129 h' → Q (.ret (.bool true)) { s with heap := h', toks := tk }) :
    wpAny (model PySem.Challenge.rw_pe0247_01.row.prog w) (ktrTop dp un gd "law" (defScope lawDef) L fa (.ref 131) [("colours", cC), ("hues", cH), ("first", cF), ("leap", cL), ("size", cS)] outer) (execs (defBody lawDef) (envX "law" (defScope lawDef) L fa (.ref 131) [("colours", cC), ("hues", cH), ("first", cF), ("leap", cL), ("size", cS)])) Q E s := by
  have eb : defBody lawDef = defBody lawDef := rfl
  conv at eb => rhs; whnf
  have es : defScope lawDef = defScope lawDef := rfl
  conv at es => rhs; whnf
  rw [eb, es]
  clear eb es
  dsimp only [kstB] at F
  revert X; k_fill; intro X
  (with_reducible show wpAny _ _ (execs _ _) _ _ _)
  refine execs_cut (a := [_, _]) ?_
  k_steps
  unfold Stop
  rename_i D1 ws1 h1 hI1 hC1 hL1 l1 hk1 hk2 g1 hI8 hL8 D2 h2 tk2 o1 D3 ws3 h3 hI3 hC3 hL3 l3 l4 h4 F4 N4 l5
  (with_reducible show wpAny _ _ (subscriptTail _ _ (Value.ref _) (Value.ref _)) _ _ _)
  k_dflt (refine' cut_lit (vs := [_, _, _]) ?F9 ?N9 ?l9 ?p9 ?q9 ?m9 ?z9 ?s9 ?_)
  case F9 => k_asm
  case N9 => k_asm
  case l9 => kmk_list
  case p9 => kmk_part
  case q9 => kmk_part
  case m9 => exact kmk_from (ns := [155, 15, 6]) (by l_ints) (by kmk_sign)
  case s9 => with_unfolding_all rfl
  case z9 => kmk_size
  intro D5 ws5 h5 F5 N5 l5 hI5
  k_lt l5
  k_steps
  rename_i D6 ws6 h6 hI6 l6 h7 F7 N7
  (try dsimp only)
  unfold Cut
  obtain ⟨d0, d1, d2, ed, r1, r2, r3, r4, r5, r6⟩ := drawn_three (fun k' => k'.fmod (10 ^ Int.toNat 6)) (fun x => fmod_in (by decide)) xs
  refine' law2 D2 D6 cS cL cF cH cC oS oL oF oH oC ws6 ys _ d0 d1 d2 0 ys.length _ B X T CA CB CC (fr_kst F7 ?FF) (ed ▸ hI6) hI8 ?hgl (cb_drop N7 ?Ns) dC dH dF dL dS hS1 hS2 hS3 hLS hFL hHF hCH (l6.2.2.2.2.2.1) o1.2 r1 r2 r3 r4 r5 r6 hdp hun hE ?_
  case FF => (repeat' (first | exact List.forall_mem_nil _ | refine all_cons (by rfl) ?_))
  case hgl => (rw [List.length_map, List.length_take]; (first | lia | omega))
  case Ns =>
    (repeat' (first | exact List.forall_mem_nil _ | refine sub_cons (by k_mem) ?_ | (intro q hq; (repeat (first | exact hq | refine List.mem_cons_of_mem _ ?_)); done)))
  intro m3 h3 tk3 news3 F3 N3 G3 G4 G5
  exact ret _ _ _ _ F3 N3 G3 G4 G5
end
end

section
open PySem PySem.W PyProof.Rows PySem.Spec PySem.Calls
set_option Elab.async false
set_option maxRecDepth 100000
set_option maxHeartbeats 1000000
abbrev lawCells (L : Addr) : List (Str × Addr) := [("colours", L + 1 + 1 + 1 + 1 + 1), ("hues", L + 1 + 1 + 1 + 1), ("first", L + 1 + 1 + 1), ("leap", L + 1 + 1), ("size", L + 1)]
theorem law_cells (L : Addr) : cellsFrom (L + 1) (defScope lawDef).names [] = lawCells L := by with_unfolding_all rfl
theorem around_at {env : Env} : callerA.deeper env = { handled := none, depth := 2 + claimMargin, frames := some [env], guards := some [], units := 7 } := by
  unfold Around.deeper callerA
  simp only [Option.map_some]
  congr 1
theorem bring {M : Model} {nm : Str} {sc : Scope} {bd : List Stmt} {L fa : Addr} {Q : Flow → Shared → Prop} {Q₁ E₁ : Value → Shared → Prop} {s : Shared} (hn : nm = "law") (hs : sc = defScope lawDef) (hb : bd = defBody lawDef)
    (h : ∀ E, PassesOwn M (ktrTop (2 + claimMargin) 7 (some []) "law" (defScope lawDef) L fa (.ref 131) (lawCells L) []) (envX "law" (defScope lawDef) L fa (.ref 131) (lawCells L)) E →
      wpAny M (ktrTop (2 + claimMargin) 7 (some []) "law" (defScope lawDef) L fa (.ref 131) (lawCells L) []) (execs (defBody lawDef) (envX "law" (defScope lawDef) L fa (.ref 131) (lawCells L))) Q E s) :
    wpAny M (callerA.deeper (envOfC nm sc L fa (.ref 131))) (execs bd (envOfC nm sc L fa (.ref 131))) Q
      (fun e s' => wpAny M (callerA.deeper (envOfC nm sc L fa (.ref 131))) (leaving (envOfC nm sc L fa (.ref 131)) e) (fun _ s'' => Q₁ e s'') E₁ s') s := by
  subst hn hs hb
  rw [around_at]
  unfold envOfC
  rw [law_cells]
  exact h _ PassesOwn.leaving
theorem held : PySem.Challenge.rw_pe0247_01.Holds := hd (by
  k_go0
  refine bring ?_ ?_ ?_ ?_
  · rfl
  · kernel_rfl
  · kernel_rfl
  intro E hE
  rename_i w₀ s₀ s₁ mg mb G9 Y9 fa o9 pm9 doc9 ho9 hg9 X9 V9 T9 B9 TE9 TW9 hcd9 xs hs9 hlay9 hL9 hr9 hl29 w9 w8 lq vs w5 hL8 ra9 w19 r09 hI hr8 hc1 hc2 hD h1 tk1 w4 w3 w2 w1 w0 e4 e3 e2 e1 e0 X0 X' T' K' F' C1 C2 N' l0
  have a0 : w0.data = .cell none := e0.trans (by with_unfolding_all rfl)
  have a1 : w1.data = .cell none := e1.trans (by with_unfolding_all rfl)
  have a2 : w2.data = .cell none := e2.trans (by with_unfolding_all rfl)
  have a3 : w3.data = .cell none := e3.trans (by with_unfolding_all rfl)
  have a4 : w4.data = .cell none := e4.trans (by with_unfolding_all rfl)
  clear e0 e1 e2 e3 e4
  refine law0 lq _ _ _ _ _ w0 w1 w2 w3 w4 xs vs _ K' X' T' C2 C1 codeHd (fr_kst (ps := [("script", .ref lq)]) F' ?FF) lifted hI ?hxl N' a4 a3 a2 a1 a0 ?hS1 ?hS2 ?hS3 ?hLS ?hFL ?hHF ?hCH ?hdp ?hun hE ?_
  case FF => intro q hq; simp only [List.mem_singleton] at hq; subst hq; with_unfolding_all rfl
  case hxl => omega
  case hS1 => exact Nat.lt_succ_of_lt l0.1
  case hS2 => exact Nat.lt_succ_of_lt l0.2.1
  case hS3 => exact Nat.lt_succ_of_lt l0.2.2
  case hLS => exact Nat.lt_succ_self _
  case hFL => exact Nat.lt_succ_self _
  case hHF => exact Nat.lt_succ_self _
  case hCH => exact Nat.lt_succ_self _
  case hdp => decide
  case hun => decide
  intro m3 h3 tk3 news3 F3 N3 G3 G4 G5
  refine ⟨?_, G4, G3, G5, True.intro⟩
  (try dsimp only)
  refine goodW_bool F3 hg9 (raisesW_false ?_) ?_
  · wrow_none_raised
  · kc_post)
end
end Mine
end

theorem PySem.Challenge.cw_pe0247_01_holds : PySem.Challenge.rw_pe0247_01.Holds :=
  Mine.held
