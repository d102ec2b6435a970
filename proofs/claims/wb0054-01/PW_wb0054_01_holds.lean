import PyProof.Rows.All
import Wide.All
import OpenK.AllK
import Wide.FinOn
import PySem.Challenge.RW_wb0054_01
set_option Elab.async false
set_option maxRecDepth 100000
set_option maxHeartbeats 8000000
set_option linter.all false
open PySem PySem.W PyProof.Rows
namespace Mine
section
/- the view of the text: the statements that the head keeps -/
def keep54 : List Stmt → List Nat → List Stmt
  | _, [] => []
  | l, n :: ns => match l[n]? with
    | some s => s :: keep54 l ns
    | none => keep54 l ns
def V54 : Program := { PySem.Challenge.pw_wb0054_01 with main := { PySem.Challenge.pw_wb0054_01.main with body := keep54 PySem.Challenge.pw_wb0054_01.main.body [6, 7, 9, 10, 11, 12, 13, 14, 15, 16, 17, 18, 19, 20, 22, 23, 24, 25, 26, 27, 28] } }
def as54 : List Nat := [149, 163, 2, 3, 15, 16, 17, 19, 20, 22, 23, 24, 25, 26, 28, 29, 31, 32, 33, 34, 35, 37, 38, 40, 41, 42, 43, 44, 46, 47, 49, 50, 51, 52, 54, 55, 57, 58, 59, 61, 62, 64, 65, 66, 68, 69, 71, 72, 73, 75, 76, 78, 79, 80, 82, 83, 85, 86, 87, 89, 90, 92, 93, 94, 96, 97, 99, 100, 101, 103, 104, 106, 107, 108, 110, 111, 113, 114, 115, 117, 118, 120, 121, 122, 124, 125, 127, 128, 129, 131, 132, 134, 135, 136, 138, 139, 141, 142, 143, 146, 147, 148, 150, 151, 153, 154, 155, 157, 158, 160, 161, 162, 164, 165, 167, 168, 169, 172, 173, 174, 177, 178, 179, 182, 183]
local macro_rules | `(tactic| o_law) => `(tactic| refine holds_law (by kernel_rfl) fun said => ?_)
theorem map_pair {α β γ : Type} {o : Option α} {F : α → β} {G : α → γ} {a : β} {b : γ} (h : o.map F = some a) (k : o.map G = some b) : o.map (fun s => (F s, G s)) = some (a, b) := by
  cases o with
  | none => cases h
  | some x => cases h; cases k; rfl
def lo54 : List Str := [Str.ofString "insort_right", Str.ofString "bisect_right", Str.ofString "insort_left", Str.ofString "bisect_left", Str.ofString "COMPILER_FLAG_NAMES"]
def xt54 (s : Shared) : Bool := xlAt V54 [] s && recOk (RowW.records (OpenRow.toRowW (OpenLaw.row PySem.Challenge.rw_wb0054_01))) s
/- the head: what the top leaves is asked for apart (halfA, halfB) -/
set_option hygiene false in
local macro_rules | `(tactic| o_head $_) => `(tactic| (
  refine (fun (x : _ ∧ _) => holds_openX (q := V54) (loose := lo54) (Xt := xt54) (XP := XL V54 []) (Yf := X.obsZ as54) (Ya := X.valZ (fun P => (149, X.tableObj #[]) :: (163, X.tableObj #[]) :: hd54.heap_1 P) 184 450) (N := 2006) x.1 (fun s e => xl_of s (Bool.and_eq_true_iff.mp e).1) XL.keeps (by rfl) (by rfl) (by rfl) (fun s e => recFacts_of (Bool.and_eq_true_iff.mp e).2) (by rfl) (by assumption) (by decide +kernel) ⟨rfl, rfl, rfl, rfl, rfl, by decide +kernel⟩ ?hw x.2) ?hc))
open_top hd54 for PySem.Challenge.rw_wb0054_01
theorem halfA (w : World) : (fencedOpening treeTable PySem.Challenge.pw_wb0054_01 w 2006).map (fun s₀ => (topFrom treeTable PySem.Challenge.pw_wb0054_01 (w.withFollow "special-get-raises" false) 2006 s₀).map (fun s => (openSeen V54 lo54 (importedModules PySem.Challenge.pw_wb0054_01.main.body) xt54 true s, X.obsZ as54 s))) =
    some (some (openGood V54 lo54, X.valZ (fun P => (149, X.tableObj #[]) :: (163, X.tableObj #[]) :: hd54.heap_1 P) 184 450 (w.withFollow "special-get-raises" false))) := by
  kernel_rfl
theorem halfB (w : World) : (fencedOpening treeTable PySem.Challenge.pw_wb0054_01 w 2006).map (fun s₀ => (topFrom treeTable PySem.Challenge.pw_wb0054_01 (w.withFollow "special-get-raises" true) 2006 s₀).map (fun s => (openSeen V54 lo54 (importedModules PySem.Challenge.pw_wb0054_01.main.body) xt54 true s, X.obsZ as54 s))) =
    some (some (openGood V54 lo54, X.valZ (fun P => (149, X.tableObj #[]) :: (163, X.tableObj #[]) :: hd54.heap_1 P) 184 450 (w.withFollow "special-get-raises" true))) := by
  kernel_rfl
theorem left54 : LeftO PySem.Challenge.pw_wb0054_01 V54 lo54 xt54 (X.obsZ as54) (X.valZ (fun P => (149, X.tableObj #[]) :: (163, X.tableObj #[]) :: hd54.heap_1 P) 184 450) 2006 :=
  LeftO.of_split "special-get-raises" fun w => map_pair (halfA w) (halfB w)
end
open PySem.Calls
section
open PySem PySem.Spec
theorem runs_toks {M : Model} {Γ : PySem.Ctx} {p : Pos} {t : Sem Fin} {fs : List Frame} {s : Shared} {e : End} {s' : Shared} (h : Runs M Γ p t fs s e s') : s.toks ≤ s'.toks := by
  induction h
  all_goals ((try simp only [Shared.setGen] at *); first | exact Nat.le_refl _ | assumption | (first | lia | omega) | fail "left")
theorem wakes_toks {M : Model} {Γ : PySem.Ctx} {p : Pos} {g : Nat} {r : Resume} {s : Shared} {res : GenResult} {s' : Shared} (h : Wakes M Γ p g r s res s') : s.toks ≤ s'.toks := by
  unfold Wakes at h
  split at h
  · exact h.elim
  · split at h
    · obtain ⟨e, s₁, hr, _, _, rfl⟩ := h
      have := runs_toks hr
      simpa [Shared.setGen] using this
    · obtain ⟨_, rfl⟩ := h; exact Nat.le_refl _
    · obtain ⟨_, rfl⟩ := h; exact Nat.le_refl _
  · obtain ⟨e, s₁, hr, _, _, rfl⟩ := h
    have := runs_toks hr
    simpa [Shared.setGen] using this
  all_goals (obtain ⟨_, rfl⟩ := h; exact Nat.le_refl _)
theorem wp_toks {α : Type} {M : Model} {Γ : PySem.Ctx} (t : Sem α) : ∀ (Q : α → Pos → Shared → Prop) (E : Value → Pos → Shared → Prop) (p : Pos) (s : Shared), Sem.wp M Γ t Q E p s →
    Sem.wp M Γ t (fun a p' s' => Q a p' s' ∧ s.toks ≤ s'.toks) (fun e p' s' => E e p' s' ∧ s.toks ≤ s'.toks) p s := by
  induction t with
  | pure a => intro Q E p s h; exact ⟨h, Nat.le_refl _⟩
  | raise e => intro Q E p s h; exact ⟨h, Nat.le_refl _⟩
  | unsupported _ => intro Q E p s h; exact h
  | finish _ => intro Q E p s h; exact h
  | rule _ k ih => intro Q E p s h; exact ih _ Q E p s h
  | «at» p' k ih => intro Q E p s h; exact ih _ Q E p' s h
  | load a _ k ih => intro Q E p s h; obtain ⟨o, ho, h⟩ := h; exact ⟨o, ho, ih _ Q E p s h⟩
  | update a _ f k ih => intro Q E p s h; exact ⟨h.1, ih _ Q E p _ h.2⟩
  | alloc o k ih => intro Q E p s h; exact ih _ Q E p _ h
  | loadIfAlive a k ih => intro Q E p s h; exact ih _ Q E p s h
  | point _ k ih => intro Q E p s h; exact ih _ Q E p s h
  | register _ _ => intro Q E p s h; exact h
  | fresh k ih =>
    intro Q E p s h
    have z := ih _ Q E p _ h
    exact Sem.wp_mono M Γ (k s.toks) (fun a p' s' q => ⟨q.1, Nat.le_trans (Nat.le_succ _) q.2⟩) (fun e p' s' q => ⟨q.1, Nat.le_trans (Nat.le_succ _) q.2⟩) p _ z
  | ask k ih => intro Q E p s h; exact ih _ Q E p s h
  | choose src n k ih => intro Q E p s h; exact ⟨h.1, ih _ Q E p _ h.2⟩
  | os q _ k ih => intro Q E p s h; exact ih _ Q E p _ h
  | call c hd g l k ih =>
    intro Q E p s h
    rw [Sem.wp_call] at h ⊢
    obtain ⟨r, s', hr, h⟩ := h
    have hle := runs_toks hr
    exact ⟨r, s', hr, Sem.wp_mono M Γ (k r) (fun a p' s'' q => ⟨q.1, Nat.le_trans hle q.2⟩) (fun e p' s'' q => ⟨q.1, Nat.le_trans hle q.2⟩) p _ (ih _ Q E p s' h)⟩
  | handled o k ih => intro Q E p s h; exact ih _ Q E p s h
  | newGen c k ih => intro Q E p s h; exact ih _ Q E p _ h
  | genState g k ih => intro Q E p s h; obtain ⟨st, hs, h⟩ := h; exact ⟨st, hs, ih _ Q E p s h⟩
  | resume g r l k ih =>
    intro Q E p s h
    rw [Sem.wp_resume] at h ⊢
    obtain ⟨res, s', hr, h⟩ := h
    have hle := wakes_toks hr
    exact ⟨res, s', hr, Sem.wp_mono M Γ (k res) (fun a p' s'' q => ⟨q.1, Nat.le_trans hle q.2⟩) (fun e p' s'' q => ⟨q.1, Nat.le_trans hle q.2⟩) p _ (ih _ Q E p s' h)⟩
  | yield _ _ _ _ => intro Q E p s h; exact h
  | stack k ih => intro Q E p s h; exact ih _ Q E p s h
  | fork _ _ => intro Q E p s h; exact h
  | thread k ih => intro Q E p s h; exact ih _ Q E p s h
  | await _ _ _ _ _ => intro Q E p s h; exact h
/-- no token is taken back -/
theorem wpAny_toks {α : Type} {M : Model} {A : Around} {t : Sem α} {Q : α → Shared → Prop} {E : Value → Shared → Prop} {s : Shared} (h : wpAny M A t (fun a s' => s.toks ≤ s'.toks → Q a s') (fun e s' => s.toks ≤ s'.toks → E e s') s) : wpAny M A t Q E s :=
  fun Γ p hΓ => Sem.wp_mono M Γ t (fun _ _ _ q => q.1 q.2) (fun _ _ _ q => q.1 q.2) p s (wp_toks t _ _ p s (h Γ p hΓ))
theorem runs_size {M : Model} {Γ : PySem.Ctx} {p : Pos} {t : Sem Fin} {fs : List Frame} {s : Shared} {e : End} {s' : Shared} (h : Runs M Γ p t fs s e s') : s.heap.objs.size ≤ s'.heap.objs.size := by
  induction h
  all_goals ((try simp only [Shared.setGen, Heap.size_push, Heap.size_update] at *); first | exact Nat.le_refl _ | assumption | (first | lia | omega) | fail "left")
theorem wakes_size {M : Model} {Γ : PySem.Ctx} {p : Pos} {g : Nat} {r : Resume} {s : Shared} {res : GenResult} {s' : Shared} (h : Wakes M Γ p g r s res s') : s.heap.objs.size ≤ s'.heap.objs.size := by
  unfold Wakes at h
  split at h
  · exact h.elim
  · split at h
    · obtain ⟨e, s₁, hr, _, _, rfl⟩ := h
      have := runs_size hr
      simpa [Shared.setGen] using this
    · obtain ⟨_, rfl⟩ := h; exact Nat.le_refl _
    · obtain ⟨_, rfl⟩ := h; exact Nat.le_refl _
  · obtain ⟨e, s₁, hr, _, _, rfl⟩ := h
    have := runs_size hr
    simpa [Shared.setGen] using this
  all_goals (obtain ⟨_, rfl⟩ := h; exact Nat.le_refl _)
theorem wp_size {α : Type} {M : Model} {Γ : PySem.Ctx} (t : Sem α) : ∀ (Q : α → Pos → Shared → Prop) (E : Value → Pos → Shared → Prop) (p : Pos) (s : Shared), Sem.wp M Γ t Q E p s →
    Sem.wp M Γ t (fun a p' s' => Q a p' s' ∧ s.heap.objs.size ≤ s'.heap.objs.size) (fun e p' s' => E e p' s' ∧ s.heap.objs.size ≤ s'.heap.objs.size) p s := by
  induction t with
  | pure a => intro Q E p s h; exact ⟨h, Nat.le_refl _⟩
  | raise e => intro Q E p s h; exact ⟨h, Nat.le_refl _⟩
  | unsupported _ => intro Q E p s h; exact h
  | finish _ => intro Q E p s h; exact h
  | rule _ k ih => intro Q E p s h; exact ih _ Q E p s h
  | «at» p' k ih => intro Q E p s h; exact ih _ Q E p' s h
  | load a _ k ih => intro Q E p s h; obtain ⟨o, ho, h⟩ := h; exact ⟨o, ho, ih _ Q E p s h⟩
  | update a _ f k ih =>
    intro Q E p s h
    refine ⟨h.1, ?_⟩
    have z := ih _ Q E p _ h.2
    rw [show ({ s with heap := s.heap.update a f } : Shared).heap.objs.size = s.heap.objs.size from Heap.size_update ..] at z
    exact z
  | alloc o k ih =>
    intro Q E p s h
    have z := ih _ Q E p _ h
    rw [show ({ s with heap := s.heap.push o } : Shared).heap.objs.size = s.heap.objs.size + 1 from Heap.size_push ..] at z
    exact Sem.wp_mono M Γ (k s.heap.objs.size) (fun a p' s' q => ⟨q.1, Nat.le_trans (Nat.le_succ _) q.2⟩) (fun e p' s' q => ⟨q.1, Nat.le_trans (Nat.le_succ _) q.2⟩) p _ z
  | loadIfAlive a k ih => intro Q E p s h; exact ih _ Q E p s h
  | point _ k ih => intro Q E p s h; exact ih _ Q E p s h
  | register _ _ => intro Q E p s h; exact h
  | fresh k ih => intro Q E p s h; exact ih _ Q E p _ h
  | ask k ih => intro Q E p s h; exact ih _ Q E p s h
  | choose src n k ih => intro Q E p s h; exact ⟨h.1, ih _ Q E p _ h.2⟩
  | os q _ k ih => intro Q E p s h; exact ih _ Q E p _ h
  | call c hd g l k ih =>
    intro Q E p s h
    rw [Sem.wp_call] at h ⊢
    obtain ⟨r, s', hr, h⟩ := h
    have hle := runs_size hr
    exact ⟨r, s', hr, Sem.wp_mono M Γ (k r) (fun a p' s'' q => ⟨q.1, Nat.le_trans hle q.2⟩) (fun e p' s'' q => ⟨q.1, Nat.le_trans hle q.2⟩) p _ (ih _ Q E p s' h)⟩
  | handled o k ih => intro Q E p s h; exact ih _ Q E p s h
  | newGen c k ih => intro Q E p s h; exact ih _ Q E p _ h
  | genState g k ih => intro Q E p s h; obtain ⟨st, hs, h⟩ := h; exact ⟨st, hs, ih _ Q E p s h⟩
  | resume g r l k ih =>
    intro Q E p s h
    rw [Sem.wp_resume] at h ⊢
    obtain ⟨res, s', hr, h⟩ := h
    have hle := wakes_size hr
    exact ⟨res, s', hr, Sem.wp_mono M Γ (k res) (fun a p' s'' q => ⟨q.1, Nat.le_trans hle q.2⟩) (fun e p' s'' q => ⟨q.1, Nat.le_trans hle q.2⟩) p _ (ih _ Q E p s' h)⟩
  | yield _ _ _ _ => intro Q E p s h; exact h
  | stack k ih => intro Q E p s h; exact ih _ Q E p s h
  | fork _ _ => intro Q E p s h; exact h
  | thread k ih => intro Q E p s h; exact ih _ Q E p s h
  | await _ _ _ _ _ => intro Q E p s h; exact h
/-- no address is taken back -/
theorem wpAny_size {α : Type} {M : Model} {A : Around} {t : Sem α} {Q : α → Shared → Prop} {E : Value → Shared → Prop} {s : Shared} (h : wpAny M A t (fun a s' => s.heap.objs.size ≤ s'.heap.objs.size → Q a s') (fun e s' => s.heap.objs.size ≤ s'.heap.objs.size → E e s') s) : wpAny M A t Q E s :=
  fun Γ p hΓ => Sem.wp_mono M Γ t (fun _ _ _ q => q.1 q.2) (fun _ _ _ q => q.1 q.2) p s (wp_size t _ _ p s (h Γ p hΓ))
/-- both, for a tree that raises nothing -/
theorem wpAny_both {α : Type} {M : Model} {A : Around} {t : Sem α} {Q : α → Shared → Prop} {E : Value → Shared → Prop} {s : Shared} (h : wpAny M A t (fun a s' => s.toks ≤ s'.toks → s.heap.objs.size ≤ s'.heap.objs.size → Q a s') (fun _ _ => False) s) : wpAny M A t Q E s :=
  wpAny_size (wpAny_toks (wpAny_mono h (fun _ _ x a b => x a b) fun _ _ x => x.elim))
end
section
abbrev Kp (h h' : Heap) : Prop := ∀ b o, h.get? b = some o → h'.get? b = some o
theorem Kp.rfl {h : Heap} : Kp h h := fun _ _ e => e
theorem Kp.trans {h h' h'' : Heap} (a : Kp h h') (b : Kp h' h'') : Kp h h'' := fun x o e => b x o (a x o e)

/-- an iterator I that hands out n items once the tokens have reached T -/
structure WalkQ (T : Nat) (prog : Program) (w : World) (A : Around) (I : Addr) (fp : List Addr) (n : Nat) (P : Nat → Value → Prop) (St : Nat → Heap → Prop) : Prop where
  has : I ∈ fp
  frame : ∀ i h h', St i h → (∀ b ∈ fp, ∀ o, h.get? b = some o → h'.get? b = some o) → St i h'
  item : ∀ i (s : Shared) (Q : Option Value → Shared → Prop) (E : Value → Shared → Prop), i < n → T ≤ s.toks → St i s.heap →
    (∀ v h' tk, P i v → St (i + 1) h' → (∀ b o, b ≠ I → s.heap.get? b = some o → h'.get? b = some o) → Q (some v) { s with heap := h', toks := tk }) → wpAny (model prog w) A (pyNext (.ref I)) Q E s
  done : ∀ (s : Shared) (Q : Option Value → Shared → Prop) (E : Value → Shared → Prop), St n s.heap →
    (∀ h' tk, (∀ b o, b ≠ I → s.heap.get? b = some o → h'.get? b = some o) → Q none { s with heap := h', toks := tk }) → wpAny (model prog w) A (pyNext (.ref I)) Q E s
  self : ∀ i (s : Shared) (Q : Value → Shared → Prop) (E : Value → Shared → Prop), St i s.heap → Q (.ref I) s → wpAny (model prog w) A (pyIter (.ref I)) Q E s
section
variable {prog : Program} {w : World} {A : Around}
theorem WalkQ.of {T : Nat} {I : Addr} {fp : List Addr} {n : Nat} {P : Nat → Value → Prop} {St : Nat → Heap → Prop} (W : Walks prog w A I fp [I] n P St) : WalkQ T prog w A I fp n P St where
  has := W.sub I (List.mem_singleton.mpr rfl)
  frame := W.frame
  item := fun i s Q E hi _ st hQ => W.item i s Q E hi st fun v h' tk hP hs hk => hQ v h' tk hP hs fun b o hb e => hk b o (by simpa using hb) e
  done := fun s Q E st hQ => W.done s Q E st fun h' tk hk => hQ h' tk fun b o hb e => hk b o (by simpa using hb) e
  self := W.self
theorem WalkQ.range {T : Nat} (hh : A.handled = none) (I : Addr) (a : Int) (n : Nat) :
    WalkQ T prog w A I [I] n (fun i v => ∃ t, v = .int (a + (i : Int)) t ∧ T ≤ t) (fun i h => IsRangeIter h I (a + (i : Nat) * 1) ((n : Int) - (i : Nat)) 1) where
  has := List.mem_singleton.mpr rfl
  frame := (Walks.range (prog := prog) (w := w) hh I a 1 n).frame
  item := fun i s Q E hi hT st hQ => by
    refine wpAny_pyNext_range_item st (by (first | lia | omega)) fun h' hit' hs' => ?_
    have e0 : a + ((i : Nat) : Int) * 1 = a + (i : Int) := by (first | lia | omega)
    refine hQ _ h' _ ⟨s.toks, by rw [e0], hT⟩ ?_ fun b o hb e => hs'.extBut b o (fun q => hb q) e
    have e1 : a + ((i + 1 : Nat) : Int) * 1 = a + (i : Int) * 1 + 1 := by (first | lia | omega)
    have e2 : (n : Int) - ((i + 1 : Nat) : Int) = (n : Int) - (i : Int) - 1 := by (first | lia | omega)
    rw [e1, e2]; exact hit'
  done := fun s Q E st hQ => wpAny_pyNext_range_end hh st (by (first | lia | omega)) fun h' he' => hQ h' s.toks fun b o hb e => he' b o (fun q => hb q) e
  self := fun i s Q E st hQ => (Walks.range (prog := prog) (w := w) hh I a 1 n).self i s Q E st hQ
end

/-- where the block's variable is kept: a name of the block's own table (W' = C), or a cell of its own (W' = the cell) -/
structure Slot9 (prog : Program) (w : World) (A : Around) (cenv : Env) (x : Str) (px : Pos) (C W' : Addr) (Rdy : Heap → Prop) (Tgt : Heap → Value → Prop) : Prop where
  store : ∀ v (s : Shared) (Q : Unit → Shared → Prop) (E : Value → Shared → Prop), Rdy s.heap →
    (∀ h' tk, Tgt h' v → (∀ b o, b ≠ W' → s.heap.get? b = some o → h'.get? b = some o) → Q () { s with heap := h', toks := tk }) → wpAny (model prog w) A (assign (.Name x px) cenv v) Q E s
  frame : ∀ h h' v, Tgt h v → (∀ b, b = C ∨ b = W' → ∀ o, h.get? b = some o → h'.get? b = some o) → Tgt h' v
  rframe : ∀ h h', Rdy h → (∀ b, b = C ∨ b = W' → ∀ o, h.get? b = some o → h'.get? b = some o) → Rdy h'
  rdy : ∀ h v, Tgt h v → Rdy h
  ns : ∀ h, Rdy h → ∃ m, h.Ns C m

def CBack (J : List Value → Nat → Prop) (ys : List Value) (s₃ s' : Shared) : Prop :=
  ∃ h' tk, s' = { s₃ with heap := h', toks := tk } ∧ Kp s₃.heap h' ∧ (s₃.toks ≤ tk → J ys tk)

section
variable {prog : Program} {w : World} {A : Around} {R : Result → Shared → Prop} {cenv : Env} {x : Str} {px : Pos} {C W' I D : Addr} {Rdy : Heap → Prop} {Tgt : Heap → Value → Prop} {T n : Nat} {fp : List Addr} {P : Nat → Value → Prop} {St : Nat → Heap → Prop}
theorem compq_loop {elt iter : Expr} {ifs : List Expr} {scope : Scope} {pos : Pos} {s : Shared} (W : WalkQ T prog w A I fp n P St) (V : Slot9 prog w A cenv x px C W' Rdy Tgt) (hsz : n ≤ sizeLine)
    (hCI : C ∉ fp) (hWI : W' ∉ fp) (hDI : D ∉ fp) (hDC : D ≠ C) (hDW : D ≠ W') (base : Heap) (hfresh : ∀ b, b = I ∨ b = D ∨ b = C ∨ b = W' → base.get? b = none)
    (J : Nat → List Value → Nat → Prop) (hmono : ∀ i ys t t', J i ys t → t ≤ t' → J i ys t')
    (hst : St 0 s.heap) (hr : Rdy s.heap) (hD : s.heap.PlainList D #[]) (hb : Kp base s.heap) (hT : T ≤ s.toks) (hJ : J 0 [] s.toks)
    (step : ∀ i v ys h tk, i < n → P i v → J i ys tk → T ≤ tk → Tgt h v → Kp base h →
      wpAny (model prog w) A (forIn ifs true fun c r => if r = true then do let ok ← isTrue c cenv (eval c cenv); pure (ForInStep.yield ok) else pure (ForInStep.yield r))
        (fun ok s₄ => if ok = true then wpAny (model prog w) A (eval elt cenv) (fun y s₅ => CBack (J (i + 1)) (ys ++ [y]) { s with heap := h, toks := tk } s₅) (fun _ _ => False) s₄ else CBack (J (i + 1)) ys { s with heap := h, toks := tk } s₄)
        (fun _ _ => False) { s with heap := h, toks := tk })
    (done : ∀ ys h tk, J n ys tk → T ≤ tk → h.PlainList D ys.toArray → (∃ m, h.Ns C m) → Kp base h → R (.ok .next) { s with heap := h, toks := tk }) :
    codeAny (model prog w) A (.compLoop (.ListComp elt [⟨.Name x px, iter, ifs, 0⟩] scope pos) 0 (.ref I) (.ref D) cenv) R s := by
  refine codeAny_compLoop_tests (fun k s' => ∃ h tk i ys, s' = { s with heap := h, toks := tk } ∧ i ≤ n ∧ k = n + 1 - i ∧ ys.length ≤ i ∧ St i h ∧ Rdy h ∧ h.PlainList D ys.toArray ∧ Kp base h ∧ T ≤ tk ∧ J i ys tk) ?_ (n + 1)
    ⟨s.heap, s.toks, 0, [], rfl, Nat.zero_le _, rfl, Nat.le_refl _, hst, hr, hD, hb, hT, hJ⟩
  rintro k s' ⟨h, tk, i, ys, rfl, hi, rfl, hyl, hst', hr', hD', hb', hT', hJ'⟩
  have hDf : D ≠ I := fun q => hDI (q ▸ W.has)
  have hCf : C ≠ I := fun q => hCI (q ▸ W.has)
  have hWf : W' ≠ I := fun q => hWI (q ▸ W.has)
  have baseI : ∀ b o, base.get? b = some o → b ≠ I ∧ b ≠ D ∧ b ≠ C ∧ b ≠ W' := fun b o e => by
    refine ⟨?_, ?_, ?_, ?_⟩ <;> (rintro rfl; rw [hfresh _ (by simp)] at e; cases e)
  by_cases hlt : i < n
  · refine wpAny_toks (W.item i _ _ _ hlt hT' hst' fun v h₁ tk₁ hP hst₁ hk₁ hle => ?_)
    dsimp only at hle ⊢
    have hr₁ : Rdy h₁ := V.rframe _ _ hr' fun b hb o e => hk₁ b o (by rcases hb with rfl | rfl <;> assumption) e
    refine wpAny_toks (V.store v _ _ _ hr₁ fun h₂ tk₂ hT₂ hk₂ hle₂ => ?_)
    dsimp only at hle₂ ⊢
    have k12 : ∀ b o, b ≠ I → b ≠ W' → h.get? b = some o → h₂.get? b = some o := fun b o h1 h2 e => hk₂ b o h2 (hk₁ b o h1 e)
    have hst₂ : St (i + 1) h₂ := W.frame _ _ _ hst₁ fun b hb o e => hk₂ b o (fun q => hWI (q ▸ hb)) e
    have hD₂ : h₂.PlainList D ys.toArray := hD'.at fun o e => k12 D o hDf hDW e
    have hb₂ : Kp base h₂ := fun b o e => k12 b o (baseI b o e).1 (baseI b o e).2.2.2 (hb' b o e)
    have hJ₂ : J i ys tk₂ := hmono _ _ _ _ hJ' (by (first | lia | omega))
    have fin : ∀ ys' s₅, ys'.length ≤ i + 1 → (∀ (h₅ : Heap) (tk₅ : Nat), s₅ = { s with heap := h₅, toks := tk₅ } → Kp h₂ h₅ → tk₂ ≤ tk₅ → J (i + 1) ys' tk₅ → h₅.PlainList D ys'.toArray → False → False) → True := fun _ _ _ _ => trivial
    refine wpAny_mono (wpAny_toks (wpAny_mono (step i v ys h₂ tk₂ hlt hP hJ₂ (by (first | lia | omega)) hT₂ hb₂) (Q' := fun ok s₄ => tk₂ ≤ s₄.toks → (tk₂ ≤ s₄.toks ∧ if ok = true then wpAny (model prog w) A (eval elt cenv) (fun y s₅ => CBack (J (i + 1)) (ys ++ [y]) { s with heap := h₂, toks := tk₂ } s₅) (fun _ _ => False) s₄ else CBack (J (i + 1)) ys { s with heap := h₂, toks := tk₂ } s₄)) (fun ok s₄ h₄ hle₄ => ⟨hle₄, h₄⟩) (E' := fun _ _ => _ → False) fun _ _ x _ => x)) (fun ok s₄ h₄ => ?_) fun _ _ x => x.elim
    obtain ⟨hle₄, h₄⟩ := h₄
    cases ok with
    | false =>
      simp only [Bool.false_eq_true, if_false] at h₄ ⊢
      obtain ⟨h₅, tk₅, rfl, hk₅, hJ₅⟩ := h₄
      dsimp only at hk₅ hJ₅ hle₄
      refine ⟨n + 1 - (i + 1), by (first | lia | omega), h₅, tk₅, i + 1, ys, rfl, hlt, rfl, by (first | lia | omega), W.frame _ _ _ hst₂ fun b _ o e => hk₅ b o e, V.rframe _ _ (V.rdy _ _ hT₂) fun b _ o e => hk₅ b o e, hD₂.at fun o e => hk₅ _ o e, fun b o e => hk₅ b o (hb₂ b o e), by (first | lia | omega), hJ₅ hle₄⟩
    | true =>
      simp only [if_true] at h₄ ⊢
      refine wpAny_mono (wpAny_toks (wpAny_mono h₄ (Q' := fun y s₅ => s₄.toks ≤ s₅.toks → (s₄.toks ≤ s₅.toks ∧ CBack (J (i + 1)) (ys ++ [y]) { s with heap := h₂, toks := tk₂ } s₅)) (fun y s₅ h₅ hle₅ => ⟨hle₅, h₅⟩) (E' := fun _ _ => _ → False) fun _ _ x _ => x)) (fun y s₅ h₅ => ?_) fun _ _ x => x.elim
      obtain ⟨hle₅, h₅', tk₅, rfl, hk₅, hJ₅⟩ := h₅
      dsimp only at hk₅ hJ₅ hle₅
      obtain ⟨c, hDo⟩ := hD₂
      refine append_at (s := { s with heap := h₅', toks := tk₅ }) (hsz := by rw [List.size_toArray]; (first | lia | omega)) (hk₅ _ _ hDo) fun h₆ hs₆ hD₆ => ?_
      have k6 : ∀ b o, b ≠ D → h₂.get? b = some o → h₆.get? b = some o := fun b o hb e => hs₆.extBut b o hb (hk₅ b o e)
      refine ⟨n + 1 - (i + 1), by (first | lia | omega), h₆, tk₅, i + 1, ys ++ [y], rfl, hlt, rfl, by rw [List.length_append, List.length_singleton]; (first | lia | omega), W.frame _ _ _ hst₂ fun b hb o e => k6 b o (fun q => hDI (q ▸ hb)) e,
        V.rframe _ _ (V.rdy _ _ hT₂) fun b hb o e => k6 b o (by rcases hb with rfl | rfl <;> exact Ne.symm (by assumption)) e, ⟨_, by rw [← List.push_toArray]; exact hD₆⟩, fun b o e => k6 b o (baseI b o e).2.1 (hb₂ b o e), by (first | lia | omega), hJ₅ (by (first | lia | omega))⟩
  · obtain rfl : i = n := by (first | lia | omega)
    refine wpAny_toks (W.done _ _ _ hst' fun h₁ tk₁ hk₁ hle => ?_)
    dsimp only at hle ⊢
    obtain ⟨m, hm⟩ := V.ns _ hr'
    exact done ys h₁ tk₁ (hmono _ _ _ _ hJ' hle) (by (first | lia | omega)) (hD'.at fun o e => hk₁ _ o hDf e) ⟨m, hm.at' fun o e => hk₁ _ o hCf e⟩ fun b o e => hk₁ b o (baseI b o e).1 (hb' b o e)
end
end
section
section
variable {M : Model} {A : Around} {E : Value → Shared → Prop} {s : Shared}
theorem forIn_skip {α β : Type} {f : α → β → Sem (ForInStep β)} {p : α → Prop} {rest : List α} {c : β} : ∀ {pre : List α}, (∀ y ∈ pre, p y) → (∀ y c, p y → f y c = pure (.yield c)) → forIn (pre ++ rest) c f = forIn rest c f
  | [], _, _ => rfl
  | y :: pre, h, hf => by
    rw [List.cons_append, List.forIn_cons, hf y c (h y (.head _)), pure_bind]
    exact forIn_skip (fun z hz => h z (.tail _ hz)) hf
theorem newEnv_cell {scope : Scope} {g : Addr} {cl : List (Str × Addr)} {qual : Str} {env : Env} {x : Str} (pre post : List (Str × NameKind)) {Q : Env → Shared → Prop}
    (hsp : scope.names = pre ++ (x, .cell) :: post) (h1 : ∀ y ∈ pre, y.2 ≠ .cell) (h2 : ∀ y ∈ post, y.2 ≠ .cell)
    (hQ : Q (newEnv scope s.heap.objs.size g ((x, s.heap.objs.size + 1) :: cl) qual none .none (some env) builtinsNs) { s with heap := (s.heap.push { cls := .type "dict", data := .dict #[] }).push { cls := .type "cell", data := .cell none } }) :
    wpAny M A (newFunctionEnv scope g cl [] qual none .none (some env)) Q E s := by
  simp only [newFunctionEnv, Option.isSome_some, if_true]
  refine wpAny_bind (wpAny_alloc ?_)
  rw [hsp, forIn_skip h1 (fun y c hy => by
      obtain ⟨name, kind⟩ := y
      have : (kind == NameKind.cell) = false := by simpa using hy
      simp only [this, Bool.false_eq_true, if_false])]
  rw [List.forIn_cons]
  simp only [beq_self_eq_true, if_true, bind_assoc, pure_bind]
  refine wpAny_bind (wpAny_alloc ?_)
  rw [forIn_yield_id _ (fun y hy c => by
      obtain ⟨name, kind⟩ := y
      have : (kind == NameKind.cell) = false := by simpa using h2 _ hy
      simp only [this, Bool.false_eq_true, if_false])]
  rw [pure_bind]
  simp only [List.forIn_nil, pure_bind]
  have hs : (s.heap.push { cls := .type "dict", data := .dict #[] }).objs.size = s.heap.objs.size + 1 := Heap.size_push _ _
  rw [hs]
  exact wpAny_pure hQ
end
section
variable {prog : Program} {w : World} {A : Around} {env : Env} {scope : Scope} {cl : List (Str × Addr)} {x : Str} {px : Pos} {C c : Addr}
theorem slot_local (hkind : scope.kind = .function) (hx : scope.names.lookup x = some .local) :
    Slot9 prog w A (compEnvC scope cl C env) x px C C (fun h => ∃ m, h.Ns C m) (fun h v => ∃ m, h.Ns C m ∧ m x = some v) where
  store := fun v s Q E ⟨m, hm⟩ hQ => wpAny_assign_Name (wpAny_storeName_local (lookup_relabel_local hx) hm (fun h' hn hs => hQ h' _ ⟨_, hn, by simp⟩ fun b o hb e => hs.extBut b o hb e) (by simp [compEnvC, relabel, hkind]))
  frame := fun h h' v ⟨m, hm, e⟩ hk => ⟨m, hm.at' fun o e => hk C (.inl rfl) o e, e⟩
  rframe := fun h h' ⟨m, hm⟩ hk => ⟨m, hm.at' fun o e => hk C (.inl rfl) o e⟩
  rdy := fun h v ⟨m, hm, _⟩ => ⟨m, hm⟩
  ns := fun _ h => h
theorem lookup_relabel_cell {env : Env} : ∀ {names : List (Str × NameKind)} {x : Str}, names.lookup x = some .cell →
    (names.map fun (n, k) => if (k == NameKind.free && env.scope.kind == .function && env.kindOf n == some .cell) then (n, NameKind.cell) else (n, k)).lookup x = some .cell
  | [], _, h => by simp at h
  | (n, k) :: r, x, h => by
    have ih := @lookup_relabel_cell env r x
    show List.lookup x ((if (k == NameKind.free && env.scope.kind == .function && env.kindOf n == some .cell) = true then (n, NameKind.cell) else (n, k)) :: _) = _
    cases hx : x == n with
    | true =>
      simp only [List.lookup_cons, hx] at h
      cases h
      simp [List.lookup_cons, hx]
    | false =>
      simp only [List.lookup_cons, hx] at h
      by_cases hc : (k == NameKind.free && env.scope.kind == .function && env.kindOf n == some .cell) = true
      · rw [if_pos hc]; simp only [List.lookup_cons, hx]; exact ih h
      · rw [if_neg hc]; simp only [List.lookup_cons, hx]; exact ih h
theorem slot_cell (hkind : scope.kind = .function) (hx : scope.names.lookup x = some .cell) (hne : C ≠ c) :
    Slot9 prog w A (compEnvC scope ((x, c) :: cl) C env) x px C c (fun h => (∃ v, h.IsCell c v) ∧ ∃ m, h.Ns C m) (fun h v => h.IsCell c (some v) ∧ ∃ m, h.Ns C m) where
  store := fun v s Q E ⟨⟨v₀, hv⟩, m, hm⟩ hQ => wpAny_assign_Name (wpAny_storeName_cell (by simp [compEnvC, relabel, hkind]) (lookup_relabel_cell hx) (by simp [compEnvC]) hv fun h' hc hs =>
    hQ h' _ ⟨hc, m, hm.at' fun o e => hs.extBut C o hne e⟩ fun b o hb e => hs.extBut b o hb e)
  frame := fun h h' v ⟨⟨o, ho, hd⟩, m, hm⟩ hk => ⟨⟨o, hk c (.inr rfl) o ho, hd⟩, m, hm.at' fun o e => hk C (.inl rfl) o e⟩
  rframe := fun h h' ⟨⟨v, o, ho, hd⟩, m, hm⟩ hk => ⟨⟨v, o, hk c (.inr rfl) o ho, hd⟩, m, hm.at' fun o e => hk C (.inl rfl) o e⟩
  rdy := fun h v ⟨hc, m, hm⟩ => ⟨⟨_, hc⟩, m, hm⟩
  ns := fun _ h => h.2

/-- a source of n items, whatever its iterator is -/
def SrcT (T : Nat) (prog : Program) (w : World) (A : Around) (xv : Value) (s₁ : Shared) (n : Nat) (P : Nat → Value → Prop) : Prop :=
  ∀ (Q : Value → Shared → Prop) (E : Value → Shared → Prop), (∀ I fp St h', Kp s₁.heap h' → WalkQ T prog w A I fp n P St → St 0 h' → (∀ b ∈ fp, b < h'.objs.size) → s₁.heap.get? I = none → s₁.heap.objs.size ≤ h'.objs.size → Q (.ref I) { s₁ with heap := h' }) →
    wpAny (model prog w) A (pyIter xv) Q E s₁
theorem SrcT.list {T : Nat} {l : Addr} {vs : List Value} {s₁ : Shared} (hh : A.handled = none) (hl : s₁.heap.IsList l vs.toArray) : SrcT T prog w A (.ref l) s₁ vs.length (fun i v => vs[i]? = some v) := by
  intro Q E h
  have hlt : l < s₁.heap.objs.size := by obtain ⟨_, e, _⟩ := hl; exact Heap.lt_size e
  refine wpAny_pyIter_list hl ?_
  have W := WalkQ.of (T := T) (Walks.list (prog := prog) (w := w) hh s₁.heap.objs.size l (Nat.ne_of_lt hlt) vs.toArray)
  have hsz : vs.toArray.size = vs.length := by simp
  rw [hsz] at W
  have hP : (fun (i : Nat) v => vs.toArray[i]? = some v) = fun i v => vs[i]? = some v := by funext i v; simp
  rw [hP] at W
  refine h _ _ _ _ (fun b o e => Heap.get?_push_of_some _ e) W ⟨⟨_, Heap.get?_push_size _ rfl, rfl, rfl⟩, hl.push _⟩ (fun b hb => ?_) (Heap.get?_none_of_le (Nat.le_refl _)) (by rw [Heap.size_push]; (first | lia | omega))
  rw [Heap.size_push]
  rcases List.mem_cons.mp hb with rfl | hb
  · exact Nat.lt_succ_self _
  · rw [List.mem_singleton.mp hb]; exact Nat.lt_succ_of_lt hlt
theorem SrcT.range {T n : Nat} {r : Addr} {a b : Int} {t u v : Tok} {s₁ : Shared} (hh : A.handled = none) (hr : IsRange s₁.heap r a b 1 t u v) (hsm : Builtin.Range.small a b 1 = true) (hn : Builtin.Range.rangeSize a b 1 = (n : Int)) :
    SrcT T prog w A (.ref r) s₁ n (fun i v => ∃ t, v = .int (a + (i : Int)) t ∧ T ≤ t) := by
  intro Q E h
  refine wpAny_pyIter_range hr hsm ?_
  refine h _ _ _ _ (fun b o e => Heap.get?_push_of_some _ e) (WalkQ.range hh s₁.heap.objs.size a n) (by show IsRangeIter _ _ _ _ _; rw [hn]; simpa using Heap.get?_push_size _ rfl) (fun b hb => ?_) (Heap.get?_none_of_le (Nat.le_refl _)) (by rw [Heap.size_push]; (first | lia | omega))
  rw [List.mem_singleton.mp hb, Heap.size_push]; exact Nat.lt_succ_self _
end
end
section
def Halt (P : Prop) : Prop := P
theorem halt {P : Prop} (h : Halt P) : P := h
section
variable {prog : Program} {w : World} {A : Around} {E : Value → Shared → Prop} {s : Shared} {env : Env}
/-- the block's tests and its element, turn by turn -/
def CStep (prog : Program) (w : World) (A : Around) (cenv : Env) (elt : Expr) (ifs : List Expr) (s₁ : Shared) (J' : List Value → Nat → Prop) (ys : List Value) (h : Heap) (tk : Nat) : Prop :=
  wpAny (model prog w) A (forIn ifs true fun c r => if r = true then do let ok ← isTrue c cenv (eval c cenv); pure (ForInStep.yield ok) else pure (ForInStep.yield r))
    (fun ok s₄ => if ok = true then wpAny (model prog w) A (eval elt cenv) (fun y s₅ => CBack J' (ys ++ [y]) { s₁ with heap := h, toks := tk } s₅) (fun _ _ => False) s₄ else CBack J' ys { s₁ with heap := h, toks := tk } s₄)
    (fun _ _ => False) { s₁ with heap := h, toks := tk }
theorem CStep.nil {cenv : Env} {elt : Expr} {s₁ : Shared} {J' : List Value → Nat → Prop} {ys : List Value} {h : Heap} {tk : Nat}
    (hx : wpAny (model prog w) A (eval elt cenv) (fun y s₅ => CBack J' (ys ++ [y]) { s₁ with heap := h, toks := tk } s₅) (fun _ _ => False) { s₁ with heap := h, toks := tk }) : CStep prog w A cenv elt [] s₁ J' ys h tk :=
  wpAny_tests_nil (by simpa using hx)
theorem CStep.one {cenv : Env} {elt c : Expr} {s₁ : Shared} {J' : List Value → Nat → Prop} {ys : List Value} {h : Heap} {tk : Nat}
    (hx : wpAny (model prog w) A (isTrue c cenv (eval c cenv)) (fun ok s₄ => if ok = true then wpAny (model prog w) A (eval elt cenv) (fun y s₅ => CBack J' (ys ++ [y]) { s₁ with heap := h, toks := tk } s₅) (fun _ _ => False) s₄ else CBack J' ys { s₁ with heap := h, toks := tk } s₄)
      (fun _ _ => False) { s₁ with heap := h, toks := tk }) : CStep prog w A cenv elt [c] s₁ J' ys h tk :=
  wpAny_tests_one hx

structure CGo (prog : Program) (w : World) (A : Around) (xv : Value) (s₁ : Shared) (Step : (Nat → List Value → Nat → Prop) → Nat → Value → List Value → Heap → Nat → Prop) (Done : Value → Shared → Prop) : Prop where
  intro ::
  out : ∃ (n : Nat) (P : Nat → Value → Prop) (J : Nat → List Value → Nat → Prop), n ≤ sizeLine ∧ SrcT s₁.toks prog w A xv s₁ n P ∧ (∀ i ys t t', J i ys t → t ≤ t' → J i ys t') ∧ J 0 [] s₁.toks ∧
    (∀ i v ys h tk, i < n → P i v → J i ys tk → s₁.toks ≤ tk → Kp s₁.heap h → Step J i v ys h tk) ∧
    ∀ D ys h tk, J n ys tk → s₁.toks ≤ tk → h.PlainList D ys.toArray → s₁.heap.objs.size ≤ D → Kp s₁.heap h → Done (.ref D) { s₁ with heap := h, toks := tk }

theorem compq_core {elt iter : Expr} {x : Str} {px : Pos} {ifs : List Expr} {scope : Scope} {cl : List (Str × Addr)} {pos : Pos} {s₁ : Shared} {xv : Value} {RR : Value → Addr → Result → Shared → Prop} {Done : Value → Shared → Prop}
    (hcell : ∀ y ∈ scope.names, y.2 ≠ .cell) (hkind : scope.kind = .function) (hx : scope.names.lookup x = some .local)
    (G : CGo prog w A xv s₁ (fun J i v ys h tk => ∀ C m₂, h.Ns C m₂ → m₂ x = some v → s₁.heap.get? C = none → CStep prog w A (compEnvC scope cl C env) elt ifs s₁ (J (i + 1)) ys h tk) Done)
    (hRR : ∀ D C h tk m, C ≠ D → h.Ns C m → s₁.heap.get? C = none → (∃ ys : List Value, h.PlainList D ys.toArray) → s₁.heap.objs.size ≤ D → Kp s₁.heap h → (∀ h', Heap.SameBut C h h' → Done (.ref D) { s₁ with heap := h', toks := tk }) → RR (.ref D) C (.ok .next) { s₁ with heap := h, toks := tk }) :
    wpAny (model prog w) A (pyIter xv) (fun it s₂ => wpAny (model prog w) A (newList []) (fun acc s₃ => wpAny (model prog w) A (newFunctionEnv scope env.globals cl [] env.qual none .none (some env)) (fun cenv s₄ =>
      codeAny (model prog w) A (.compStart (.ListComp elt [⟨.Name x px, iter, ifs, 0⟩] scope pos) 0 it acc { cenv with scope := relabel scope env }) (RR acc cenv.locals) s₄) E s₃) E s₂) E s₁ := by
  obtain ⟨n, P, J, hsz, hsrc, hmono, hJ, step, done⟩ := G.out
  refine hsrc _ _ fun I fp St h' hk W hst hfp hI hle => ?_
  refine wpAny_newObj_type (wpAny_newFunctionEnv hcell (by intro y hy; simp at hy) (fun h₁ hns₁ hsb₁ => ?_) hkind)
  dsimp only at hns₁ hsb₁ ⊢
  generalize hH2 : h'.push { cls := .type "list", dict := none, data := .seq ([] : List Value).toArray } = H2 at hns₁ hsb₁ ⊢
  have hC : H2.objs.size = h'.objs.size + 1 := by rw [← hH2, Heap.size_push]
  have old : ∀ b o, h'.get? b = some o → h₁.get? b = some o := fun b o e => hsb₁.extBut b o (Nat.ne_of_lt (by have := ltN (Heap.lt_size e); (first | lia | omega))) (Heap.get?_push_of_some _ (hH2 ▸ Heap.get?_push_of_some _ e))
  have hacc : h₁.PlainList h'.objs.size #[] := ⟨0, hsb₁.extBut _ _ (neN (by (first | lia | omega))) (Heap.get?_push_of_some _ (hH2 ▸ Heap.get?_push_size _ rfl))⟩
  have fresh : ∀ a, s₁.heap.objs.size ≤ a → s₁.heap.get? a = none := fun a ha => Heap.get?_none_of_le ha
  have loop : codeAny (model prog w) A (.compLoop (.ListComp elt [⟨.Name x px, iter, ifs, 0⟩] scope pos) 0 (.ref I) (.ref h'.objs.size) (compEnvC scope cl H2.objs.size env)) (RR (.ref h'.objs.size) H2.objs.size) { s₁ with heap := h₁, toks := s₁.toks + ([] : List (Str × Value)).length } := by
    refine compq_loop (s := { s₁ with heap := h₁, toks := s₁.toks + ([] : List (Str × Value)).length }) (R := RR (.ref h'.objs.size) H2.objs.size) W (slot_local hkind hx) hsz (fun q => by have := ltN (hfp _ q); (first | lia | omega)) (fun q => by have := ltN (hfp _ q); (first | lia | omega)) (fun q => by have := ltN (hfp _ q); (first | lia | omega)) (neN (by (first | lia | omega))) (neN (by (first | lia | omega))) s₁.heap ?_ J hmono (W.frame _ _ _ hst fun b _ o e => old b o e) ⟨_, hns₁⟩ hacc
      (fun b o e => old b o (hk b o e)) (Nat.le_refl _) hJ ?_ ?_
    · rintro b (rfl | rfl | rfl | rfl)
      · exact hI
      · exact fresh _ hle
      · exact fresh _ (by (first | lia | omega))
      · exact fresh _ (by (first | lia | omega))
    · rintro i v ys h tk hi hP hJ' hT ⟨m, hm, hmx⟩ hkb
      exact step i v ys h tk hi hP hJ' hT hkb _ m hm hmx (fresh _ (by (first | lia | omega)))
    · rintro ys h tk hJ' hT hpl ⟨m, hm⟩ hkb
      refine hRR _ _ h tk m (neN (by (first | lia | omega))) hm (fresh _ (by (first | lia | omega))) ⟨ys, hpl⟩ hle hkb fun h'' hs'' => done _ ys h'' tk hJ' hT ?_ hle fun b o e => hs''.extBut b o (fun q => by rw [q, fresh _ (by (first | lia | omega))] at e; cases e) (hkb b o e)
      exact hpl.extBut hs''.extBut (neN (by (first | lia | omega)))
  exact codeAny_compStart_list loop (W.self 0 _ _ _ (W.frame _ _ _ hst fun b _ o e => old b o e) loop)

theorem compq_coreC {elt iter : Expr} {x : Str} {px : Pos} {ifs : List Expr} {scope : Scope} {cl : List (Str × Addr)} {pos : Pos} {s₁ : Shared} {xv : Value} {RR : Value → Addr → Result → Shared → Prop} {Done : Value → Shared → Prop} (pre post : List (Str × NameKind))
    (hsp : scope.names = pre ++ (x, .cell) :: post) (h1 : ∀ y ∈ pre, y.2 ≠ .cell) (h2 : ∀ y ∈ post, y.2 ≠ .cell) (hkind : scope.kind = .function) (hx : scope.names.lookup x = some .cell)
    (G : CGo prog w A xv s₁ (fun J i v ys h tk => ∀ C c, h.IsCell c (some v) → (∃ m, h.Ns C m) → s₁.heap.get? C = none → s₁.heap.get? c = none → CStep prog w A (compEnvC scope ((x, c) :: cl) C env) elt ifs s₁ (J (i + 1)) ys h tk) Done)
    (hRR : ∀ D C h tk m, C ≠ D → h.Ns C m → s₁.heap.get? C = none → (∃ ys : List Value, h.PlainList D ys.toArray) → s₁.heap.objs.size ≤ D → Kp s₁.heap h → (∀ h', Heap.SameBut C h h' → Done (.ref D) { s₁ with heap := h', toks := tk }) → RR (.ref D) C (.ok .next) { s₁ with heap := h, toks := tk }) :
    wpAny (model prog w) A (pyIter xv) (fun it s₂ => wpAny (model prog w) A (newList []) (fun acc s₃ => wpAny (model prog w) A (newFunctionEnv scope env.globals cl [] env.qual none .none (some env)) (fun cenv s₄ =>
      codeAny (model prog w) A (.compStart (.ListComp elt [⟨.Name x px, iter, ifs, 0⟩] scope pos) 0 it acc { cenv with scope := relabel scope env }) (RR acc cenv.locals) s₄) E s₃) E s₂) E s₁ := by
  obtain ⟨n, P, J, hsz, hsrc, hmono, hJ, step, done⟩ := G.out
  refine hsrc _ _ fun I fp St h' hk W hst hfp hI hle => ?_
  refine wpAny_newObj_type (newEnv_cell pre post hsp h1 h2 ?_)
  dsimp only
  generalize hH2 : h'.push { cls := .type "list", dict := none, data := .seq ([] : List Value).toArray } = H2
  have hC : H2.objs.size = h'.objs.size + 1 := by rw [← hH2, Heap.size_push]
  have hH3 : (H2.push { cls := .type "dict", data := .dict #[] }).objs.size = h'.objs.size + 2 := by rw [Heap.size_push, hC]
  generalize hH4 : (H2.push { cls := .type "dict", data := .dict #[] }).push { cls := .type "cell", data := .cell none } = h₁
  have old : ∀ b o, h'.get? b = some o → h₁.get? b = some o := fun b o e => hH4 ▸ Heap.get?_push_of_some _ (Heap.get?_push_of_some _ (hH2 ▸ Heap.get?_push_of_some _ e))
  have hacc : h₁.PlainList h'.objs.size #[] := ⟨0, hH4 ▸ Heap.get?_push_of_some _ (Heap.get?_push_of_some _ (hH2 ▸ Heap.get?_push_size _ rfl))⟩
  have hNs : h₁.Ns H2.objs.size (fun _ => none) := ⟨_, #[], 0, hH4 ▸ Heap.get?_push_of_some _ (Heap.get?_push_size _ rfl), rfl, by intro e he; simp at he, fun _ => rfl⟩
  have hce : h₁.IsCell (H2.objs.size + 1) none := ⟨_, by have q := Heap.get?_push_size (H2.push { cls := .type "dict", data := .dict #[] }) (o := { cls := .type "cell", data := .cell none }) rfl; rw [Heap.size_push, hH4] at q; exact q, rfl⟩
  have fresh : ∀ a, s₁.heap.objs.size ≤ a → s₁.heap.get? a = none := fun a ha => Heap.get?_none_of_le ha
  have loop : codeAny (model prog w) A (.compLoop (.ListComp elt [⟨.Name x px, iter, ifs, 0⟩] scope pos) 0 (.ref I) (.ref h'.objs.size) (compEnvC scope ((x, H2.objs.size + 1) :: cl) H2.objs.size env)) (RR (.ref h'.objs.size) H2.objs.size) { s₁ with heap := h₁ } := by
    refine compq_loop (s := { s₁ with heap := h₁ }) (R := RR (.ref h'.objs.size) H2.objs.size) W (slot_cell hkind hx (neN (by (first | lia | omega)))) hsz (fun q => by have := ltN (hfp _ q); (first | lia | omega)) (fun q => by have := ltN (hfp _ q); (first | lia | omega)) (fun q => by have := ltN (hfp _ q); (first | lia | omega)) (neN (by (first | lia | omega))) (neN (by (first | lia | omega))) s₁.heap ?_ J hmono (W.frame _ _ _ hst fun b _ o e => old b o e) ⟨⟨_, hce⟩, _, hNs⟩ hacc
      (fun b o e => old b o (hk b o e)) (Nat.le_refl _) hJ ?_ ?_
    · rintro b (rfl | rfl | rfl | rfl)
      · exact hI
      · exact fresh _ hle
      · exact fresh _ (by (first | lia | omega))
      · exact fresh _ (by (first | lia | omega))
    · rintro i v ys h tk hi hP hJ' hT ⟨hc, hm⟩ hkb
      exact step i v ys h tk hi hP hJ' hT hkb _ _ hc hm (fresh _ (by (first | lia | omega))) (fresh _ (by (first | lia | omega)))
    · rintro ys h tk hJ' hT hpl ⟨m, hm⟩ hkb
      refine hRR _ _ h tk m (neN (by (first | lia | omega))) hm (fresh _ (by (first | lia | omega))) ⟨ys, hpl⟩ hle hkb fun h'' hs'' => done _ ys h'' tk hJ' hT ?_ hle fun b o e => hs''.extBut b o (fun q => by rw [q, fresh _ (by (first | lia | omega))] at e; cases e) (hkb b o e)
      exact hpl.extBut hs''.extBut (neN (by (first | lia | omega)))
  exact codeAny_compStart_list loop (W.self 0 _ _ _ (W.frame _ _ _ hst fun b _ o e => old b o e) loop)

/-- [elt for x in iter if ..] as a value -/
theorem compq_eval {elt iter : Expr} {x : Str} {px : Pos} {ifs : List Expr} {scope : Scope} {cl : List (Str × Addr)} {pos : Pos} {Q : Value → Shared → Prop}
    (hclos : closureFor scope env = pure cl) (hcell : ∀ y ∈ scope.names, y.2 ≠ .cell) (hkind : scope.kind = .function)
    (hnames : ∀ y ∈ scope.names, y.2 = .local → scope.names.lookup y.1 = some .local) (hx : scope.names.lookup x = some .local)
    (h : wpAny (model prog w) A (eval iter env) (fun xv s₁ => Halt (CGo prog w A xv s₁ (fun J i v ys h tk => ∀ C m₂, h.Ns C m₂ → m₂ x = some v → s₁.heap.get? C = none → CStep prog w A (compEnvC scope cl C env) elt ifs s₁ (J (i + 1)) ys h tk) Q)) E s)
    (hs : ∀ x, foldedSetIterable iter env x = pure x := by intro _; rfl) :
    wpAny (model prog w) A (eval (.ListComp elt [⟨.Name x px, iter, ifs, 0⟩] scope pos) env) Q E s := by
  rw [eval_ListComp]
  refine wpAny_comprehension_free (use := none) rfl hs hclos hkind hnames (wpAny_mono h (fun xv s₁ G => ?_) fun _ _ e => e)
  refine compq_core (RR := fun acc C => compPost (model prog w) A E none Q acc C) hcell hkind hx G ?_
  intro D C h tk m hCD hm _ _ _ _ hd
  exact ⟨m, hm, fun h' hs' => hd h' hs'⟩
theorem compq_evalC {elt iter : Expr} {x : Str} {px : Pos} {ifs : List Expr} {scope : Scope} {cl : List (Str × Addr)} {pos : Pos} {Q : Value → Shared → Prop} (pre post : List (Str × NameKind))
    (hclos : closureFor scope env = pure cl) (hsp : scope.names = pre ++ (x, .cell) :: post) (h1 : ∀ y ∈ pre, y.2 ≠ .cell) (h2 : ∀ y ∈ post, y.2 ≠ .cell) (hkind : scope.kind = .function)
    (hnames : ∀ y ∈ scope.names, y.2 = .local → scope.names.lookup y.1 = some .local) (hx : scope.names.lookup x = some .cell)
    (h : wpAny (model prog w) A (eval iter env) (fun xv s₁ => Halt (CGo prog w A xv s₁ (fun J i v ys h tk => ∀ C c, h.IsCell c (some v) → (∃ m, h.Ns C m) → s₁.heap.get? C = none → s₁.heap.get? c = none → CStep prog w A (compEnvC scope ((x, c) :: cl) C env) elt ifs s₁ (J (i + 1)) ys h tk) Q)) E s)
    (hs : ∀ x, foldedSetIterable iter env x = pure x := by intro _; rfl) :
    wpAny (model prog w) A (eval (.ListComp elt [⟨.Name x px, iter, ifs, 0⟩] scope pos) env) Q E s := by
  rw [eval_ListComp]
  refine wpAny_comprehension_free (use := none) rfl hs hclos hkind hnames (wpAny_mono h (fun xv s₁ G => ?_) fun _ _ e => e)
  refine compq_coreC (RR := fun acc C => compPost (model prog w) A E none Q acc C) pre post hsp h1 h2 hkind hx G ?_
  intro D C h tk m hCD hm _ _ _ _ hd
  exact ⟨m, hm, fun h' hs' => hd h' hs'⟩
end
end
section
section
variable {prog : Program} {w : World} {A : Around} {E : Value → Shared → Prop} {s : Shared} {env : Env}
structure CGoA (prog : Program) (w : World) (A : Around) (xv : Value) (s₁ : Shared) (L : Addr) (y : Str) (Step : (Nat → List Value → Nat → Prop) → Nat → Value → List Value → Heap → Nat → Prop) (Q : Flow → Shared → Prop) : Prop where
  intro ::
  out : ∃ (n : Nat) (P : Nat → Value → Prop) (J : Nat → List Value → Nat → Prop) (h₀ : Heap) (m : Str → Option Value), Fr h₀ L s₁.heap m ∧ n ≤ sizeLine ∧ SrcT s₁.toks prog w A xv s₁ n P ∧ (∀ i ys t t', J i ys t → t ≤ t' → J i ys t') ∧ J 0 [] s₁.toks ∧
    (∀ i v ys h tk, i < n → P i v → J i ys tk → s₁.toks ≤ tk → Kp s₁.heap h → Step J i v ys h tk) ∧
    ∀ D ys h tk, J n ys tk → s₁.toks ≤ tk → h.PlainList D ys.toArray → s₁.heap.objs.size ≤ D → Fr h₀ L h (fun z => if z = y then some (.ref D) else m z) → (∀ b o, b ≠ L → s₁.heap.get? b = some o → h.get? b = some o) → Q .next { s₁ with heap := h, toks := tk }

/-- y = [elt for x in iter if ..], y a name of the frame's own -/
theorem compq_assign {elt iter : Expr} {x y : Str} {px py : Pos} {ifs : List Expr} {scope : Scope} {cl : List (Str × Addr)} {pos spos : Pos} {Q : Flow → Shared → Prop}
    (hsw : swapsWith (.ListComp elt [⟨.Name x px, iter, ifs, 0⟩] scope pos) (some (.Name y py)) spos.line env = pure true)
    (hclos : closureFor scope env = pure cl) (hcell : ∀ z ∈ scope.names, z.2 ≠ .cell) (hkind : scope.kind = .function)
    (hnames : ∀ z ∈ scope.names, z.2 = .local → scope.names.lookup z.1 = some .local) (hx : scope.names.lookup x = some .local)
    (hy : env.kindOf y = some .local) (hp : (env.scope.kind == .class || (env.scope.kind == .module && env.locals != env.globals)) = false)
    (h : wpAny (model prog w) A (eval iter env) (fun xv s₁ => Halt (CGoA prog w A xv s₁ env.locals y (fun J i v ys h tk => ∀ C m₂, h.Ns C m₂ → m₂ x = some v → s₁.heap.get? C = none → CStep prog w A (compEnvC scope cl C env) elt ifs s₁ (J (i + 1)) ys h tk) Q)) E s)
    (hs : ∀ x, foldedSetIterable iter env x = pure x := by intro _; rfl) :
    wpAny (model prog w) A (exec (.Assign [.Name y py] (.ListComp elt [⟨.Name x px, iter, ifs, 0⟩] scope pos) spos) env) Q E s := by
  rw [exec_Assign_Name_used _ _ _ _ hsw]
  refine wpAny_bind (wpAny_standAt (wpAny_bind ?_))
  show wpAny _ A (do let _ ← comprehension (.ListComp elt [⟨.Name x px, iter, ifs, 0⟩] scope pos) scope env _ (newList []) false (eval iter env) (some (assign (.Name y py) env))) _ _ s
  refine wpAny_bind (wpAny_mono (wpAny_comprehension_free (use := some (assign (.Name y py) env)) (Q := fun _ s' => Q .next s') rfl hs hclos hkind hnames
    (wpAny_mono h (fun xv s₁ G => ?_) fun _ _ e => e)) (fun _ s' hq => wpAny_pure (wpAny_pure hq)) fun _ _ e => e)
  obtain ⟨n, P, J, h₀, m, F, hsz, hsrc, hmono, hJ, step, done⟩ := G.out
  refine compq_core (RR := fun acc C => compPost (model prog w) A E (some (assign (.Name y py) env)) (fun _ s' => Q .next s') acc C)
    (Done := fun v s' => ∃ D ys, v = .ref D ∧ J n ys s'.toks ∧ s₁.toks ≤ s'.toks ∧ s'.heap.PlainList D (List.toArray ys) ∧ s₁.heap.objs.size ≤ D ∧ Kp s₁.heap s'.heap) hcell hkind hx
    ⟨n, P, J, hsz, hsrc, hmono, hJ, step, fun D ys h tk a b c d e => ⟨D, ys, rfl, a, b, c, d, e⟩⟩ ?_
  intro D C h tk mC hCD hm hC₀ _ hDs hk hd
  obtain ⟨D', ys, e0, hJ', hT, hpl, hle, hkp⟩ := hd h (Heap.SameBut.refl ..)
  cases e0
  dsimp only at hJ' hT hpl hkp
  have hLs : env.locals < s₁.heap.objs.size := F.ns.lt
  have F' : Fr h₀ env.locals h m := F.keeps hkp
  have hCL : C ≠ env.locals := fun q => by
    obtain ⟨o, _, _, e, _⟩ := F.ns
    rw [q] at hC₀; rw [hC₀] at e; cases e
  have hDL : D ≠ env.locals := Nat.ne_of_gt (Nat.lt_of_lt_of_le hLs hle)
  show wpAny _ A (assign (.Name y py) env (.ref D)) _ _ _
  refine wpAny_assign_Name (wpAny_storeName_local hy F'.ns (fun h₂ hn₂ hs₂ => ?_) hp)
  have hL₀ : h₀.get? env.locals = none := Heap.get?_none_of_le F'.above
  have F₂ : Fr h₀ env.locals h₂ (fun z => if z = y then some (.ref D) else m z) := ⟨hn₂, fun b o e => hs₂.extBut b o (fun q => by rw [q, hL₀] at e; cases e) (F'.keep b o e), F'.above⟩
  have hC₁ : h₀.get? C = none := by
    cases q : h₀.get? C with
    | none => rfl
    | some o => have := F.keep _ _ q; rw [hC₀] at this; cases this
  refine ⟨mC, hm.sameBut hs₂ hCL, fun h₃ hs₃ => done D ys h₃ _ (hmono _ _ _ _ hJ' (Nat.le_succ _)) (Nat.le_succ_of_le hT) ?_ hle (F₂.change hs₃ hCL hC₁) fun b o hb e => ?_⟩
  · exact (hpl.extBut hs₂.extBut hDL).extBut hs₃.extBut (Ne.symm hCD)
  · exact hs₃.extBut b o (fun q => by rw [q, hC₀] at e; cases e) (hs₂.extBut b o hb (hkp b o e))
end
end
section
structure FSrc (prog : Program) (w : World) (A : Around) (target : Expr) (I : Addr) (fp wr : List Addr) (n : Nat) (P : Nat → Value → Heap → Prop) (St : Nat → Heap → Prop) : Prop where
  sub : ∀ b ∈ wr, b ∈ fp
  frame : ∀ i h h', St i h → (∀ b ∈ fp, ∀ o, h.get? b = some o → h'.get? b = some o) → St i h'
  next : ∀ i (s : Shared) (Q : Value → Shared → Prop) (E : Value → Shared → Prop), i < n → St i s.heap →
    (∀ v h' tk, P i v h' → St (i + 1) h' → (∀ b o, b ∉ wr → s.heap.get? b = some o → h'.get? b = some o) → Q v { s with heap := h', toks := tk }) →
    wpAny (model prog w) A (pyNext (.ref I)) (fun r s₁ => match r with | none => False | some v => wpAny (model prog w) A (letOwnedTupleGo target (.ref I) v) (fun _ s₂ => Q v s₂) E s₁) E s
  live : ∀ i h, St i h → ∀ b ∈ wr, (h.get? b).isSome = true
  done : ∀ (s : Shared) (Q : Option Value → Shared → Prop) (E : Value → Shared → Prop), St n s.heap →
    (∀ h' tk, (∀ b o, b ∉ wr → s.heap.get? b = some o → h'.get? b = some o) → Q none { s with heap := h', toks := tk }) → wpAny (model prog w) A (pyNext (.ref I)) Q E s
section
variable {prog : Program} {w : World} {A : Around}
theorem FSrc.of {x : Str} {px : Pos} {I : Addr} {fp wr : List Addr} {n : Nat} {P : Nat → Value → Prop} {St : Nat → Heap → Prop} (W : Walks prog w A I fp wr n P St) (lv : ∀ i h, St i h → ∀ b ∈ wr, (h.get? b).isSome = true) : FSrc prog w A (.Name x px) I fp wr n (fun i v _ => P i v) St where
  sub := W.sub
  frame := W.frame
  next := fun i s Q E hi st hQ => W.item i s _ E hi st fun v h' tk hP hs hk => wpAny_pure (hQ v h' tk hP hs hk)
  live := lv
  done := W.done
theorem FSrc.ofU {elts : List Expr} {k : Nat} {pos : Pos} {I : Addr} {fp wr : List Addr} {n : Nat} {Pt : Nat → Array Value → Prop} {St : Nat → Heap → Prop} {Mid : Nat → Addr → Heap → Prop} (W : WalksU prog w A I fp wr n Pt St Mid) (lv : ∀ i h, St i h → ∀ b ∈ wr, (h.get? b).isSome = true) :
    FSrc prog w A (.Tuple elts k pos) I fp wr n (fun i v h => ∃ T vals, v = .ref T ∧ Pt i vals ∧ h.IsTuple T vals) St where
  sub := W.sub
  frame := W.frame
  next := fun i s Q E hi st hQ => W.item i s _ E hi st fun T vals h' tk hP hT hm hk => W.go elts k pos i T _ _ E hm fun h₂ hs hk₂ =>
    hQ (.ref T) h₂ tk ⟨T, vals, rfl, hP, hT.at fun o e => hk₂ T o (W.apart i T _ hm) e⟩ hs fun b o hb e => hk₂ b o hb (hk b o hb e)
  live := lv
  done := W.done

def FSrcT (prog : Program) (w : World) (A : Around) (target : Expr) (xv : Value) (s₁ : Shared) (B n : Nat) (X : List Addr) (P : Nat → Value → Heap → Prop) : Prop :=
  ∀ (Q : Value → Shared → Prop) (E : Value → Shared → Prop), (∀ I fp wr St h', Kp s₁.heap h' → FSrc prog w A target I fp wr n P St → St 0 h' → (∀ b ∈ wr, B ≤ b) → (∀ b ∈ fp, (h'.get? b).isSome = true ∧ ∀ m, ¬ h'.Ns b m) → (∀ b ∈ fp, B ≤ b ∨ b ∈ X) → Q (.ref I) { s₁ with heap := h' }) →
    wpAny (model prog w) A (pyIter xv) Q E s₁
theorem notNs_of {h : Heap} {b : Addr} {o : Obj} (e : h.get? b = some o) (hd : ∀ es k, o.data ≠ .dict es k) : (h.get? b).isSome = true ∧ ∀ m, ¬ h.Ns b m :=
  ⟨by rw [e]; rfl, fun _ ⟨o', es, k, e', hd', _⟩ => by rw [e] at e'; cases e'; exact hd _ _ hd'⟩
theorem FSrcT.list {x : Str} {px : Pos} {l : Addr} {vs : List Value} {s₁ : Shared} (hh : A.handled = none) (hl : s₁.heap.IsList l vs.toArray) : FSrcT prog w A (.Name x px) (.ref l) s₁ s₁.heap.objs.size vs.length [l] (fun i v _ => vs[i]? = some v) := by
  intro Q E h
  have hlt : l < s₁.heap.objs.size := by obtain ⟨_, e, _⟩ := hl; exact Heap.lt_size e
  refine wpAny_pyIter_list hl ?_
  have W := FSrc.of (x := x) (px := px) (Walks.list (prog := prog) (w := w) hh s₁.heap.objs.size l (Nat.ne_of_lt hlt) vs.toArray) (fun i h st b hb => by rw [List.mem_singleton.mp hb]; obtain ⟨⟨o, e, _⟩, _⟩ := st; rw [e]; rfl)
  have hsz : vs.toArray.size = vs.length := by simp
  rw [hsz] at W
  have hP : (fun (i : Nat) v (_ : Heap) => vs.toArray[i]? = some v) = fun i v _ => vs[i]? = some v := by funext i v; simp
  rw [hP] at W
  refine h _ _ _ _ _ (fun b o e => Heap.get?_push_of_some _ e) W ⟨⟨_, Heap.get?_push_size _ rfl, rfl, rfl⟩, hl.push _⟩ (fun b hb => by rw [List.mem_singleton.mp hb]; exact Nat.le_refl _) (fun b hb => ?_) (fun b hb => (List.mem_cons.mp hb).imp (fun e => Nat.le_of_eq e.symm) id)
  rcases List.mem_cons.mp hb with rfl | hb
  · exact notNs_of (Heap.get?_push_size _ rfl) (fun _ _ q => nomatch q)
  · rw [List.mem_singleton.mp hb]; obtain ⟨o, e, _, k, hd⟩ := hl; exact notNs_of (Heap.get?_push_of_some _ e) (fun _ _ q => by rw [hd] at q; cases q)
theorem FSrcT.range {x : Str} {px : Pos} {n : Nat} {r : Addr} {a b : Int} {t u v : Tok} {s₁ : Shared} (hh : A.handled = none) (hr : IsRange s₁.heap r a b 1 t u v) (hsm : Builtin.Range.small a b 1 = true) (hn : Builtin.Range.rangeSize a b 1 = (n : Int)) :
    FSrcT prog w A (.Name x px) (.ref r) s₁ s₁.heap.objs.size n [] (fun i v _ => ∃ t, v = .int (a + (i : Int)) t) := by
  intro Q E h
  refine wpAny_pyIter_range hr hsm ?_
  refine h _ _ _ _ _ (fun b o e => Heap.get?_push_of_some _ e) (FSrc.of (LCg.range_walks hh a n) (fun i h st b hb => by rw [List.mem_singleton.mp hb]; have e : h.get? _ = some _ := st; rw [e]; rfl)) (by show IsRangeIter _ _ _ _ _; rw [hn]; simpa using Heap.get?_push_size _ rfl) (fun b hb => by rw [List.mem_singleton.mp hb]; exact Nat.le_refl _) (fun b hb => ?_) (fun b hb => .inl (by rw [List.mem_singleton.mp hb]; exact Nat.le_refl _))
  rw [List.mem_singleton.mp hb]
  exact notNs_of (Heap.get?_push_size _ rfl) (fun _ _ q => nomatch q)

theorem FSrc.ofT {elts : List Expr} {k : Nat} {pos : Pos} {I : Addr} {fp wr : List Addr} {n : Nat} {Pt : Nat → Array Value → Prop} {St : Nat → Heap → Prop} {Mid : Nat → Addr → Heap → Prop} (W : PySem.WalksT prog w A I fp wr n Pt St Mid) (lv : ∀ i h, St i h → ∀ b ∈ wr, (h.get? b).isSome = true) :
    FSrc prog w A (.Tuple elts k pos) I fp wr n (fun i v h => ∃ T vals, v = .ref T ∧ Pt i vals ∧ h.IsTuple T vals) St where
  sub := W.sub
  frame := W.frame
  next := fun i s Q E hi st hQ => W.item i s _ E hi st fun T vals h' tk hP _ hT hm hk => W.go elts k pos i T _ _ E hm fun h₂ hs hk₂ =>
    hQ (.ref T) h₂ tk ⟨T, vals, rfl, hP, hT.at fun o e => hk₂ T o (W.apart i T _ hm) e⟩ hs fun b o hb e => hk₂ b o hb (hk b o hb e)
  live := lv
  done := W.done
/-- for i, v in enumerate(l) -/
theorem FSrcT.enum {elts : List Expr} {k : Nat} {pos : Pos} {e it l : Addr} {old : Value} {vs : List Value} {s₁ : Shared} {B : Nat} (hh : A.handled = none) (he : IsEnum s₁.heap e it 0 old) (hit : s₁.heap.IsListIter it l 0) (hl : s₁.heap.IsList l vs.toArray)
    (hei : e ≠ it) (hle : l ≠ e) (hli : l ≠ it) (hBe : B ≤ e) (hBi : B ≤ it) :
    FSrcT prog w A (.Tuple elts k pos) (.ref e) s₁ B vs.length [l] (fun i v h => ∃ T x t, v = .ref T ∧ vs[i]? = some x ∧ h.IsTuple T #[.int i t, x]) := by
  intro Q E h
  refine wpAny_pyIter_enum he ?_
  have W := FSrc.ofT (elts := elts) (k := k) (pos := pos) (PySem.WalksT.enumerate (prog := prog) (w := w) (A := A) hh e it l hei hle hli vs.toArray) (fun i h st b hb => by
    obtain ⟨⟨v9, e9⟩, ⟨o, e, _⟩, _⟩ := st
    rcases List.mem_cons.mp hb with rfl | hb
    · have e8 : h.get? _ = some _ := e9; rw [e8]; rfl
    · rw [List.mem_singleton.mp hb, e]; rfl)
  have hsz : vs.toArray.size = vs.length := by simp
  rw [hsz] at W
  have hP : (fun (i : Nat) (v : Value) (h : Heap) => ∃ T vals, v = Value.ref T ∧ (∃ t x, vs.toArray[i]? = some x ∧ vals = #[Value.int i t, x]) ∧ h.IsTuple T vals) = fun (i : Nat) (v : Value) (h : Heap) => ∃ T x t, v = Value.ref T ∧ vs[i]? = some x ∧ h.IsTuple T #[Value.int i t, x] := by
    funext i v h
    apply propext
    constructor
    · rintro ⟨T, vals, rfl, ⟨t, x, hx, rfl⟩, hT⟩; exact ⟨T, x, t, rfl, by simpa using hx, hT⟩
    · rintro ⟨T, x, t, rfl, hx, hT⟩; exact ⟨T, _, rfl, ⟨t, x, by simpa using hx, rfl⟩, hT⟩
  rw [hP] at W
  refine h _ _ _ _ _ (fun _ _ e => e) W ⟨⟨_, he⟩, hit, hl⟩ (fun b hb => ?_) (fun b hb => ?_) (fun b hb => ?_)
  · rcases List.mem_cons.mp hb with rfl | hb
    · exact hBe
    · rw [List.mem_singleton.mp hb]; exact hBi
  · rcases List.mem_cons.mp hb with rfl | hb
    · exact notNs_of he (fun _ _ q => nomatch q)
    · rcases List.mem_cons.mp hb with rfl | hb
      · obtain ⟨o, e', _, hd⟩ := hit; exact notNs_of e' (fun _ _ q => by rw [hd] at q; cases q)
      · rw [List.mem_singleton.mp hb]; obtain ⟨o, e', _, k, hd⟩ := hl; exact notNs_of e' (fun _ _ q => by rw [hd] at q; cases q)
  · rcases List.mem_cons.mp hb with rfl | hb
    · exact .inl hBe
    · rcases List.mem_cons.mp hb with rfl | hb
      · exact .inl hBi
      · exact .inr hb

def FEnd {σ : Type} (h₀ : Heap) (L : Addr) (wr : List Addr) (ps : σ → List (Str × Value)) (Led : σ → List (Addr × Obj)) (J : σ → Nat → Prop) (own : List (Addr × Obj)) (s₁ s₃ : Shared) : Prop :=
  s₁.toks ≤ s₃.toks → ∃ c h' m' nw, s₃ = { s₁ with heap := h', toks := s₃.toks } ∧ Fr h₀ L h' m' ∧ News h₀ L h' nw ∧ (∀ p ∈ own, p ∈ nw) ∧ (∀ p ∈ Led c, p ∈ nw ∧ p.1 ∉ wr) ∧ (∀ p ∈ ps c, m' p.1 = some p.2) ∧ J c s₃.toks
def FPost {σ : Type} (h₀ : Heap) (L : Addr) (wr : List Addr) (ps : σ → List (Str × Value)) (Led : σ → List (Addr × Obj)) (J : σ → Nat → Prop) (own : List (Addr × Obj)) (s₁ : Shared) (Q : Flow → Shared → Prop) (f : Flow) (s₃ : Shared) : Prop :=
  match f with
  | .ret v => Q (.ret v) s₃
  | .brk => Q .next s₃
  | _ => FEnd h₀ L wr ps Led J own s₁ s₃
theorem FEnd.intro {σ : Type} {h₀ : Heap} {L : Addr} {wr : List Addr} {ps : σ → List (Str × Value)} {Led : σ → List (Addr × Obj)} {J : σ → Nat → Prop} {own nw : List (Addr × Obj)} {s₁ : Shared} {h' : Heap} {tk : Nat} {m' : Str → Option Value} (c : σ)
    (F : Fr h₀ L h' m') (N : News h₀ L h' nw) (ho : ∀ p ∈ own, p ∈ nw) (hl : ∀ p ∈ Led c, p ∈ nw ∧ p.1 ∉ wr) (hp : ∀ p ∈ ps c, m' p.1 = some p.2) (hJ : s₁.toks ≤ tk → J c tk) :
    FEnd h₀ L wr ps Led J own s₁ { s₁ with heap := h', toks := tk } := fun hle => ⟨c, h', m', nw, rfl, F, N, ho, hl, hp, hJ hle⟩

structure ForGo (prog : Program) (w : World) (A : Around) (env : Env) (target : Expr) (body orelse : List Stmt) (Q : Flow → Shared → Prop) (xv : Value) (s₁ : Shared) : Prop where
  intro ::
  out : ∃ (σ : Type) (n : Nat) (P : Nat → Value → Heap → Prop) (h₀ : Heap) (m : Str → Option Value) (ps : σ → List (Str × Value)) (Led : σ → List (Addr × Obj)) (J : Nat → σ → Nat → Prop) (c₀ : σ) (B : Nat) (X : List Addr),
    FSrcT prog w A target xv s₁ B n X P ∧ env.locals < B ∧ (∀ p ∈ Led c₀, p.1 < B) ∧ Fr h₀ env.locals s₁.heap m ∧ News h₀ env.locals s₁.heap (Led c₀) ∧ (∀ p ∈ ps c₀, m p.1 = some p.2) ∧ J 0 c₀ s₁.toks ∧ (∀ i c t t', J i c t → t ≤ t' → J i c t') ∧
    (∀ i c v m₁ h tk own wr, i < n → P i v h → J i c tk → s₁.toks ≤ tk → Fr h₀ env.locals h (kstB m₁ (ps c)) → News h₀ env.locals h (own ++ Led c) → (∀ p ∈ Led c, p.1 ∉ wr) → (∀ p ∈ own, ∀ q ∈ Led c, p.1 = q.1 → p.2 = q.2) → ((∀ b ∈ wr, b < h.objs.size) ∧ (∀ p ∈ own, B ≤ p.1 ∨ p.1 ∈ X) ∧ ∀ b ∈ wr, ∃ o, (b, o) ∈ own) →
      wpAny (model prog w) A (assign target env v) (fun _ s₂ => wpAny (model prog w) A (execs body env) (FPost h₀ env.locals wr ps Led (J (i + 1)) own { s₁ with heap := h, toks := tk } Q) (fun _ _ => False) s₂) (fun _ _ => False) { s₁ with heap := h, toks := tk }) ∧
    ∀ c m₁ h tk, J n c tk → s₁.toks ≤ tk → Fr h₀ env.locals h (kstB m₁ (ps c)) → News h₀ env.locals h (Led c) → wpAny (model prog w) A (execs orelse env) Q (fun _ _ => False) { s₁ with heap := h, toks := tk }

theorem ForGo.mk' {σ : Type} {env : Env} {target : Expr} {body orelse : List Stmt} {Q : Flow → Shared → Prop} {xv : Value} {s₁ : Shared} {n B : Nat} {X : List Addr} {P : Nat → Value → Heap → Prop} {h₀ : Heap} {m : Str → Option Value}
    (ps : σ → List (Str × Value)) (Led : σ → List (Addr × Obj)) (J : Nat → σ → Nat → Prop) (c₀ : σ)
    (hsrc : FSrcT prog w A target xv s₁ B n X P) (F : Fr h₀ env.locals s₁.heap m) (N : News h₀ env.locals s₁.heap (Led c₀)) (hps : ∀ p ∈ ps c₀, m p.1 = some p.2) (hLB : env.locals < B) (hled : ∀ p ∈ Led c₀, p.1 < B) (hJ : J 0 c₀ s₁.toks) (hmono : ∀ i c t t', J i c t → t ≤ t' → J i c t')
    (step : ∀ i c v m₁ h tk own wr, i < n → P i v h → J i c tk → s₁.toks ≤ tk → Fr h₀ env.locals h (kstB m₁ (ps c)) → News h₀ env.locals h (own ++ Led c) → (∀ p ∈ Led c, p.1 ∉ wr) → (∀ p ∈ own, ∀ q ∈ Led c, p.1 = q.1 → p.2 = q.2) → ((∀ b ∈ wr, b < h.objs.size) ∧ (∀ p ∈ own, B ≤ p.1 ∨ p.1 ∈ X) ∧ ∀ b ∈ wr, ∃ o, (b, o) ∈ own) →
      wpAny (model prog w) A (assign target env v) (fun _ s₂ => wpAny (model prog w) A (execs body env) (FPost h₀ env.locals wr ps Led (J (i + 1)) own { s₁ with heap := h, toks := tk } Q) (fun _ _ => False) s₂) (fun _ _ => False) { s₁ with heap := h, toks := tk })
    (done : ∀ c m₁ h tk, J n c tk → s₁.toks ≤ tk → Fr h₀ env.locals h (kstB m₁ (ps c)) → News h₀ env.locals h (Led c) → wpAny (model prog w) A (execs orelse env) Q (fun _ _ => False) { s₁ with heap := h, toks := tk }) :
    Halt (ForGo prog w A env target body orelse Q xv s₁) :=
  ⟨⟨σ, n, P, h₀, m, ps, Led, J, c₀, B, X, hsrc, hLB, hled, F, N, hps, hJ, hmono, step, done⟩⟩
theorem for_rule {env : Env} {target iter : Expr} {body orelse : List Stmt} {pos : Pos} {Q : Flow → Shared → Prop} {E : Value → Shared → Prop} {s : Shared}
    (h : wpAny (model prog w) A (eval iter env) (fun xv s₁ => Halt (ForGo prog w A env target body orelse Q xv s₁)) E s)
    (hs : ∀ x, foldedSetIterable iter env x = pure x := by intro _; rfl) : wpAny (model prog w) A (exec (.For target iter body orelse pos) env) Q E s := by
  refine wpAny_For (wpAny_mono h (fun xv s₁ G => ?_) fun _ _ e => e) hs
  obtain ⟨σ, n, P, h₀, m, ps, Led, J, c₀, B, Xa, hsrc, hLB, hledB, F, N, hps, hJ, hmono, step, done⟩ := G.out
  refine hsrc _ _ fun I fp wr St h' hk W hst hwr hfp hfx => ?_
  have hLw : env.locals ∉ wr := fun q => Nat.lt_irrefl _ (Nat.lt_of_lt_of_le hLB (hwr _ q))
  have old : ∀ b o, h₀.get? b = some o → b ∉ wr := fun b o e q => Nat.lt_irrefl _ (Nat.lt_of_lt_of_le (Nat.lt_of_lt_of_le (Heap.lt_size e) F.above) (Nat.le_trans (Nat.le_of_lt hLB) (hwr _ q)))
  have frk : ∀ {h₁ : Heap} {m₁ : Str → Option Value} {c : σ}, (∀ p ∈ ps c, m₁ p.1 = some p.2) → Fr h₀ env.locals h₁ m₁ → Fr h₀ env.locals h₁ (kstB m₁ (ps c)) := fun {h₁ m₁ c} hp F₁ => by
    have e : kstB m₁ (ps c) = m₁ := funext fun y => kstB_eq hp fun _ => rfl
    rw [e]; exact F₁
  have hLf : env.locals ∉ fp := fun q => (hfp _ q).2 m (F.keeps hk).ns
  have hwsz : ∀ b ∈ wr, b < h'.objs.size := fun b hb => by
    have q := (hfp b (W.sub b hb)).1
    cases e : h'.get? b with
    | none => rw [e] at q; cases q
    | some o => exact Heap.lt_size e
  refine codeAny_forLoop_any (fun k s' => ∃ h₁ tk m₁ nw i c, s' = { s₁ with heap := h₁, toks := tk } ∧ i ≤ n ∧ k = n + 1 - i ∧ St i h₁ ∧ h'.objs.size ≤ h₁.objs.size ∧ Fr h₀ env.locals h₁ m₁ ∧ News h₀ env.locals h₁ nw ∧ (∀ p ∈ Led c, p ∈ nw ∧ p.1 ∉ wr) ∧ (∀ p ∈ ps c, m₁ p.1 = some p.2) ∧ s₁.toks ≤ tk ∧ J i c tk) ?_ (n + 1)
    ⟨h', s₁.toks, m, Led c₀, 0, c₀, rfl, Nat.zero_le _, rfl, hst, Nat.le_refl _, F.keeps hk, N.grown hk, fun p hp => ⟨hp, fun q => Nat.lt_irrefl _ (Nat.lt_of_lt_of_le (hledB p hp) (hwr _ q))⟩, hps, Nat.le_refl _, hJ⟩
  rintro k s' ⟨h₁, tk, m₁, nw, i, c, rfl, hi, rfl, hst₁, hsz₁, F₁, N₁, hl₁, hp₁, hT, hJ₁⟩
  have next : ∀ h₂ : Heap, (∀ b o, b ∉ wr → h₁.get? b = some o → h₂.get? b = some o) → Fr h₀ env.locals h₂ m₁ ∧ News h₀ env.locals h₂ (Led c) := fun h₂ hk₂ =>
    ⟨⟨F₁.ns.at' fun o e => hk₂ _ o hLw e, fun b o e => hk₂ b o (old b o e) (F₁.keep b o e), F₁.above⟩, fun p hp => ⟨hk₂ _ _ (hl₁ p hp).2 (N₁ p (hl₁ p hp).1).1, (N₁ p (hl₁ p hp).1).2⟩⟩
  by_cases hlt : i < n
  · refine wpAny_both (wpAny_mono (W.next i { s₁ with heap := h₁, toks := tk } (fun v s₂ => tk ≤ s₂.toks → h₁.objs.size ≤ s₂.heap.objs.size → wpAny (model prog w) A (assign target env v) (fun _ s₂ => wpAny (model prog w) A (execs body env) (fun f s₃ => match f with
            | .next | .cont => ∃ m, m < n + 1 - i ∧ (∃ h₁ tk m₁ nw i c, s₃ = { s₁ with heap := h₁, toks := tk } ∧ i ≤ n ∧ m = n + 1 - i ∧ St i h₁ ∧ h'.objs.size ≤ h₁.objs.size ∧ Fr h₀ env.locals h₁ m₁ ∧ News h₀ env.locals h₁ nw ∧ (∀ p ∈ Led c, p ∈ nw ∧ p.1 ∉ wr) ∧ (∀ p ∈ ps c, m₁ p.1 = some p.2) ∧ s₁.toks ≤ tk ∧ J i c tk)
            | .brk => Q .next s₃
            | .ret v => Q (.ret v) s₃) (fun _ _ => False) s₂) (fun _ _ => False) s₂) (fun _ _ => False) hlt hst₁ fun v h₂ tk₂ hP hs hk₂ hle hsz₂ => ?_) (fun r s₂ hr hle hsz₂ => ?_) (fun _ _ x => x.elim))
    · dsimp only at hle hsz₂ hs hk₂ ⊢
      obtain ⟨F₂, N₂⟩ := next h₂ hk₂
      have own2 : ∀ p ∈ PyProof.Rows.ownOf h₀ fp h₂, p.1 ∈ fp := ownOf_sub
      have Nown : News h₀ env.locals h₂ (PyProof.Rows.ownOf h₀ fp h₂) := news_ownOf hLf
      refine wpAny_both (wpAny_mono (step i c v m₁ h₂ tk₂ (PyProof.Rows.ownOf h₀ fp h₂) wr hlt hP (hmono _ _ _ _ hJ₁ hle) (by (first | lia | omega)) (frk hp₁ F₂) (Nown.append N₂) (fun p hp => (hl₁ p hp).2) (fun p hp q hq e => ?_) ⟨fun b hb => ?_, fun p hp => hfx _ (own2 p hp), fun b hb => ?_⟩) (fun _ s₃ h₃ hle₃ hsz₃ => wpAny_both (wpAny_mono h₃ (fun f s₄ h₄ hle₄ hsz₄ => ?_) fun _ _ x => x)) fun _ _ x => x)
      · have e1 := (Nown p hp).1
        have e2 := (N₂ q hq).1
        rw [e, e2] at e1
        exact (Option.some.inj e1).symm
      · exact Nat.lt_of_lt_of_le (hwsz b hb) (Nat.le_trans hsz₁ hsz₂)
      · have q := W.live _ _ hs b hb
        cases e : h₂.get? b with
        | none => rw [e] at q; cases q
        | some o =>
          refine ⟨o, mem_ownOf (W.sub b hb) ?_ e⟩
          cases e0 : h₀.get? b with
          | none => rfl
          | some o₀ => exact absurd hb (old b o₀ e0)
      · dsimp only at hle₃ hsz₃
        have fin : FEnd h₀ env.locals wr ps Led (J (i + 1)) (PyProof.Rows.ownOf h₀ fp h₂) { s₁ with heap := h₂, toks := tk₂ } s₄ → ∃ m, m < n + 1 - i ∧ (∃ h₁ tk m₁ nw i c, s₄ = { s₁ with heap := h₁, toks := tk } ∧ i ≤ n ∧ m = n + 1 - i ∧ St i h₁ ∧ h'.objs.size ≤ h₁.objs.size ∧ Fr h₀ env.locals h₁ m₁ ∧ News h₀ env.locals h₁ nw ∧ (∀ p ∈ Led c, p ∈ nw ∧ p.1 ∉ wr) ∧ (∀ p ∈ ps c, m₁ p.1 = some p.2) ∧ s₁.toks ≤ tk ∧ J i c tk) := by
          intro hE
          obtain ⟨c', h₅, m₅, nw₅, e, F₅, N₅, ho₅, hl₅, hp₅, hJ₅⟩ := hE (by dsimp only; (first | lia | omega))
          have hsz5 : h₂.objs.size ≤ h₅.objs.size := by
            have : s₄.heap = h₅ := by rw [e]
            rw [← this]; (first | lia | omega)
          refine ⟨n + 1 - (i + 1), by (first | lia | omega), h₅, s₄.toks, m₅, nw₅, i + 1, c', e, hlt, rfl, W.frame _ _ _ hs fun b hb o eo => ?_, by (first | lia | omega), F₅, N₅, hl₅, hp₅, by (first | lia | omega), hJ₅⟩
          cases hn : h₀.get? b with
          | some o₀ =>
            have : o₀ = o := by have q := F₂.keep b o₀ hn; rw [eo] at q; exact (Option.some.inj q).symm
            exact this ▸ F₅.keep b o₀ hn
          | none => exact (N₅ _ (ho₅ _ (mem_ownOf hb hn eo))).1
        cases f with
        | ret v => exact h₄
        | brk => exact h₄
        | next => exact fin h₄
        | cont => exact fin h₄
    · cases r with
      | none => exact hr.elim
      | some v =>
        dsimp only at hle hsz₂
        exact wpAny_both (wpAny_mono hr (fun _ s₃ hx hle₃ hsz₃ => wpAny_mono (hx (by (first | lia | omega)) (by (first | lia | omega))) (fun _ _ y => wpAny_mono y (fun _ _ z => z) fun _ _ z => z.elim) fun _ _ z => z.elim) fun _ _ x => x)
  · obtain rfl : i = n := by (first | lia | omega)
    refine wpAny_both (W.done _ _ _ hst₁ fun h₂ tk₂ hk₂ hle _ => ?_)
    dsimp only at hle ⊢
    obtain ⟨F₂, N₂⟩ := next h₂ hk₂
    exact wpAny_mono (done c m₁ h₂ tk₂ (hmono _ _ _ _ hJ₁ hle) (by (first | lia | omega)) (frk hp₁ F₂) N₂) (fun _ _ x => x) fun _ _ x => x.elim
end
end
section
theorem binds_kw {K : Frag} {s : Shared} {fd : FuncData} {args : Args} {binds : List (Str × Value)} {T D : Addr} {o : Obj} {items : Array Value} {n : Nat} {nm : Str} {r : Option Value} {es : Array DictEntry} {e : Nat} {dd : Option Addr} {sl : Array (Option Value)}
    {k : Option (Array Value) → Sem (List (Str × Value))} {α β : Type} {k1 : Option Value → Sem α} {k2 : α → Sem β} {k3 : β → Sem (List (Str × Value))}
    (X : K.In s.heap) (hd : fd.defaults = .ref T) (ho : K.lookup T = some o) (hs : o.data = .seq items n)
    (h₁ : bindArgs fd args = seqItems? fd.defaults >>= k)
    (hD : K.lookup D = some ⟨.type "dict", dd, .dict es e, sl⟩) (hes : ∀ x ∈ es, ∃ n t, x.key = .str n t) (hr : nsFind es nm = r)
    (h₂ : k (some items) = ((nsGet D nm >>= k1) >>= k2) >>= k3) (h₃ : (k1 r >>= k2) >>= k3 = pure binds) : BindsTo s fd args binds :=
  fun _ _ _ _ hq => by
    rw [h₁, hd]
    refine wpAny_bind (wpAny_seqItems (X _ _ ho) hs ?_)
    rw [h₂]
    have e1 : ((nsGet D nm >>= k1) >>= k2) >>= k3 = nsGet D nm >>= fun r => (k1 r >>= k2) >>= k3 := by
      rw [bind_assoc, bind_assoc]
      simp only [bind_assoc]
    rw [e1]
    refine wpAny_bind (wpAny_nsGet (m := nsFind es) ⟨_, es, e, X _ _ hD, rfl, ?_, fun _ => rfl⟩ ?_)
    · exact fun x hx => hes x hx
    · rw [hr, h₃]
      exact wpAny_pure hq

/-- a call of f that changes nothing that stands: whatever the caller, it gives a value of which Post holds -/
theorem let_fold3 {α β γ : Type} {P : α → β → γ → Prop} (a : α) (b : β) (c : γ) (h : let a' := a; let b' := b; let c' := c; P a' b' c') : P a b c := h
def PSpec (K : Params → Frag) (k : Nat) (f : Addr) (pos : List Value) (kw : List (Str × Value)) (Pre : Heap → Nat → Prop) (Post : Value → Heap → Nat → Nat → Prop) : Prop :=
  ∀ (prog : Program) (w : World) (p : Program) (loose : List Str) (mean : ExcName → Option Value) (mg mb : Str → Option Value)
    (dp un : Nat) (gd : Option (List Code)) (cn : Str) (cs : Scope) (a : Addr) (ccd : Value) (cl : List (Str × Addr)) (outer : List Env) (A₀ : Around) (base h₀ : Heap) (L : Addr) (m : Str → Option Value) (s : Shared) (Q E : Value → Shared → Prop),
    Below A₀ base outer h₀ → Fr h₀ L s.heap m → (K w.params).In h₀ → Top p loose mean mg mb h₀ → cs.kind = .function →
    dp + k < recursionLimit → un + 30 * k < cLine → Pre s.heap s.toks →
    (∀ v h' tk', Kp s.heap h' → s.toks ≤ tk' → s.heap.objs.size ≤ h'.objs.size → Post v h' s.toks tk' → Q v { s with heap := h', toks := tk' }) →
    wpAny (model prog w) (ktrTop dp un gd cn cs L a ccd cl outer) (call (.ref f) pos kw) Q E s
def PLeave (g : Heap) (Q : Value → Shared → Prop) (v : Value) (s' : Shared) : Prop := ∃ L' m', Fr g L' s'.heap m' ∧ (Kp g s'.heap → Q v s')
theorem PLeave.intro {g : Heap} {Q : Value → Shared → Prop} {v : Value} {s' : Shared} {L' : Addr} {m' : Str → Option Value} (F : Fr g L' s'.heap m') (h : Kp g s'.heap → Q v s') : PLeave g Q v s' := ⟨L', m', F, h⟩

section
variable {prog : Program} {w : World} {A A₀ : Around} {s : Shared} {K : Frag} {L : Addr} {h₀ base : Heap} {m mg mb : Str → Option Value} {news : List (Addr × Obj)} {p : Program} {loose : List Str} {mean : ExcName → Option Value}
theorem PSpec.use {K : Params → Frag} {k : Nat} {f : Addr} {pos : List Value} {kw : List (Str × Value)} {Pre : Heap → Nat → Prop} {Post : Value → Heap → Nat → Nat → Prop} {dp un : Nat} {gd : Option (List Code)} {cn : Str} {cs : Scope} {a : Addr} {ccd : Value} {cl : List (Str × Addr)} {outer : List Env}
    {Q E : Value → Shared → Prop} (H : PSpec K k f pos kw Pre Post) (B : Below A₀ base outer h₀) (F : Fr h₀ L s.heap m) (X : (K w.params).In h₀) (N : News h₀ L s.heap news) (T : Top p loose mean mg mb h₀) (hk : cs.kind = .function)
    (hd : dp + k < recursionLimit) (hu : un + 30 * k < cLine) (hpre : Pre s.heap s.toks)
    (h : ∀ v h' tk', Fr h₀ L h' m → News h₀ L h' news → Kp s.heap h' → s.toks ≤ tk' → s.heap.objs.size ≤ h'.objs.size → Post v h' s.toks tk' → Q v { s with heap := h', toks := tk' }) :
    wpAny (model prog w) (ktrTop dp un gd cn cs L a ccd cl outer) (call (.ref f) pos kw) Q E s :=
  H _ _ _ _ _ _ _ _ _ _ _ _ _ _ _ _ _ _ _ _ _ _ _ _ B F X T hk hd hu hpre fun v h' tk' hk' ht hz hp => h v h' tk' (F.keeps hk') (N.grown hk') hk' ht hz hp

/-- entering a def of the text's without cells of its own; nothing is raised out of it, nothing that stands is changed -/
theorem enterP {env : Env} {outer : List Env} {Q E : Value → Shared → Prop} {name qual : Str} {params : Arguments} {body : List Stmt} {scope : Scope} {dV kV doc pm cdv ct oc : Value} {an od : Option Addr} {osl : Array (Option Value)} {f : Addr} {pos : List Value} {kw : List (Str × Value)} {binds : List (Str × Value)}
    (B : Below A₀ base outer h₀) (F : Fr h₀ L s.heap m) (X₀ : K.In h₀) (T : Top p loose mean mg mb h₀) (hA : A.frames = some (env :: outer)) (hf : env.frame = some L) (hke : env.scope.kind = .function)
    (ho : K.lookup f = some ⟨oc, od, .func (fnOf name qual params body scope dV kV doc pm an cdv ct), osl⟩) (hcd : codeIn K cdv qual = true) (hroom : A.depth < recursionLimit)
    (hbind : BindsTo s (fnOf name qual params body scope dV kV doc pm an cdv ct) ⟨pos, kw⟩ binds) (hloc : ∀ y ∈ binds, scope.names.lookup y.1 = some .local)
    (h : ∀ g L' h₁ tk, g = s.heap → s.toks ≤ tk → Fr g L' h₁ (fun y => binds.reverse.lookup y) → News g L' h₁ [] → Below A base (env :: outer) g → K.In g → Top p loose mean mg mb g →
      wpAny (model prog w) (A.deeper (envOf qual scope L' f cdv)) (execs body (envOf qual scope L' f cdv))
        (fun fl s' => PLeave g Q (match fl with | .ret v => v | _ => .none) s') (fun _ _ => False) { s with heap := h₁, toks := tk })
    (hco : scope.isCoroutine = false) (hgen : scope.isGenerator = false) (hk : scope.kind = .function)
    (hcell : ∀ x ∈ scope.names, x.2 ≠ .cell) : wpAny (model prog w) A (call (.ref f) pos kw) Q E s := by
  refine wpAny_call ?_
  obtain ⟨FG, BG, st, lv⟩ := groundX (R := fun r s' => match r with | .ok (.ret v) => Q v s' | .ok _ => False | .error e => E e s') B F (News.nil (h₀ := h₀) (L := L) (h := s.heap)) hA hf hke
  refine codeAny_call_def (fd := fnX name qual params body scope [] dV kV doc pm an cdv ct) (body := body) (binds := binds) hroom ((X₀.keeps F.keep) _ _ ho) rfl (T.nolimit.keeps F.keep) (codeRec_of (X₀.keeps F.keep) hcd) rfl hbind hcell hloc (fun h₁ hns hk₁ => ?_) hco hgen hk
  refine wpAny_mono (h s.heap s.heap.objs.size h₁ _ rfl (Nat.le_add_right _ _) ⟨hns, hk₁, Nat.le_refl _⟩ News.nil BG (X₀.keeps F.keep) (T.keeps F.keep)) (fun fl s' hl => ?_) fun _ _ x => x.elim
  obtain ⟨L', m', F', hq⟩ := hl
  exact hq F'.keep
/-- the same for a def with cells -/
theorem enterPC {env : Env} {outer : List Env} {Q E : Value → Shared → Prop} {name qual : Str} {params : Arguments} {body : List Stmt} {scope : Scope} {dV kV doc pm cdv ct oc : Value} {an od : Option Addr} {osl : Array (Option Value)} {f : Addr} {pos : List Value} {kw : List (Str × Value)} {binds : List (Str × Value)}
    (B : Below A₀ base outer h₀) (F : Fr h₀ L s.heap m) (X₀ : K.In h₀) (T : Top p loose mean mg mb h₀) (hA : A.frames = some (env :: outer)) (hf : env.frame = some L) (hke : env.scope.kind = .function)
    (ho : K.lookup f = some ⟨oc, od, .func (fnOf name qual params body scope dV kV doc pm an cdv ct), osl⟩) (hcd : codeIn K cdv qual = true) (hroom : A.depth < recursionLimit)
    (hbind : BindsTo s (fnOf name qual params body scope dV kV doc pm an cdv ct) ⟨pos, kw⟩ binds)
    (hkind : (binds.all fun y => scope.names.lookup y.1 == some .local || scope.names.lookup y.1 == some .cell) = true) (hnd : ((cellsFrom 0 scope.names []).map (·.1)).Nodup)
    (h : ∀ g L' h₁ tk cells, g = s.heap → s.toks ≤ tk → Fr g L' h₁ (bindL (envOfC qual scope L' f cdv).kindOf binds fun _ => none) → News g L' h₁ cells → CellsAre (bindC (envOfC qual scope L' f cdv).kindOf binds fun _ => none) (cellsFrom (L' + 1) scope.names []) cells →
      Below A base (env :: outer) g → K.In g → Top p loose mean mg mb g →
      wpAny (model prog w) (A.deeper (envOfC qual scope L' f cdv)) (execs body (envOfC qual scope L' f cdv))
        (fun fl s' => PLeave g Q (match fl with | .ret v => v | _ => .none) s') (fun _ _ => False) { s with heap := h₁, toks := tk })
    (hco : scope.isCoroutine = false) (hgen : scope.isGenerator = false) (hk : scope.kind = .function) : wpAny (model prog w) A (call (.ref f) pos kw) Q E s := by
  refine wpAny_call ?_
  obtain ⟨FG, BG, st, lv⟩ := groundX (R := fun r s' => match r with | .ok (.ret v) => Q v s' | .ok _ => False | .error e => E e s') B F (News.nil (h₀ := h₀) (L := L) (h := s.heap)) hA hf hke
  refine codeAny_call_function hroom ((X₀.keeps F.keep) _ _ ho) rfl hco hgen rfl (codeRec_of (X₀.keeps F.keep) hcd) (hbind _ _ _ _ ?_)
  refine wpAny_toks (wpAny_newFunctionEnv_cells hk (kindsX hkind _) fun env' he s' x htk => ?_)
  subst he
  refine ⟨(T.nolimit.keeps F.keep).keeps x.toInCall.keep, codeAny_func ?_⟩
  obtain ⟨h₁, tk, rfl, _⟩ := x.done
  have hk₁ := x.toInCall.keep
  obtain ⟨cells, NC, Y⟩ := Cl.news (h₀ := s.heap) (Nat.le_refl _) fun n c hm => ⟨x.cell n c (lookup_of_mem_nodup (cellsFrom_names scope.names 0 (s.heap.objs.size + 1) [] [] rfl ▸ hnd) hm), x.above n c hm⟩
  refine wpAny_mono (h s.heap s.heap.objs.size h₁ tk cells rfl htk ⟨x.toInCall.ns, hk₁, Nat.le_refl _⟩ NC Y BG (X₀.keeps F.keep) (T.keeps F.keep)) (fun fl s' hl => ?_) fun _ _ y => y.elim
  obtain ⟨L', m', F', hq⟩ := hl
  exact hq F'.keep
end
section
variable {α : Type} {M : Model} {A : Around} {E : Value → Shared → Prop} {Q : α → Shared → Prop} {t : Sem α}
theorem tok_gen {a : Heap} {b : Array GenState} {c : Drawn} {d : OsState} {X Y : Nat} (h : ∀ tk, X + Y ≤ tk → wpAny M A t Q E { heap := a, gens := b, drawn := c, toks := tk, os := d }) : wpAny M A t Q E { heap := a, gens := b, drawn := c, toks := X + Y, os := d } := h _ (Nat.le_refl _)
end
def IntIn (r : Int) (v : Value) (lo hi : Nat) : Prop := ∃ t : Nat, v = .int r t ∧ lo ≤ t ∧ t < hi

section
variable {prog : Program} {w : World} {A : Around} {E : Value → Shared → Prop} {s : Shared} {h₀ : Heap} {L l : Addr} {news : List (Addr × Obj)} {vs : List Value} {ns : List Int} {nn : Nat}
theorem isList_of {hp : Heap} (N : News h₀ L hp news) (hm : (l, listOf vs.toArray nn) ∈ news) : hp.IsList l vs.toArray := ⟨_, (N _ hm).1, rfl, nn, rfl⟩
theorem ints_get (hi : IntsAre vs ns) {k : Nat} (hk : k < ns.length) : ∃ t, vs[k]? = some (.int ns[k] t) := hi.get k ns[k] (by simp [hk])
/-- xs[k] of a list of ints, k in bounds -/
theorem item_ints {value slice : PySem.Expr} {k : Int} {u : Tok} {Q : Value → Shared → Prop} (hL : s.heap.IsList l vs.toArray) (hi : IntsAre vs ns)
    (h0 : 0 ≤ k) (hk : k < (ns.length : Int)) (hl : ns.length < 2 ^ 62)
    (h : ∀ t, Q (.int (ns.getD k.toNat 0) t) s)
    (hs : subscripted slice false (.ref l) (.int k u) = operate [.ref l, .int k u] (getItem (.ref l) (.int k u)) := by with_unfolding_all rfl) :
    wpAny (model prog w) A (subscriptTail value slice (.ref l) (.int k u)) Q E s := by
  obtain ⟨t, ht⟩ := ints_get hi (k := k.toNat) (by (first | lia | (first | (law_clear; lia) | lia | omega)))
  have e : ns.getD k.toNat 0 = ns[k.toNat]'(by (first | lia | (first | (law_clear; lia) | lia | omega))) := by simp [List.getD, show k.toNat < ns.length by (first | lia | (first | (law_clear; lia) | lia | omega))]
  refine tail_any hL.typeIs slot_list_getitem.lookup (wpAny_getItem_list hL h0 (by (first | lia | (first | (law_clear; lia) | lia | omega))) (by simpa using ht) ?_) hs
  rw [← e]
  exact h t
theorem len_of {Q : Value → Shared → Prop} {k : Nat} (hL : s.heap.IsList l vs.toArray) (e : vs.length = k) (hfit : k < 2 ^ 62) (h : Q (.int (k : Int) (s.toks + 1)) { s with toks := s.toks + 1 + 1 }) : wpAny (model prog w) A (call (.builtin "len") [.ref l]) Q E s := by
  have e2 : vs.toArray.size = k := by rw [List.size_toArray, e]
  exact len_list hL (by rw [e2]; (first | lia | (first | (law_clear; lia) | lia | omega))) (by rw [e2]; exact h)
end
end
section
section
variable {M : Model} {A : Around} {E : Value → Shared → Prop} {s : Shared}
theorem isCreated {c : Bool} {t u : Tok} {Q : Bool → Shared → Prop} (ht : t ≠ 0) (hu : u ≠ 0) (htu : t ≠ u) (hb : NoneBooked s.heap) (h : ∀ b, (b = true → c = true) → Q b s) : wpAny M A (isSame.created c t u) Q E s := by
  unfold isSame.created
  have e0 : (t == 0 || u == 0) = false := by simp [ht, hu]
  have e1 : (t == u) = false := by simpa using htu
  rw [e0, e1]
  simp only [Bool.false_eq_true, if_false]
  cases c with
  | false => simp only [Bool.not_false, if_true]; exact wpAny_pure (h false (by simp))
  | true =>
    simp only [Bool.not_true, Bool.false_eq_true, if_false]
    refine wpAny_bind (wpAny_sharingNotTold_none hb ?_)
    simp only [Bool.false_eq_true, if_false]
    refine wpAny_bind (wpAny_sharingNotTold_none hb ?_)
    simp only [Bool.false_eq_true, if_false]
    exact wpAny_bind (wpAny_rule (wpAny_bind (wpAny_askSetting (wpAny_pure (h _ (fun _ => rfl))))))
theorem is_int {p q : Int} {t u : Tok} {Q : Value → Shared → Prop} (ht : t ≠ 0) (hu : u ≠ 0) (htu : t ≠ u) (hb : NoneBooked s.heap) (h : ∀ b, (b = true → p = q) → Q (.bool b) s) : wpAny M A (compareOp .Is (.int p t) (.int q u)) Q E s := by
  show wpAny M A (do return .bool (← isSame (.int p t) (.int q u))) Q E s
  refine wpAny_bind ?_
  show wpAny M A (if (p == q && smallInt p) = true then isSame.cachedInt t u else isSame.created (p == q) t u) _ E s
  cases e : (p == q && smallInt p) with
  | true =>
    simp only [if_true]
    unfold isSame.cachedInt
    have e0 : (t == 0 || u == 0) = false := by simp [ht, hu]
    rw [e0]
    simp only [Bool.false_eq_true, if_false]
    have hp : p = q := by simp at e; exact e.1
    exact wpAny_bind (wpAny_rule (wpAny_pure (wpAny_pure (h true fun _ => hp))))
  | false =>
    simp only [Bool.false_eq_true, if_false]
    exact isCreated ht hu htu hb fun b hb' => wpAny_pure (h b fun e' => by simpa using hb' e')
theorem is_str {p q : Str} {t u : Tok} {Q : Value → Shared → Prop} (ht : t ≠ 0) (hu : u ≠ 0) (htu : t ≠ u) (hb : NoneBooked s.heap) (h : ∀ b, (b = true → p = q) → Q (.bool b) s) : wpAny M A (compareOp .Is (.str p t) (.str q u)) Q E s := by
  show wpAny M A (do return .bool (← isSame (.str p t) (.str q u))) Q E s
  refine wpAny_bind ?_
  show wpAny M A (isSame.created (p == q) t u) _ E s
  exact isCreated ht hu htu hb fun b hb' => wpAny_pure (h b fun e' => by simpa using hb' e')
end
theorem booked_of {K : Frag} {h : Heap} {o : Option Addr} {c : Value} {sl : Array (Option Value)} {k : Nat} (X : K.In h) (e : K.lookup cStatics = some ⟨c, o, .dict #[] k, sl⟩) : NoneBooked h :=
  ⟨fun _ => none, ⟨_, #[], k, X _ _ e, rfl, by intro e he; simp at he, fun _ => rfl⟩, rfl⟩
end
section
/-- ints with tokens that are no u and not nought -/
def ApartI (vs : List Value) (ns : List Int) (u : Nat) : Prop := vs.length = ns.length ∧ ∀ i v, vs[i]? = some v → ∃ t : Nat, v = Value.int (ns.getD i 0) t ∧ t ≠ 0 ∧ t ≠ u
/-- texts with tokens that are no u and not nought -/
def ApartS (vs : List Value) (ss : List Str) (u : Nat) : Prop := vs.length = ss.length ∧ ∀ i v, vs[i]? = some v → ∃ t : Nat, v = Value.str (ss.getD i Str.empty) t ∧ t ≠ 0 ∧ t ≠ u
theorem count_take {α : Type} [DecidableEq α] {ns : List α} {x d : α} {i : Nat} (hi : i < ns.length) : ((ns.take (i + 1)).count x : Int) = ((ns.take i).count x : Int) + if ns.getD i d = x then 1 else 0 := by
  rw [List.take_add_one, List.getElem?_eq_getElem hi]
  have e : ns.getD i d = ns[i] := by simp [List.getD, hi]
  rw [e]
  simp only [Option.toList_some, List.count_append, List.count_singleton, beq_iff_eq]
  split <;> simp
theorem idxOf_at {α : Type} [BEq α] [LawfulBEq α] {d : α} {ss : List α} {x : α} {i : Nat} (hJ : ∀ j, j < i → ss.getD j d ≠ x) (he : ss.getD i d = x) (hi : i < ss.length) : ss.idxOf x = i := by
  induction ss generalizing i with
  | nil => simp at hi
  | cons y ys ih =>
    cases i with
    | zero => simp at he; subst he; simp
    | succ k =>
      have h0 := hJ 0 (by (first | lia | omega))
      simp at h0 he
      rw [List.idxOf_cons]
      have : (y == x) = false := by simpa using h0
      rw [this]
      simp only [Bool.false_eq_true, cond_false, if_false]
      congr 1
      exact ih (fun j hj => by have := hJ (j+1) (by (first | lia | omega)); simpa using this) (by simpa using he) (by simpa using hi)
end
section
def Cut (p : Nat → Bool) (n r : Nat) : Prop := r ≤ n ∧ (∀ i, i < r → p i = true) ∧ ∀ i, r ≤ i → i < n → p i = false
def Down (p : Nat → Bool) (n : Nat) : Prop := ∀ i j, i ≤ j → j < n → p j = true → p i = true
def BisP (p : Nat → Bool) (n : Nat) (c : Int × Tok × Int × Tok) : Prop :=
  0 ≤ c.1 ∧ c.1 ≤ c.2.2.1 ∧ c.2.2.1 ≤ (n : Int) ∧ (∀ i : Nat, (i : Int) < c.1 → p i = true) ∧ ∀ i : Nat, c.2.2.1 ≤ (i : Int) → i < n → p i = false
section
variable {p : Nat → Bool} {n : Nat} {lo hi : Int} {t t' : Tok} (p1 : 0 ≤ lo) (p2 : lo ≤ hi) (p3 : hi ≤ (n : Int)) (p4 : ∀ i : Nat, (i : Int) < lo → p i = true) (p5 : ∀ i : Nat, hi ≤ (i : Int) → i < n → p i = false)
include p1 p2 p3 p4 p5
theorem bis_up (hs : Down p n) (h : lo < hi) (hb : p ((lo + hi).fdiv 2).toNat = true) : BisP p n ((lo + hi).fdiv 2 + 1, t, hi, t') := by
  have fd := Int.fdiv_eq_ediv_of_nonneg (lo + hi) (show (0 : Int) ≤ 2 by decide)
  refine ⟨by dsimp only; (first | lia | omega), by dsimp only; (first | lia | omega), p3, fun i hi' => ?_, p5⟩
  dsimp only at hi'
  exact hs i _ (by (first | lia | omega)) (by (first | lia | omega)) hb
theorem bis_dn (hs : Down p n) (h : lo < hi) (hb : p ((lo + hi).fdiv 2).toNat = false) : BisP p n (lo, t, (lo + hi).fdiv 2, t') := by
  have fd := Int.fdiv_eq_ediv_of_nonneg (lo + hi) (show (0 : Int) ≤ 2 by decide)
  refine ⟨p1, by dsimp only; (first | lia | omega), by dsimp only; (first | lia | omega), p4, fun i hi' hl => ?_⟩
  dsimp only at hi'
  cases e : p i with
  | false => rfl
  | true => rw [hs _ i (by (first | lia | omega)) hl e] at hb; cases hb
theorem bis_cut (h : ¬ lo < hi) : ∃ r : Nat, lo = (r : Int) ∧ Cut p n r :=
  ⟨lo.toNat, by (first | lia | omega), by (first | lia | omega), fun i h => p4 i (by (first | lia | omega)), fun i h1 h2 => p5 i (by (first | lia | omega)) h2⟩
end
theorem getD_mem {ns : List Int} {i : Nat} (h : i < ns.length) : ns.getD i 0 ∈ ns := by simp [List.getD, h]
theorem bis_zero {p : Nat → Bool} {n : Nat} {t t' : Tok} : BisP p n (0, t, (n : Int), t') := ⟨by simp, by simp, by simp, fun i h => absurd h (by simp), fun i h1 h2 => absurd h1 (by simp; (first | lia | omega))⟩
theorem Down.ints {ns : List Int} (hs : ns.Pairwise (· ≤ ·)) (q : Int → Bool) (hq : ∀ a b, a ≤ b → q b = true → q a = true) : Down (fun i => q (ns.getD i 0)) ns.length := by
  intro i j hij hj
  refine hq _ _ ?_
  by_cases e : i = j
  · subst e; exact Int.le_refl _
  · have := List.pairwise_iff_getElem.mp hs i j (by (first | lia | omega)) hj (by (first | lia | omega))
    simpa [List.getD, show i < ns.length by (first | lia | omega), hj] using this
theorem cut_unique {p : Nat → Bool} {n r r' : Nat} (h : Cut p n r) (h' : Cut p n r') : r = r' := by
  rcases Nat.lt_trichotomy r r' with l | e | l
  · have a := h'.2.1 r l; rw [h.2.2 r (Nat.le_refl _) (Nat.lt_of_lt_of_le l h'.1)] at a; cases a
  · exact e
  · have a := h.2.1 r' l; rw [h'.2.2 r' (Nat.le_refl _) (Nat.lt_of_lt_of_le l h.1)] at a; cases a
theorem cut_count {ns : List Int} {q : Int → Bool} {r : Nat} (h : Cut (fun i => q (ns.getD i 0)) ns.length r) : ns.countP q = r := by
  obtain ⟨hr, h1, h2⟩ := h
  have e := List.take_append_drop r ns
  have a1 : (ns.take r).countP q = (ns.take r).length := by
    rw [List.countP_eq_length]
    intro y hy
    obtain ⟨i, hi, rfl⟩ := List.getElem_of_mem hy
    have hi' : i < r := by rw [List.length_take] at hi; (first | lia | omega)
    have := h1 i hi'
    rw [List.getElem_take]
    simpa [List.getD, show i < ns.length by (first | lia | omega)] using this
  have a2 : (ns.drop r).countP q = 0 := by
    rw [List.countP_eq_zero]
    intro y hy
    obtain ⟨i, hi, rfl⟩ := List.getElem_of_mem hy
    rw [List.length_drop] at hi
    have := h2 (r + i) (by (first | lia | omega)) (by (first | lia | omega))
    rw [List.getElem_drop]
    simpa [List.getD, show r + i < ns.length by (first | lia | omega)] using this
  rw [← e, List.countP_append, a1, a2, List.length_take]
  (first | lia | omega)
/-- a function that stands at kf, gives f c for c in 0..4 and changes nothing -/
structure KeyInt (kf : Addr) (k : Nat) (f : Int → Int) (S : Addr → Prop) (P : Heap → Prop) : Prop where
  mono : ∀ h h', (∀ b, S b → ∀ o, h.get? b = some o → h'.get? b = some o) → P h → P h'
  fn : ∀ h, P h → FnAt kf h
  spec : ∀ (c : Int) (t : Tok), 0 ≤ c → c < 5 → PSpec hd54.heap_1 k kf [.int c t] [] (fun h _ => P h) (fun v _ _ _ => ∃ t', v = .int (f c) t')
theorem KeyInt.kp {kf : Addr} {k : Nat} {f : Int → Int} {S : Addr → Prop} {P : Heap → Prop} (hK : KeyInt kf k f S P) {h h' : Heap} (kp : ∀ b o, h.get? b = some o → h'.get? b = some o) (x : P h) : P h' := hK.mono _ _ (fun b _ o e => kp b o e) x
section
variable {prog : Program} {w : World} {A A₀ : Around} {s : Shared} {K : Frag} {L : Addr} {h₀ base : Heap} {m mg mb : Str → Option Value} {news : List (Addr × Obj)} {p : Program} {loose : List Str} {mean : ExcName → Option Value}
theorem PSpec.useA {K : Params → Frag} {k : Nat} {f : Addr} {pos : List Value} {kw : List (Str × Value)} {Pre : Heap → Nat → Prop} {Post : Value → Heap → Nat → Nat → Prop} {dp un : Nat} {gd : Option (List Code)} {cn : Str} {cs : Scope} {a : Addr} {ccd : Value} {cl : List (Str × Addr)} {outer : List Env}
    {Q E : Value → Shared → Prop} {hp : Heap} {gs : Array GenState} {dr : Drawn} {tk : Nat} {os : OsState} (H : PSpec K k f pos kw Pre Post) (B : Below A₀ base outer h₀) (F : Fr h₀ L hp m) (N : News h₀ L hp news) (X : (K w.params).In h₀) (T : Top p loose mean mg mb h₀) (hA : A = ktrTop dp un gd cn cs L a ccd cl outer) (hk : cs.kind = .function)
    (hd : dp + k < recursionLimit) (hu : un + 30 * k < cLine) (hpre : Pre hp tk)
    (h : ∀ v h' tk', Fr h₀ L h' m → News h₀ L h' news → Kp hp h' → tk ≤ tk' → hp.objs.size ≤ h'.objs.size → Post v h' tk tk' → Q v ⟨h', gs, dr, tk', os⟩) :
    wpAny (model prog w) A (call (.ref f) pos kw) Q E ⟨hp, gs, dr, tk, os⟩ := by
  subst hA
  exact H _ _ _ _ _ _ _ _ _ _ _ _ _ _ _ _ _ _ _ _ _ _ _ _ B F X T hk hd hu hpre fun v h' tk' hk' ht hz hp => h v h' tk' (F.keeps hk') (N.grown hk') hk' ht hz hp
theorem binds_df {K : Frag} {s : Shared} {fd : FuncData} {args : Args} {binds : List (Str × Value)} {T : Addr} {o : Obj} {items : Array Value} {n : Nat} {k : Option (Array Value) → Sem (List (Str × Value))}
    (X : K.In s.heap) (hd : fd.defaults = .ref T) (ho : K.lookup T = some o) (hs : o.data = .seq items n) (h₁ : bindArgs fd args = seqItems? fd.defaults >>= k) (h₂ : k (some items) = pure binds) : BindsTo s fd args binds :=
  BindsTo.of_defaults hd (X _ _ ho) hs h₁ h₂
end
end
section
def KpX (ws : List (Addr × Obj)) (h h' : Heap) : Prop := ∀ b o, b ∉ ws.map (·.1) → h.get? b = some o → h'.get? b = some o
/-- a call of f that changes no more than what stands at ws -/
def ESpec (K : Params → Frag) (k : Nat) (f : Addr) (pos : List Value) (kw : List (Str × Value)) (ws : List (Addr × Obj)) (Pre : Heap → Nat → Prop) (Post : Value → Heap → Nat → Nat → Prop) : Prop :=
  ∀ (prog : Program) (w : World) (p : Program) (loose : List Str) (mean : ExcName → Option Value) (mg mb : Str → Option Value)
    (dp un : Nat) (gd : Option (List Code)) (cn : Str) (cs : Scope) (a : Addr) (ccd : Value) (cl : List (Str × Addr)) (outer : List Env) (A₀ : Around) (base h₀ : Heap) (L : Addr) (m : Str → Option Value) (s : Shared) (Q E : Value → Shared → Prop),
    Below A₀ base outer h₀ → Fr h₀ L s.heap m → News h₀ L s.heap ws → (K w.params).In h₀ → Top p loose mean mg mb h₀ → cs.kind = .function →
    dp + k < recursionLimit → un + 30 * k < cLine → Pre s.heap s.toks →
    (∀ v h' tk', KpX ws s.heap h' → s.toks ≤ tk' → s.heap.objs.size ≤ h'.objs.size → Post v h' s.toks tk' → Q v { s with heap := h', toks := tk' }) →
    wpAny (model prog w) (ktrTop dp un gd cn cs L a ccd cl outer) (call (.ref f) pos kw) Q E s
section
variable {prog : Program} {w : World} {A A₀ : Around} {s : Shared} {K : Frag} {L : Addr} {h₀ base : Heap} {m mg mb : Str → Option Value} {news : List (Addr × Obj)} {p : Program} {loose : List Str} {mean : ExcName → Option Value}
theorem ESpec.useA {K : Params → Frag} {k : Nat} {f : Addr} {pos : List Value} {kw : List (Str × Value)} {ws : List (Addr × Obj)} {Pre : Heap → Nat → Prop} {Post : Value → Heap → Nat → Nat → Prop} {dp un : Nat} {gd : Option (List Code)} {cn : Str} {cs : Scope} {a : Addr} {ccd : Value} {cl : List (Str × Addr)} {outer : List Env}
    {Q E : Value → Shared → Prop} {hp : Heap} {gs : Array GenState} {dr : Drawn} {tk : Nat} {os : OsState} (H : ESpec K k f pos kw ws Pre Post) (B : Below A₀ base outer h₀) (F : Fr h₀ L hp m) (N : News h₀ L hp news) (hws : ∀ q ∈ ws, q ∈ news) (X : (K w.params).In h₀) (T : Top p loose mean mg mb h₀) (hA : A = ktrTop dp un gd cn cs L a ccd cl outer) (hk : cs.kind = .function)
    (hd : dp + k < recursionLimit) (hu : un + 30 * k < cLine) (hpre : Pre hp tk)
    (h : ∀ v h' tk', Fr h₀ L h' m → (∀ news', (∀ q ∈ news', (q ∈ news ∧ q.1 ∉ ws.map (·.1)) ∨ (q.1 ∈ ws.map (·.1) ∧ h'.get? q.1 = some q.2)) → News h₀ L h' news') → KpX ws hp h' → tk ≤ tk' → hp.objs.size ≤ h'.objs.size → Post v h' tk tk' → Q v ⟨h', gs, dr, tk', os⟩) :
    wpAny (model prog w) A (call (.ref f) pos kw) Q E ⟨hp, gs, dr, tk, os⟩ := by
  subst hA
  have Nw : News h₀ L hp ws := fun q hq => N q (hws q hq)
  have nm : ∀ b o, h₀.get? b = some o → b ∉ ws.map (·.1) := fun b o e q => by
    obtain ⟨p, hp, rfl⟩ := List.mem_map.mp q
    rw [(Nw p hp).2.2] at e; cases e
  have nL : L ∉ ws.map (·.1) := fun q => by
    obtain ⟨p, hp, e⟩ := List.mem_map.mp q
    exact (Nw p hp).2.1 e
  refine H _ _ _ _ _ _ _ _ _ _ _ _ _ _ _ _ _ _ _ _ _ _ _ _ B F Nw X T hk hd hu hpre fun v h' tk' hk' ht hz hp => h v h' tk' ⟨F.ns.at' fun o e => hk' _ o nL e, fun b o e => hk' b o (nm b o e) (F.keep b o e), F.above⟩ (fun news' hn q hq => ?_) hk' ht hz hp
  rcases hn q hq with ⟨h1, h2⟩ | ⟨h1, h2⟩
  · exact ⟨hk' _ _ h2 (N q h1).1, (N q h1).2⟩
  · obtain ⟨p, hp, e⟩ := List.mem_map.mp h1
    exact ⟨h2, e ▸ (Nw p hp).2⟩
/-- entering a def without cells that changes no more than ws -/
theorem enterE {env : Env} {outer : List Env} {Q E : Value → Shared → Prop} {name qual : Str} {params : Arguments} {body : List Stmt} {scope : Scope} {dV kV doc pm cdv ct oc : Value} {an od : Option Addr} {osl : Array (Option Value)} {f : Addr} {pos : List Value} {kw : List (Str × Value)} {binds : List (Str × Value)}
    (B : Below A₀ base outer h₀) (F : Fr h₀ L s.heap m) (X₀ : K.In h₀) (N : News h₀ L s.heap news) (T : Top p loose mean mg mb h₀) (hA : A.frames = some (env :: outer)) (hf : env.frame = some L) (hke : env.scope.kind = .function)
    (ho : K.lookup f = some ⟨oc, od, .func (fnOf name qual params body scope dV kV doc pm an cdv ct), osl⟩) (hcd : codeIn K cdv qual = true) (hroom : A.depth < recursionLimit)
    (hbind : BindsTo s (fnOf name qual params body scope dV kV doc pm an cdv ct) ⟨pos, kw⟩ binds) (hloc : ∀ y ∈ binds, scope.names.lookup y.1 = some .local)
    (h : ∀ g L' h₁ tk, (∀ b o, b ∉ news.map (·.1) → s.heap.get? b = some o → g.get? b = some o) → Kp s.heap h₁ → s.toks ≤ tk → Fr g L' h₁ (fun y => binds.reverse.lookup y) → News g L' h₁ news → Below A base (env :: outer) g → K.In g → Top p loose mean mg mb g →
      wpAny (model prog w) (A.deeper (envOf qual scope L' f cdv)) (execs body (envOf qual scope L' f cdv))
        (fun fl s' => PLeave g Q (match fl with | .ret v => v | _ => .none) s') (fun _ _ => False) { s with heap := h₁, toks := tk })
    (hco : scope.isCoroutine = false) (hgen : scope.isGenerator = false) (hk : scope.kind = .function)
    (hcell : ∀ x ∈ scope.names, x.2 ≠ .cell) : wpAny (model prog w) A (call (.ref f) pos kw) Q E s := by
  refine wpAny_call ?_
  obtain ⟨FG, BG, st, lv⟩ := groundX (R := fun r s' => match r with | .ok (.ret v) => Q v s' | .ok _ => False | .error e => E e s') B F N hA hf hke
  have X1 := X₀.keeps st
  have T1 := T.keeps st
  refine codeAny_call_def (fd := fnX name qual params body scope [] dV kV doc pm an cdv ct) (body := body) (binds := binds) hroom ((X₀.keeps F.keep) _ _ ho) rfl (T.nolimit.keeps F.keep) (codeRec_of (X₀.keeps F.keep) hcd) rfl hbind hcell hloc (fun h₁ hns hk₁ => ?_) hco hgen hk
  refine wpAny_mono (h (hideAll s.heap (news.map (·.1))) s.heap.objs.size h₁ _ (fun b o hb e => hideAll_get _ e hb) hk₁ (Nat.le_add_right _ _) ⟨hns, fun b o e => hk₁ b o (of_hideAll _ e), Nat.le_of_eq (hideAll_size _ _)⟩
    (fun p hp => ⟨hk₁ _ _ (N p hp).1, Nat.ne_of_lt (Heap.lt_size (N p hp).1), hideAll_none _ (List.mem_map_of_mem hp)⟩) BG X1 T1) (fun fl s' hl => ?_) fun _ _ x => x.elim
  obtain ⟨L', m', F', hq⟩ := hl
  exact hq F'.keep
/-- the same for a def with cells -/
theorem enterEC {env : Env} {outer : List Env} {Q E : Value → Shared → Prop} {name qual : Str} {params : Arguments} {body : List Stmt} {scope : Scope} {dV kV doc pm cdv ct oc : Value} {an od : Option Addr} {osl : Array (Option Value)} {f : Addr} {pos : List Value} {kw : List (Str × Value)} {binds : List (Str × Value)}
    (B : Below A₀ base outer h₀) (F : Fr h₀ L s.heap m) (X₀ : K.In h₀) (N : News h₀ L s.heap news) (T : Top p loose mean mg mb h₀) (hA : A.frames = some (env :: outer)) (hf : env.frame = some L) (hke : env.scope.kind = .function)
    (ho : K.lookup f = some ⟨oc, od, .func (fnOf name qual params body scope dV kV doc pm an cdv ct), osl⟩) (hcd : codeIn K cdv qual = true) (hroom : A.depth < recursionLimit)
    (hbind : BindsTo s (fnOf name qual params body scope dV kV doc pm an cdv ct) ⟨pos, kw⟩ binds)
    (hkind : (binds.all fun y => scope.names.lookup y.1 == some .local || scope.names.lookup y.1 == some .cell) = true) (hnd : ((cellsFrom 0 scope.names []).map (·.1)).Nodup)
    (h : ∀ g L' h₁ tk cells, (∀ b o, b ∉ news.map (·.1) → s.heap.get? b = some o → g.get? b = some o) → Kp s.heap h₁ → s.toks ≤ tk → Fr g L' h₁ (bindL (envOfC qual scope L' f cdv).kindOf binds fun _ => none) → News g L' h₁ (news ++ cells) → CellsAre (bindC (envOfC qual scope L' f cdv).kindOf binds fun _ => none) (cellsFrom (L' + 1) scope.names []) cells →
      (∀ q ∈ news, q.1 < L') → Below A base (env :: outer) g → K.In g → Top p loose mean mg mb g →
      wpAny (model prog w) (A.deeper (envOfC qual scope L' f cdv)) (execs body (envOfC qual scope L' f cdv))
        (fun fl s' => PLeave g Q (match fl with | .ret v => v | _ => .none) s') (fun _ _ => False) { s with heap := h₁, toks := tk })
    (hco : scope.isCoroutine = false) (hgen : scope.isGenerator = false) (hk : scope.kind = .function) : wpAny (model prog w) A (call (.ref f) pos kw) Q E s := by
  refine wpAny_call ?_
  obtain ⟨FG, BG, st, lv⟩ := groundX (R := fun r s' => match r with | .ok (.ret v) => Q v s' | .ok _ => False | .error e => E e s') B F N hA hf hke
  have X1 := X₀.keeps st
  have T1 := T.keeps st
  refine codeAny_call_function hroom ((X₀.keeps F.keep) _ _ ho) rfl hco hgen rfl (codeRec_of (X₀.keeps F.keep) hcd) (hbind _ _ _ _ ?_)
  refine wpAny_toks (wpAny_newFunctionEnv_cells hk (kindsX hkind _) fun env' he s' x htk => ?_)
  subst he
  refine ⟨(T.nolimit.keeps F.keep).keeps x.toInCall.keep, codeAny_func ?_⟩
  obtain ⟨h₁, tk, rfl, _⟩ := x.done
  have hk₁ := x.toInCall.keep
  obtain ⟨cells, NC, Y⟩ := Cl.news (h₀ := hideAll s.heap (news.map (·.1))) (Nat.le_of_eq (hideAll_size _ _)) fun n c hm => ⟨x.cell n c (lookup_of_mem_nodup (cellsFrom_names scope.names 0 (s.heap.objs.size + 1) [] [] rfl ▸ hnd) hm), x.above n c hm⟩
  have NN : News (hideAll s.heap (news.map (·.1))) s.heap.objs.size h₁ news := fun p hp => ⟨hk₁ _ _ (N p hp).1, Nat.ne_of_lt (Heap.lt_size (N p hp).1), hideAll_none _ (List.mem_map_of_mem hp)⟩
  refine wpAny_mono (h (hideAll s.heap (news.map (·.1))) s.heap.objs.size h₁ tk cells (fun b o hb e => hideAll_get _ e hb) hk₁ htk ⟨x.toInCall.ns, fun b o e => hk₁ b o (of_hideAll _ e), Nat.le_of_eq (hideAll_size _ _)⟩ (fun p hp => (List.mem_append.mp hp).elim (NN p) (NC p)) Y (fun q hq => Heap.lt_size (N q hq).1) BG X1 T1) (fun fl s' hl => ?_) fun _ _ y => y.elim
  obtain ⟨L', m', F', hq⟩ := hl
  exact hq F'.keep
end
end
section
def kasRun {α : Type} (c : Nat → Nat → Bool) : KasT α → α
  | .ret a => a
  | .ask i j k => kasRun c (k (c i j))
def pcode (p : Array Nat) : Nat := p.toList.foldl (fun a x => a * 8 + x) 1
def pdec (n : Nat) : List Nat := [n / 4096 % 8, n / 512 % 8, n / 64 % 8, n / 8 % 8, n % 8]
def force {β : Type} (p : Array Nat) (f : Array Nat → β) : β := Nat.casesOn (pcode p) (f p) fun m => if pdec (m + 1) = p.toList then f (List.toArray (pdec (m + 1))) else f p
theorem force_eq {β : Type} (p : Array Nat) (f : Array Nat → β) : force p f = f p := by
  unfold force
  cases pcode p with
  | zero => rfl
  | succ m =>
    show (if pdec (m + 1) = p.toList then f (List.toArray (pdec (m + 1))) else f p) = f p
    split
    · rename_i h; rw [h]
    · rfl
def kdesc : Nat → Array Nat → Nat → Nat → KasT (Array Nat × Nat × Nat)
  | 0, p, n, q => .ret (p, n, q)
  | f + 1, p, n, q => .ask (p.getD n 0) (p.getD (n - 1) 0) fun c =>
    if c = true then (if q > 0 then force (kas_rev p (n - (q + 1)) n) fun p' => kdesc f p' (n + 1) 0 else kdesc f p (n + 1) 0)
    else .ask (p.getD (n - 1) 0) (p.getD n 0) fun d => if d = true then .ret (p, n, q) else kdesc f p (n + 1) (q + 1)
theorem kdesc_eq : ∀ (f : Nat) (p : Array Nat) (n q : Nat), kdesc f p n q = kas_desc f p n q
  | 0, _, _, _ => rfl
  | f + 1, p, n, q => by
    unfold kdesc kas_desc
    simp only [force_eq, kdesc_eq f]
def ktail3 (n nrem : Nat) (p : Array Nat) : KasT (Nat × Array Nat) := force (kas_rev p 0 n) fun r => (kas_asc r (nrem - n) n).bind fun m => .ret (m, r)
theorem ktail3_eq (n nrem : Nat) (p : Array Nat) : ktail3 n nrem p = kas_tail3 n nrem p := by unfold ktail3 kas_tail3; rw [force_eq]
def kdescPart (n nrem : Nat) (p : Array Nat) : KasT (Nat × Array Nat) :=
  (kdesc (nrem - (n + 1)) p (n + 1) 0).bind fun r => if r.2.2 > 0 then force (kas_rev r.1 (r.2.1 - (r.2.2 + 1)) r.2.1) fun p' => ktail3 r.2.1 nrem p' else ktail3 r.2.1 nrem r.1
theorem kdescPart_eq (n nrem : Nat) (p : Array Nat) : kdescPart n nrem p = kas_descPart n nrem p := by
  unfold kdescPart kas_descPart
  simp only [force_eq, kdesc_eq, ktail3_eq]
def kcount (nrem : Nat) (p : Array Nat) : KasT (Nat × Array Nat) :=
  (kas_asc p (nrem - 1) 1).bind fun n => if (n == nrem) = true then .ret (n, p) else if n > 1 then .ask (p.getD 0 0) (p.getD (n - 1) 0) fun c => if c = true then .ret (n, p) else force (kas_rev p 0 n) fun p' => kdescPart n nrem p'
    else kdescPart n nrem p
theorem kcount_eq (nrem : Nat) (p : Array Nat) : kcount nrem p = kas_count nrem p := by
  unfold kcount kas_count
  simp only [force_eq, kdescPart_eq]
def kbin : Nat → Array Nat → Nat → KasT (Array Nat)
  | 0, p, _ => .ret p
  | f + 1, p, k => (kas_place p k k 0 k).bind fun l => force (bubble p k (k - l)) fun p' => kbin f p' (k + 1)
theorem kbin_eq : ∀ (f : Nat) (p : Array Nat) (k : Nat), kbin f p k = kas_bin f p k
  | 0, _, _ => rfl
  | f + 1, p, k => by
    unfold kbin kas_bin
    simp only [force_eq, kbin_eq f]
def ksort5 : KasT (Array Nat) := (kcount 5 (List.toArray [0, 1, 2, 3, 4])).bind fun r => if r.1 < 5 then kbin (5 - max r.1 1) r.2 (max r.1 1) else .ret r.2
theorem ksort5_eq : kas_sort 5 = ksort5 := by
  unfold kas_sort ksort5
  simp only [kcount_eq, kbin_eq]
  rfl
def okTree : KasT (Array Nat) → Bool
  | .ret p => p.toList.length == 5
  | .ask i j k => decide (i < 5) && decide (j < 5) && okTree (k true) && okTree (k false)
theorem ok5 : okTree ksort5 = true := by decide +kernel
end
section
def wat (w : List Nat) (i : Nat) : Nat := w.getD i 0
/-- is column i's wish below column j's? -/
def cmp5 (w : List Nat) (i j : Nat) : Bool := decide (i < 5) && decide (j < 5) && decide (wat w i < wat w j)
def sig (side i : Nat) : Nat := if side = 0 then i else 4 - i
def insQ (side : Nat) (c : Nat → Nat → Bool) (x y : Nat) : Bool := if side = 0 then !c y x else c x y
/-- where insort puts column x: side 0 behind its equals, side 1 ahead of them -/
def insAt (side : Nat) (c : Nat → Nat → Bool) (x : Nat) (ys : List Nat) : List Nat := ys.takeWhile (insQ side c x) ++ x :: ys.dropWhile (insQ side c x)
def ordK (side : Nat) (c : Nat → Nat → Bool) : Nat → List Nat
  | 0 => []
  | k + 1 => insAt side c k (ordK side c k)
def descB (c : Nat → Nat → Bool) : List Nat → Bool
  | [] => true
  | x :: r => r.all (fun y => !c x y) && descB c r
def sortC (side : Nat) (c : Nat → Nat → Bool) : List Nat := (kasRun (fun i j => c (sig side j) (sig side i)) ksort5).toList
def chk (side : Nat) (c : Nat → Nat → Bool) : Bool :=
  ((sortC side c).map (sig side) == ordK side c 5) && (List.range 6).all (fun k => descB c (ordK side c k)) && (List.range 5).all (fun x => (ordK side c 5).contains x) && (ordK side c 5).length == 5 && (sortC side c).all (fun i => decide (i < 5))
def rank (w : List Nat) (i : Nat) : Nat := (List.range 5).countP fun j => decide (wat w j < wat w i)
def ranks (w : List Nat) : List Nat := [rank w 0, rank w 1, rank w 2, rank w 3, rank w 4]
def insF (side : Nat) (c : Nat → Nat → Bool) (x : Nat) : List Nat → List Nat
  | [] => [x]
  | y :: ys => bif insQ side c x y then y :: insF side c x ys else x :: y :: ys
def ordF (side : Nat) (c : Nat → Nat → Bool) : Nat → List Nat
  | 0 => []
  | k + 1 => insF side c k (ordF side c k)
theorem insF_eq (side : Nat) (c : Nat → Nat → Bool) (x : Nat) : ∀ ys, insF side c x ys = insAt side c x ys := by
  intro ys
  unfold insAt
  induction ys with
  | nil => rfl
  | cons y ys ih =>
    rw [insF, List.takeWhile_cons, List.dropWhile_cons]
    cases insQ side c x y with
    | false => rfl
    | true => exact congrArg (y :: ·) ih
theorem ordF_eq (side : Nat) (c : Nat → Nat → Bool) : ∀ k, ordF side c k = ordK side c k
  | 0 => rfl
  | k + 1 => by rw [ordF, ordK, ordF_eq side c k, insF_eq]
theorem ord_sub (side : Nat) (c : Nat → Nat → Bool) (k : Nat) : (ordK side c k).Sublist (ordK side c (k + 1)) := by
  show (ordK side c k).Sublist (insAt side c k (ordK side c k))
  unfold insAt
  have e := List.takeWhile_append_dropWhile (p := insQ side c k) (l := ordK side c k)
  refine List.Sublist.trans (by rw [e]; exact .refl _) ((List.Sublist.refl _).append (.cons _ (.refl _)))
theorem desc_sub {c : Nat → Nat → Bool} {l r : List Nat} (h : l.Sublist r) : descB c r = true → descB c l = true := by
  induction h with
  | slnil => exact id
  | cons a _ ih => exact fun e => ih (Bool.and_eq_true_iff.mp e).2
  | cons_cons a s ih =>
    intro e
    obtain ⟨e1, e2⟩ := Bool.and_eq_true_iff.mp e
    exact Bool.and_eq_true_iff.mpr ⟨List.all_eq_true.mpr fun y hy => List.all_eq_true.mp e1 y (s.subset hy), ih e2⟩
theorem desc_down {side : Nat} {c : Nat → Nat → Bool} {k : Nat} : ∀ {d : Nat}, descB c (ordK side c (k + d)) = true → descB c (ordK side c k) = true
  | 0, h => h
  | _ + 1, h => desc_down (desc_sub (ord_sub side c _) h)
/-- the same, cheaper to look at -/
def chkF (side : Nat) (c : Nat → Nat → Bool) : Bool :=
  ((sortC side c).map (sig side) == ordF side c 5) && descB c (ordF side c 5) && (List.range 5).all (fun x => (ordF side c 5).contains x) && (ordF side c 5).length == 5 && (sortC side c).all (fun i => decide (i < 5))
theorem chkF_chk {side : Nat} {c : Nat → Nat → Bool} (h : chkF side c = true) : chk side c = true := by
  unfold chkF at h
  rw [ordF_eq] at h
  simp only [Bool.and_eq_true] at h
  obtain ⟨⟨⟨⟨h1, h2⟩, h3⟩, h4⟩, h5⟩ := h
  unfold chk
  simp only [Bool.and_eq_true]
  refine ⟨⟨⟨⟨h1, List.all_eq_true.mpr fun k hk => ?_⟩, h3⟩, h4⟩, h5⟩
  have := List.mem_range.mp hk
  exact desc_down (d := 5 - k) (by rw [Nat.add_sub_cancel' (Nat.le_of_lt_succ this)]; exact h2)
def at5 : List Nat → Nat → Nat
  | [], _ => 0
  | a :: _, 0 => a
  | _ :: l, i + 1 => at5 l i
def cl5 (x : Nat) : List Nat → Nat
  | [] => 0
  | y :: l => (1 - (y + 1 - x)) + cl5 x l
def okr (l : List Nat) : Bool := l.all fun x => Nat.beq (cl5 x l) x
def fcmp (l : List Nat) (i j : Nat) : Bool := Nat.blt i 5 && Nat.blt j 5 && Nat.blt (at5 l i) (at5 l j)
def all5 (f : Nat → Bool) : Bool := f 0 && f 1 && f 2 && f 3 && f 4
theorem chk_all : (all5 fun a => all5 fun b => all5 fun c => all5 fun d => all5 fun e => !okr [a, b, c, d, e] || (chkF 0 (fcmp [a, b, c, d, e]) && chkF 1 (fcmp [a, b, c, d, e]))) = true := by decide +kernel
theorem at5_eq : ∀ (l : List Nat) (i : Nat), at5 l i = wat l i
  | [], _ => rfl
  | _ :: _, 0 => rfl
  | _ :: l, i + 1 => at5_eq l i
theorem fcmp_eq (l : List Nat) : fcmp l = cmp5 l := by
  have bl : ∀ x y, Nat.blt x y = decide (x < y) := fun x y => by rw [Bool.eq_iff_iff, Nat.blt_eq, decide_eq_true_eq]
  funext i j
  unfold fcmp cmp5
  rw [bl, bl, bl, at5_eq, at5_eq]
theorem countP_lt {α : Type} {p q : α → Bool} : ∀ {l : List α}, (∀ x ∈ l, p x = true → q x = true) → (∃ x ∈ l, q x = true ∧ p x = false) → l.countP p < l.countP q
  | [], _, ⟨_, h, _⟩ => by cases h
  | a :: l, h, ⟨x, hx, hq, hp⟩ => by
    have hle : l.countP p ≤ l.countP q := List.countP_mono_left fun y hy => h y (.tail _ hy)
    rw [List.countP_cons, List.countP_cons]
    rcases List.mem_cons.mp hx with rfl | hx
    · rw [hq, hp]; simp; (first | lia | omega)
    · have ih := countP_lt (l := l) (fun y hy => h y (.tail _ hy)) ⟨x, hx, hq, hp⟩
      have ha := h a (.head _)
      cases e : p a with
      | false => simp; (first | lia | omega)
      | true => rw [ha e]; simp; (first | lia | omega)
theorem wat_ranks (w : List Nat) {i : Nat} (h : i < 5) : wat (ranks w) i = rank w i := by
  rcases i with _ | _ | _ | _ | _ | i <;> first | rfl | (first | lia | omega)
theorem rank_lt (w : List Nat) {i j : Nat} (hi : i < 5) : rank w i < rank w j ↔ wat w i < wat w j := by
  constructor
  · intro h
    apply Classical.byContradiction
    intro hn
    have : rank w j ≤ rank w i := List.countP_mono_left fun k _ hk => by simp at hk ⊢; (first | lia | omega)
    (first | lia | omega)
  · intro h
    exact countP_lt (fun k _ hk => by simp at hk ⊢; (first | lia | omega)) ⟨i, List.mem_range.mpr hi, by simpa using h, by simp⟩
theorem cmp_ranks (w : List Nat) : cmp5 (ranks w) = cmp5 w := by
  funext i j
  unfold cmp5
  by_cases hi : i < 5
  · by_cases hj : j < 5
    · rw [wat_ranks w hi, wat_ranks w hj]
      simp [hi, hj, rank_lt w hi]
    · simp [hj]
  · simp [hi]
theorem rank_le4 (w : List Nat) {i : Nat} (hi : i < 5) : rank w i < 5 :=
  Nat.lt_of_lt_of_le (countP_lt (q := fun _ => true) (fun _ _ _ => rfl) ⟨i, List.mem_range.mpr hi, rfl, decide_eq_false (Nat.lt_irrefl _)⟩) (List.countP_le_length (l := List.range 5))
theorem rank_ranks (w : List Nat) {i : Nat} (hi : i < 5) : rank (ranks w) i = rank w i := by
  unfold rank
  refine List.countP_congr fun j hj => ?_
  have hj5 := List.mem_range.mp hj
  rw [wat_ranks w hj5, wat_ranks w hi]
  simp [rank_lt w hj5]
theorem all5_at {f : Nat → Bool} (h : all5 f = true) {i : Nat} (hi : i < 5) : f i = true := by
  unfold all5 at h
  simp only [Bool.and_eq_true] at h
  obtain ⟨⟨⟨⟨h0, h1⟩, h2⟩, h3⟩, h4⟩ := h
  rcases i with _ | _ | _ | _ | _ | i
  · exact h0
  · exact h1
  · exact h2
  · exact h3
  · exact h4
  · exact absurd hi (Nat.not_lt.mpr (Nat.le_add_left 5 i))
theorem cl5_eq (x : Nat) : ∀ l : List Nat, cl5 x l = l.countP fun y => decide (y < x)
  | [] => rfl
  | y :: l => by
    rw [cl5, cl5_eq x l, List.countP_cons, Nat.add_comm]
    congr 1
    by_cases h : y < x
    · rw [decide_eq_true h, Nat.sub_eq_zero_of_le h]; rfl
    · rw [decide_eq_false h, Nat.succ_sub (Nat.le_of_not_lt h)]; exact Nat.sub_eq_zero_of_le (Nat.le_add_left 1 _)
theorem cl5_rank (w : List Nat) {i : Nat} (hi : i < 5) : Nat.beq (cl5 (rank w i) (ranks w)) (rank w i) = true := by
  rw [Nat.beq_eq, cl5_eq]
  refine Eq.trans ?_ (rank_ranks w hi)
  show _ = (List.range 5).countP _
  rw [wat_ranks w hi]
  exact (List.countP_map (p := fun y => decide (y < rank w i)) (f := wat (ranks w)) (l := List.range 5)).symm ▸ rfl
theorem okr_ranks (w : List Nat) : okr (ranks w) = true := by
  refine List.all_eq_true.mpr fun x hx => ?_
  simp only [ranks, List.mem_cons, List.not_mem_nil, or_false] at hx
  rcases hx with rfl | rfl | rfl | rfl | rfl <;> exact cl5_rank w (by decide)
theorem chk_any (side : Nat) (hs : side < 2) (w : List Nat) : chk side (cmp5 w) = true := by
  have r : ∀ {i}, i < 5 → rank w i < 5 := rank_le4 w
  have h := all5_at (all5_at (all5_at (all5_at (all5_at chk_all (r (i := 0) (by decide))) (r (i := 1) (by decide))) (r (i := 2) (by decide))) (r (i := 3) (by decide))) (r (i := 4) (by decide))
  change (!okr (ranks w) || (chkF 0 (fcmp (ranks w)) && chkF 1 (fcmp (ranks w)))) = true at h
  rw [okr_ranks, fcmp_eq, cmp_ranks] at h
  obtain ⟨h1, h2⟩ := Bool.and_eq_true_iff.mp h
  rcases side with _ | _ | s
  · exact chkF_chk h1
  · exact chkF_chk h2
  · exact absurd hs (Nat.not_lt.mpr (Nat.le_add_left 2 s))
end
section
def kasIn {α : Type} (n : Nat) : KasT α → Bool
  | .ret _ => true
  | .ask i j k => decide (i < n) && decide (j < n) && kasIn n (k true) && kasIn n (k false)
section
variable {prog : Program} {w : World} {A A₀ : Around} {s : Shared} {K : Params → Frag} {L : Addr} {h₀ base : Heap} {m mg mb : Str → Option Value} {news : List (Addr × Obj)} {p : Program} {loose : List Str} {mean : ExcName → Option Value}
theorem ints_at {vs : List Value} {ns : List Int} (hi : IntsAre vs ns) {i : Nat} (h : i < vs.length) : ∃ t, vs.getD i Value.none = .int (ns.getD i 0) t := by
  have hl := hi.length
  obtain ⟨t, ht⟩ := ints_get hi (k := i) (by (first | lia | omega))
  refine ⟨t, ?_⟩
  simp only [List.getD, ht, Option.getD_some]
  simp [show i < ns.length by (first | lia | omega)]
theorem kas_wp_run {α : Type} {ks : List Value} {kz : List Int} (hi : IntsAre ks kz) {c : Nat → Nat → Bool} (hc : ∀ i j, i < ks.length → j < ks.length → c i j = decide (kz.getD i 0 < kz.getD j 0)) {G : α → Shared → Prop} : ∀ (t : KasT α) (s : Shared), kasIn ks.length t = true → G (kasRun c t) s → t.kasWp (kas_ask prog w A oneType' ks) G s
  | .ret a, s, _, h => h
  | .ask i j k, s, hr, h => by
    simp only [kasIn, Bool.and_eq_true, decide_eq_true_eq] at hr
    obtain ⟨⟨⟨h1, h2⟩, h3⟩, h4⟩ := hr
    show wpAny (model prog w) A (keyLt' oneType' (ks.getD i Value.none) (ks.getD j Value.none)) _ _ s
    obtain ⟨t1, e1⟩ := ints_at hi h1
    obtain ⟨t2, e2⟩ := ints_at hi h2
    rw [e1, e2]
    refine kat_lt_int ?_
    have h' : G (kasRun c (k (c i j))) s := h
    rw [hc i j h1 h2] at h'
    cases e : decide (kz.getD i 0 < kz.getD j 0) with
    | true => rw [e] at h'; exact kas_wp_run hi hc _ _ h3 h'
    | false => rw [e] at h'; exact kas_wp_run hi hc _ _ h4 h'
theorem kas5_in : kasIn 5 ksort5 = true := by decide +kernel
def permK (c : Nat → Nat → Bool) : List Nat := (kasRun c ksort5).toList
theorem sortK_keys {kf : Addr} {f : Int → Int} {S : Addr → Prop} {P : Heap → Prop} (hK : KeyInt kf 2 f S P) {dp un : Nat} {gd : Option (List Code)} {cn : Str} {cs : Scope} {a : Addr} {ccd : Value} {cl : List (Str × Addr)} {outer : List Env} {D kS : Addr} {e1 : Nat}
    (B : Below A₀ base outer h₀) (X : (hd54.heap_1 w.params).In h₀) (T : Top p loose mean mg mb h₀) (hA : A = ktrTop dp un gd cn cs L a ccd cl outer) (hk : cs.kind = .function)
    (hd : dp + 2 < recursionLimit) (hu : un + 60 < cLine) (hP : ∀ h', Fr h₀ L h' m → News h₀ L h' news → P h') (hDk : D < kS) (hDn : ∀ q ∈ news, q.1 < D) {Fin : List Value → Nat → Shared → Prop} :
    ∀ (r : List Value) (nr : List Int) (ks : List Value) (kz : List Int) (e : Nat) (s : Shared), IntsAre r nr → (∀ c ∈ nr, 0 ≤ c ∧ c < 5) → IntsAre ks kz → Fr h₀ L s.heap m → News h₀ L s.heap ((kS, seqObj "list" ks.toArray e) :: (D, seqObj "list" #[] e1) :: news) →
      (∀ ks' e' h' tk, IntsAre ks' (kz ++ nr.map f) → Fr h₀ L h' m → News h₀ L h' ((kS, seqObj "list" ks'.toArray e') :: (D, seqObj "list" #[] e1) :: news) → s.toks ≤ tk → Fin ks' e' { s with heap := h', toks := tk }) →
      KatKeys prog w A h₀ L m kS (.ref kf) Fin r ks e s := by
  intro r
  induction r with
  | nil =>
    intro nr ks kz e s hr hd5 hks F N h
    cases hr
    exact KatKeys.nil (h ks e s.heap s.toks (by simpa using hks) F N (Nat.le_refl _))
  | cons v r ih =>
    intro nr ks kz e s hr hd5 hks F N h
    cases hr with
    | cons n t hr =>
      refine KatKeys.cons ?_
      obtain ⟨d0, d5⟩ := hd5 _ (.head _)
      refine PSpec.useA (A₀ := A₀) (hK.spec n t d0 d5) B F N X T hA hk hd hu (hP _ F fun q hq => N q (.tail _ (.tail _ hq))) ?_
      intro v9 h9 tk9 F9 N9 kp9 ht9 hz9 hv9
      obtain ⟨t', rfl⟩ := hv9
      refine KatBack.intro F9 N9 (g := fun o => (kS, o) :: (D, seqObj "list" #[] e1) :: news) ?_ fun h8 c8 F8 N8 => ?_
      · refine UpdF.head fun q hq => ?_
        rcases List.mem_cons.mp hq with rfl | hq
        · exact Nat.ne_of_lt hDk
        · exact Nat.ne_of_lt (Nat.lt_trans (hDn q hq) hDk)
      · refine ih _ _ (kz ++ [f n]) c8 _ hr (fun c hc => hd5 c (.tail _ hc)) (ksk_snoc hks) F8 N8 fun ks' e' h' tk hi' F' N' ht' => ?_
        exact h ks' e' h' tk (by simpa using hi') F' N' (Nat.le_trans ht9 ht')
theorem updF2 {a b : Addr} {o o' : Obj} {r : List (Addr × Obj)} (hab : a ≠ b) (hr : ∀ q ∈ r, q.1 ≠ b) : UpdF b o' ((a, o) :: (b, o') :: r) (fun x => (a, o) :: (b, x) :: r) := .tail hab (.head hr)
/-- sorted(l, key=kf) on five ints -/
theorem sortK5 {kf : Addr} {f : Int → Int} {S : Addr → Prop} {P : Heap → Prop} (hK : KeyInt kf 2 f S P) {dp un : Nat} {gd : Option (List Code)} {cn : Str} {cs : Scope} {a : Addr} {ccd : Value} {cl : List (Str × Addr)} {outer : List Env}
    (B : Below A₀ base outer h₀) (F : Fr h₀ L s.heap m) (N : News h₀ L s.heap news) (X : (hd54.heap_1 w.params).In h₀) (T : Top p loose mean mg mb h₀) (hA : A = ktrTop dp un gd cn cs L a ccd cl outer) (hk : cs.kind = .function)
    (hd : dp + 2 < recursionLimit) (hu : un + 100 < cLine) {l : Addr} {vs : List Value} {ns : List Int} (hl : s.heap.IsList l vs.toArray) (hi : IntsAre vs ns) (h5 : vs.length = 5) (hdom : ∀ c ∈ ns, 0 ≤ c ∧ c < 5) (c : Nat → Nat → Bool) (hc : ∀ i j, i < 5 → j < 5 → c i j = decide ((ns.map f).getD i 0 < (ns.map f).getD j 0)) (hP : ∀ h', Fr h₀ L h' m → News h₀ L h' news → P h') {Q E : Value → Shared → Prop}
    (h : ∀ D h' tk cc, Fr h₀ L h' m → News h₀ L h' ((D, listOf ((permK c).map fun i => vs.getD i Value.none).toArray cc) :: news) → (∀ q ∈ news, q.1 < D) → s.toks ≤ tk → Q (.ref D) { s with heap := h', toks := tk }) :
    wpAny (model prog w) A (call (.builtin "sorted") [.ref l] [(Str.ofString "key", .ref kf)]) Q E s := by
  refine kat_sortedK (b := false) (f := .ref kf) F N hl (by (first | lia | omega)) (by (first | lia | omega)) (ksk_s1 _ _) (fun x => ksk_l1 _ _) (fun x => ksk_t1 _ _) fun D kS e1 h' F' N' hDk hDn => ?_
  refine sortK_keys (A := A.in1.in1) (dp := dp) (un := un + 2) (gd := gd) (cn := cn) (cs := cs) (a := a) (ccd := ccd) (cl := cl) (outer := outer) hK B X T (by subst hA; rfl) hk hd (by (first | lia | omega)) hP hDk hDn vs ns [] [] 0 _ hi hdom .nil F' N' fun ks' e' h8 tk hi8 F8 N8 ht8 => ?_
  have hl5 : ks'.length = 5 := by have a := hi8.length; have b := hi.length; simp at a; (first | lia | omega)
  rw [ksk_kind (keys := ks'.toArray) (kz := [] ++ ns.map f) hi8 (by simp; (first | lia | omega))]
  refine wpAny_pure ?_
  rw [h5, ksort5_eq]
  refine kas_wp_run (kz := [] ++ ns.map f) (ks := katRev false ks') hi8 (c := c) (fun i j hi9 hj9 => hc i j (by rw [← hl5]; exact hi9) (by rw [← hl5]; exact hj9)) _ _ (by show kasIn ks'.length _ = true; rw [hl5]; exact kas5_in) ?_
  refine KatFin.intro F8 N8 (.head fun q hq => ?_) fun h7 c7 F7 N7 => ?_
  · rcases List.mem_cons.mp hq with rfl | hq
    · exact Nat.ne_of_lt hDk
    · exact Nat.ne_of_lt (Nat.lt_trans (hDn q hq) hDk)
  refine KasFin.intro F7 N7 (updF2 (Nat.ne_of_gt hDk) fun q hq => Nat.ne_of_lt (hDn q hq)) fun h6 c6 F6 N6 => ?_
  exact h D h6 tk c6 F6 (fun q hq => N6 q (.tail _ hq)) hDn ht8
end
end
section
/-- what is known of a code table: its triples, and that each code in it stands -/
def TabL (h₀ : Heap) (qual : Str) (ps : Array Value) (ex : List (Addr × Obj)) : Prop :=
  TriplesOk ps.toList ∧ (∀ q ∈ ex, ∃ vs t, q.2.data = .fields vs ∧ vs[1]? = some (.str qual t)) ∧ ∀ pos cv, codeAmong pos ps.toList = some cv → ∃ c, cv = .ref c ∧ (h₀.CodeRec cv qual ∨ ∃ oc, (c, oc) ∈ ex)
theorem triples_snoc {a b : Int} {t u : Tok} {c : Value} (l : List Value) (h : TriplesOk l) : TriplesOk (l ++ [.int a t, .int b u, c]) := by
  fun_induction TriplesOk l with
  | case1 => trivial
  | case2 _ _ _ _ _ rest ih => exact ih h
  | case3 => exact h.elim
theorem among_snoc {pos : Pos} {a b : Int} {t u : Tok} {c cv : Value} (l : List Value) (h : TriplesOk l) (e : codeAmong pos (l ++ [.int a t, .int b u, c]) = some cv) : codeAmong pos l = some cv ∨ cv = c := by
  fun_induction TriplesOk l with
  | case1 =>
    right
    simp [codeAmong] at e
    exact e.2.symm
  | case2 x1 t1 x2 t2 x3 rest ih =>
    simp only [List.cons_append] at e
    unfold codeAmong at e ⊢
    split at e
    · rename_i hh; left; rw [if_pos hh]; exact e
    · rename_i hh; rw [if_neg hh]; exact ih h e
  | case3 => exact h.elim
section
variable {M : Model} {A : Around} {E : Value → Shared → Prop} {s : Shared} {h₀ : Heap} {L a c P : Addr} {m mg mb : Str → Option Value} {cn : Str} {cs : Scope} {ccd : Value} {cl : List (Str × Addr)} {news : List (Addr × Obj)}
  {p : Program} {loose : List Str} {mean : ExcName → Option Value} {name qual : Str} {params : Arguments} {body : PySem.Expr} {scope : Scope} {ps : Array Value} {pos : Pos} {firstLine : Nat} {clos : List (Str × Addr)}
theorem lam_any {Q : Value → Shared → Prop} {ex : List (Addr × Obj)} (F : Fr h₀ L s.heap m) (N : News h₀ L s.heap news) (T : Top p loose mean mg mb h₀) (C : CodeHd h₀ c P) (hcd : ccd = .ref c) (hmem : (P, tabObj ps) ∈ news) (TB : TabL h₀ qual ps ex) (hex : ∀ q ∈ ex, q ∈ news ∧ q.1 ≠ P)
    (hcl : closureFor scope (envX cn cs L a ccd cl) = pure clos)
    (h : ∀ f c' ctv h' tk ps' ex' oF, oF = kla_obj name qual params body scope clos ((mg "__name__").getD .none) c' ctv → Fr h₀ L h' m → (∀ news', (∀ q ∈ news', (q ∈ news ∧ q.1 ≠ P) ∨ q = (P, tabObj ps') ∨ q = (f, oF) ∨ q ∈ ex') → News h₀ L h' news') →
      TabL h₀ qual ps' ex' → (∀ q ∈ ex', q.1 ≠ P) → h'.CodeRec (.ref c') qual → (∀ q ∈ news, q.1 < f) → (∀ q ∈ ex', q ∈ ex ∨ ∀ r ∈ news, r.1 < q.1) → (∀ q ∈ ex', q.1 < f) → (∀ b o, b ≠ P → s.heap.get? b = some o → h'.get? b = some o) → (h₀.CodeRec (.ref c') qual ∨ ∃ oc, (c', oc) ∈ ex') → Q (.ref f) { s with heap := h', toks := tk }) :
    wpAny M A (makeFunction name qual params (.expr body) scope (envX cn cs L a ccd cl) [] [] [] pos firstLine) Q E s := by
  have hm := N (P, tabObj ps) hmem
  have hgs := T.g.keeps F.keep
  obtain ⟨bm, ob, b1, b2, b3, b4, b5, b6⟩ := T.bmain
  have hgP : mainGlobals ≠ P := fun q => by
    obtain ⟨o, es, ep, e, hd, _⟩ := hgs
    rw [q, hm.1] at e; cases e; cases hd
  have hbP : bm ≠ P := fun q => by
    have e := F.keep _ _ b3
    rw [q, hm.1] at e; cases e; cases b4
  have hbG : bm ≠ mainGlobals := fun q => by
    obtain ⟨o, es, ep, e, hd, _⟩ := T.g
    rw [q, e] at b3; cases b3; rw [hd] at b6; cases b6
  obtain ⟨ht, hexc, hcodes⟩ := TB
  have fresh : ∀ b, L < b → h₀.get? b = none := fun b hb => Heap.get?_none_of_le (Nat.le_trans F.above (Nat.le_of_lt hb))
  have hLs : L < s.heap.objs.size := F.ns.lt
  cases hf : codeAmong pos ps.toList with
  | some cv =>
    obtain ⟨c', rfl, hc'⟩ := hcodes pos cv hf
    refine kla_makeFunctionHit (mg := mg) hcl rfl hgs hcd (C.keeps F.keep) hm.1 ht hf ⟨bm, ob, b1, b2, hbG, hbP, F.keep _ _ b3, b4, b5, b6⟩ fun ctv h' tk hk hsz => ?_
    have hLs' : L < h'.objs.size := Nat.lt_of_lt_of_le hLs hsz
    have rec' : h'.CodeRec (.ref c') qual := by
      rcases hc' with q | ⟨oc, q⟩
      · exact q.keeps fun b o e => hk b o (F.keep b o e)
      · obtain ⟨vs, t, e1, e2⟩ := hexc _ q
        exact ⟨c', oc, vs, t, rfl, hk _ _ (N _ (hex _ q).1).1, e1, e2⟩
    refine h h'.objs.size c' ctv _ tk ps ex _ rfl ⟨(F.ns.keeps hk).push _, fun b o e => Heap.get?_push_of_some _ (hk b o (F.keep b o e)), F.above⟩ (fun news' hn q hq => ?_) ⟨ht, hexc, hcodes⟩ (fun q hq => (hex q hq).2) (rec'.push _) (fun q hq => Nat.lt_of_lt_of_le (Heap.lt_size (N q hq).1) hsz)
      (fun q hq => .inl hq) (fun q hq => Nat.lt_of_lt_of_le (Heap.lt_size (N q (hex q hq).1).1) hsz) (fun b o _ e => Heap.get?_push_of_some _ (hk b o e)) hc'
    rcases hn q hq with ⟨q1, q2⟩ | rfl | rfl | q1
    · exact ⟨Heap.get?_push_of_some _ (hk _ _ (N q q1).1), (N q q1).2⟩
    · exact ⟨Heap.get?_push_of_some _ (hk _ _ hm.1), hm.2⟩
    · exact ⟨Heap.get?_push_size _ rfl, Nat.ne_of_gt hLs', fresh _ hLs'⟩
    · exact ⟨Heap.get?_push_of_some _ (hk _ _ (N q (hex q q1).1).1), (N q (hex q q1).1).2⟩
  | none =>
    refine kla_makeFunction (mg := mg) hcl rfl hgs hcd (C.keeps F.keep) hm.1 ht hf hgP ⟨bm, ob, b1, b2, hbG, hbP, F.keep _ _ b3, b4, b5, b6⟩ fun c' ctv h' tk hx hge hlt hrec htb => ?_
    have hrec2 := hrec
    obtain ⟨c₂, oc, vs, t, e2, hoc, hd, hv⟩ := hrec
    cases e2
    have hLc : L < c' := Nat.lt_of_lt_of_le hLs hge
    have hcP : c' ≠ P := fun q => Nat.lt_irrefl _ (Nat.lt_of_lt_of_le (q ▸ Heap.lt_size hm.1) hge)
    have old : ∀ b o, h₀.get? b = some o → h'.get? b = some o := fun b o e => hx b o (fun q => by rw [q, hm.2.2] at e; cases e) (F.keep b o e)
    refine h h'.objs.size c' ctv _ tk (ps ++ #[rawInt pos.line, rawInt pos.col, .ref c']) ((c', oc) :: ex) _ rfl ⟨(F.ns.extBut hx hm.2.1.symm).push _, fun b o e => Heap.get?_push_of_some _ (old b o e), F.above⟩ (fun news' hn q hq => ?_)
      ⟨?_, ?_, ?_⟩ ?_ (hrec2.push _) (fun q hq => Nat.lt_trans (Nat.lt_of_lt_of_le (Heap.lt_size (N q hq).1) hge) hlt) ?_ ?_ (fun b o hb e => Heap.get?_push_of_some _ (hx b o hb e)) (.inr ⟨oc, .head _⟩)
    · rcases hn q hq with ⟨q1, q2⟩ | rfl | rfl | q1
      · exact ⟨Heap.get?_push_of_some _ (hx _ _ q2 (N q q1).1), (N q q1).2⟩
      · exact ⟨Heap.get?_push_of_some _ htb, hm.2⟩
      · exact ⟨Heap.get?_push_size _ rfl, Nat.ne_of_gt (Nat.lt_trans hLc hlt), fresh _ (Nat.lt_trans hLc hlt)⟩
      · rcases List.mem_cons.mp q1 with rfl | q1
        · exact ⟨Heap.get?_push_of_some _ hoc, Nat.ne_of_gt hLc, fresh _ hLc⟩
        · exact ⟨Heap.get?_push_of_some _ (hx _ _ (hex q q1).2 (N q (hex q q1).1).1), (N q (hex q q1).1).2⟩
    · rw [Array.toList_append]; exact triples_snoc _ ht
    · intro q hq
      rcases List.mem_cons.mp hq with rfl | hq
      · exact ⟨vs, t, hd, hv⟩
      · exact hexc q hq
    · intro pos' cv e
      rw [Array.toList_append] at e
      rcases among_snoc _ ht e with e | rfl
      · obtain ⟨c₃, rfl, hc₃⟩ := hcodes pos' cv e
        exact ⟨c₃, rfl, hc₃.imp id fun ⟨oc', q⟩ => ⟨oc', .tail _ q⟩⟩
      · exact ⟨c', rfl, .inr ⟨oc, .head _⟩⟩
    · intro q hq
      rcases List.mem_cons.mp hq with rfl | hq
      · exact hcP
      · exact (hex q hq).2
    · intro q hq
      rcases List.mem_cons.mp hq with rfl | hq
      · exact .inr fun r hr => Nat.lt_of_lt_of_le (Heap.lt_size (N r hr).1) hge
      · exact .inl hq
    · intro q hq
      rcases List.mem_cons.mp hq with rfl | hq
      · exact hlt
      · exact Nat.lt_trans (Nat.lt_of_lt_of_le (Heap.lt_size (N q (hex q hq).1).1) hge) hlt
theorem nameX_G {x : Str} {pos : Pos} {v : Value} {Q : Value → Shared → Prop} {o : Obj} (F : Fr h₀ L s.heap m) (hc : cl.lookup x = some c) (ho : h₀.get? c = some o) (hd : o.data = .cell (some v)) (h : Q v s)
    (hk : cs.kind = .function := by rfl) (hx : (envX cn cs L a ccd cl).kindOf x = some .free := by rfl) (hb : (x == ("__debug__" : Str)) = false := by decide) (hn : (x == ("__classdict__" : Str)) = false := by decide) :
    wpAny M A (eval (.Name x pos) (envX cn cs L a ccd cl)) Q E s := wpAny_Name (wpAny_loadName_free hk hx hc ⟨o, F.keep _ _ ho, hd⟩ h hn) hb
end
theorem rec_of {h₀ h : Heap} {L c : Addr} {m : Str → Option Value} {news ex : List (Addr × Obj)} {qual : Str} {ps : Array Value} (F : Fr h₀ L h m) (N : News h₀ L h news) (TB : TabL h₀ qual ps ex) (cc : h₀.CodeRec (.ref c) qual ∨ ∃ oc, (c, oc) ∈ ex) (hs : ∀ q ∈ ex, q ∈ news) : h.CodeRec (.ref c) qual := by
  rcases cc with q | ⟨oc, q⟩
  · exact q.keeps fun b o e => F.keep b o e
  · obtain ⟨vs, t, e1, e2⟩ := TB.2.1 _ q
    exact ⟨c, oc, vs, t, rfl, (N _ (hs _ q)).1, e1, e2⟩
section
variable {prog : Program} {w : World} {A A₀ : Around} {s : Shared} {K : Frag} {L : Addr} {h₀ base : Heap} {m mg mb : Str → Option Value} {news : List (Addr × Obj)} {p : Program} {loose : List Str} {mean : ExcName → Option Value}
/-- entering a lambda that changes nothing that stands -/
theorem enterPL {env : Env} {outer : List Env} {Q E : Value → Shared → Prop} {name qual : Str} {params : Arguments} {body : PySem.Expr} {scope : Scope} {cl : List (Str × Addr)} {pm ctv : Value} {c' f : Addr} {pos : List Value} {kw : List (Str × Value)} {binds : List (Str × Value)}
    (B : Below A₀ base outer h₀) (F : Fr h₀ L s.heap m) (X₀ : K.In h₀) (T : Top p loose mean mg mb h₀) (hA : A.frames = some (env :: outer)) (hf : env.frame = some L) (hke : env.scope.kind = .function)
    (ho : s.heap.get? f = some (kla_obj name qual params body scope cl pm c' ctv)) (hcd : s.heap.CodeRec (.ref c') qual) (hroom : A.depth < recursionLimit)
    (hbind : bindArgs (kla_fn name qual params body scope cl pm (.ref c') ctv) ⟨pos, kw⟩ = pure binds) (hloc : ∀ y ∈ binds, scope.names.lookup y.1 = some .local)
    (h : ∀ g L' h₁ tk, g = s.heap → s.toks ≤ tk → Fr g L' h₁ (fun y => binds.reverse.lookup y) → News g L' h₁ [] → Below A base (env :: outer) g → K.In g → Top p loose mean mg mb g →
      wpAny (model prog w) (A.deeper (envX qual scope L' f (.ref c') cl)) (eval body (envX qual scope L' f (.ref c') cl)) (fun v s' => PLeave g Q v s') (fun _ _ => False) { s with heap := h₁, toks := tk })
    (hco : scope.isCoroutine = false) (hgen : scope.isGenerator = false) (hk : scope.kind = .function)
    (hcell : ∀ x ∈ scope.names, x.2 ≠ .cell) : wpAny (model prog w) A (call (.ref f) pos kw) Q E s := by
  refine wpAny_call ?_
  obtain ⟨FG, BG, st, lv⟩ := groundX (R := fun r s' => match r with | .ok (.ret v) => Q v s' | .ok _ => False | .error e => E e s') B F (News.nil (h₀ := h₀) (L := L) (h := s.heap)) hA hf hke
  refine kla_callFunE hroom ho rfl hco hgen rfl hcd ?_
  rw [hbind]
  refine wpAny_pure (wpAny_newFunctionEnv hcell hloc (fun h₁ hns hsb => ⟨((T.nolimit).keeps F.keep).fresh _ hsb, ?_⟩) hk)
  show codeAny _ _ (.expr body (envX qual scope s.heap.objs.size f (.ref c') cl)) _ _
  have hk₁ : ∀ b o, s.heap.get? b = some o → h₁.get? b = some o := fun b o e => hsb.extBut b o (Nat.ne_of_lt (Heap.lt_size e)) (Heap.get?_push_of_some _ e)
  refine kla_codeExpr (wpAny_mono (h s.heap s.heap.objs.size h₁ _ rfl (Nat.le_add_right _ _) ⟨hns, hk₁, Nat.le_refl _⟩ News.nil BG (X₀.keeps F.keep) (T.keeps F.keep)) (fun v s' hl => ?_) fun _ _ x => x.elim)
  obtain ⟨L', m', F', hq⟩ := hl
  exact hq F'.keep
end
end
section
def giveF (i : Nat) : List Nat → List Int × Int → Option (List Int × Int)
  | [], st => some st
  | c :: r, (w, T) => if w.getD c 0 = 0 then none else giveF i r (w.set c (w.getD c 0 - 1), Builtin.bitOr T (1 * 2 ^ (5 * (i : Int) + (c : Int)).toNat))
def natsOf (w : List Int) : List Nat := w.map Int.toNat
/-- the table and what is left of the wishes after i rows; none: the program gives None -/
def galeF (rows : List Int) (side : Nat) (w0 : List Int) : Nat → Option (List Int × Int)
  | 0 => some (w0, 0)
  | i + 1 => (galeF rows side w0 i).bind fun st => giveF i ((ordK side (cmp5 (natsOf st.1)) 5).take (rows.getD i 0).toNat) st
def Five (w : List Int) : Prop := w.length = 5 ∧ ∀ x ∈ w, 0 ≤ x ∧ x ≤ 5
def gqual : Str := Str.ofString "_law_gale.<locals>.<lambda>"
theorem newsSub {h₀ h : Heap} {L : Addr} {news news' : List (Addr × Obj)} (N : News h₀ L h news) (hs : ∀ q ∈ news', q ∈ news) : News h₀ L h news' := fun q hq => N q (hs q hq)
theorem newsHead {h₀ h : Heap} {L a : Addr} {o : Obj} {r : List (Addr × Obj)} (_ : News h₀ L h ((a, o) :: r)) : ∃ x : Addr, x = a := ⟨a, rfl⟩
theorem own_ge {B a : Addr} (h : B ≤ a ∨ a ∈ ([] : List Addr)) : @LE.le Nat _ B a := h.elim id fun q => by cases q
theorem mem_r {α : Type} {a : α} {l r : List α} (h : a ∈ r) : a ∈ l ++ r := List.mem_append_right _ h
theorem mem_l {α : Type} {a : α} {l r : List α} (h : a ∈ l) : a ∈ l ++ r := List.mem_append_left _ h
theorem mc {α : Type} {q a : α} {l : List α} (h : q ∈ a :: l) : q = a ∨ q ∈ l := List.mem_cons.mp h
theorem mc1 {α : Type} {q a : α} (h : q ∈ [a]) : q = a := List.mem_singleton.mp h
theorem mem_at {α : Type} {q : α} {l : List α} (i : Nat) (h : l[i]? = some q) : q ∈ l := List.mem_of_getElem? h
theorem leN {a b : Addr} (h : a ≤ b) : @LE.le Nat _ a b := h
theorem rec_at {h h' : Heap} {c : Addr} {q : Str} (x : h.CodeRec (.ref c) q) (e : ∀ o, h.get? c = some o → h'.get? c = some o) : h'.CodeRec (.ref c) q := x.at e
theorem newsHead2 {h₀ h : Heap} {L a : Addr} {o : Obj} {r : List (Addr × Obj)} (_ : News h₀ L h ((a, o) :: r)) : ∃ (x : Addr) (y : Obj), x = a ∧ y = o := ⟨a, o, rfl, rfl⟩
/-- what the lambdas of the Gale text read -/
def GKey (f9 c9 cell D : Addr) (oF oC oD : Obj) (h : Heap) : Prop := h.get? f9 = some oF ∧ h.CodeRec (.ref c9) gqual ∧ h.get? cell = some oC ∧ h.get? D = some oD
theorem GKey.mono {f9 c9 cell D : Addr} {oF oC oD : Obj} (h h' : Heap) (k : ∀ b, (b = f9 ∨ b = c9 ∨ b = cell ∨ b = D) → ∀ o, h.get? b = some o → h'.get? b = some o) (x : GKey f9 c9 cell D oF oC oD h) : GKey f9 c9 cell D oF oC oD h' :=
  ⟨k _ (.inl rfl) _ x.1, x.2.1.at (k _ (.inr (.inl rfl))), k _ (.inr (.inr (.inl rfl))) _ x.2.2.1, k _ (.inr (.inr (.inr rfl))) _ x.2.2.2⟩
end
section
theorem nats_getD {ln : List Int} (h : Five ln) (i : Nat) : ((wat (natsOf ln) i : Nat) : Int) = ln.getD i 0 := by
  unfold wat natsOf
  by_cases hi : i < ln.length
  · have e1 : (ln.map Int.toNat).getD i 0 = (ln[i]).toNat := by simp [List.getD, hi]
    have e2 : ln.getD i 0 = ln[i] := by simp [List.getD, hi]
    rw [e1, e2]
    have := (h.2 ln[i] (List.getElem_mem hi)).1
    (first | lia | omega)
  · simp [List.getD, hi]
theorem cmp_five {ln : List Int} (h : Five ln) {i j : Nat} (hi : i < 5) (hj : j < 5) : cmp5 (natsOf ln) i j = decide (ln.getD i 0 < ln.getD j 0) := by
  unfold cmp5
  have a := nats_getD h i
  have b := nats_getD h j
  simp only [hi, hj, decide_true, Bool.true_and]
  by_cases e : wat (natsOf ln) i < wat (natsOf ln) j
  · rw [decide_eq_true e]; exact (decide_eq_true (by (first | lia | omega))).symm
  · rw [decide_eq_false e]; exact (decide_eq_false (by (first | lia | omega))).symm
theorem insAt_mem {side : Nat} {c : Nat → Nat → Bool} {x y : Nat} {ys : List Nat} (h : y ∈ insAt side c x ys) : y = x ∨ y ∈ ys := by
  unfold insAt at h
  rcases List.mem_append.mp h with h | h
  · exact .inr ((List.takeWhile_sublist _).subset h)
  · rcases List.mem_cons.mp h with h | h
    · exact .inl h
    · exact .inr ((List.dropWhile_sublist _).subset h)
theorem ordK_lt (side : Nat) (c : Nat → Nat → Bool) : ∀ k, ∀ y ∈ ordK side c k, y < k
  | 0, _, h => by cases h
  | k + 1, y, h => by
    rcases insAt_mem (show y ∈ insAt side c k (ordK side c k) from h) with rfl | h
    · (first | lia | omega)
    · have := ordK_lt side c k y h; (first | lia | omega)
theorem insAt_length (side : Nat) (c : Nat → Nat → Bool) (x : Nat) (ys : List Nat) : (insAt side c x ys).length = ys.length + 1 := by
  unfold insAt
  have := congrArg List.length (List.takeWhile_append_dropWhile (p := insQ side c x) (l := ys))
  simp only [List.length_append, List.length_cons] at this ⊢
  (first | lia | omega)
theorem ordK_length (side : Nat) (c : Nat → Nat → Bool) : ∀ k, (ordK side c k).length = k
  | 0 => rfl
  | k + 1 => by rw [ordK, insAt_length, ordK_length side c k]
theorem desc_get {c : Nat → Nat → Bool} : ∀ {ys : List Nat}, descB c ys = true → ∀ i j, i < j → j < ys.length → c (ys.getD i 0) (ys.getD j 0) = false
  | [], _, _, _, _, h => by simp at h
  | x :: r, h, i, j, hij, hj => by
    simp only [descB, Bool.and_eq_true, List.all_eq_true, Bool.not_eq_true'] at h
    cases j with
    | zero => (first | lia | omega)
    | succ j =>
      cases i with
      | zero =>
        have hj' : j < r.length := by simpa using hj
        have := h.1 r[j] (List.getElem_mem hj')
        simpa [List.getD, hj'] using this
      | succ i =>
        have := desc_get h.2 i j (by (first | lia | omega)) (by simpa using hj)
        simpa using this
theorem ordK_desc {side : Nat} (hs : side < 2) (w : List Nat) {k : Nat} (hk : k < 6) : descB (cmp5 w) (ordK side (cmp5 w) k) = true := by
  have h := chk_any side hs w
  simp only [chk, Bool.and_eq_true, List.all_eq_true] at h
  exact h.1.1.1.2 k (List.mem_range.mpr hk)
def castL (ys : List Nat) : List Int := ys.map fun (x : Nat) => (x : Int)
theorem cast_getD (ys : List Nat) (i : Nat) : (castL ys).getD i 0 = ((ys.getD i 0 : Nat) : Int) := by
  unfold castL
  by_cases h : i < ys.length
  · simp [List.getD, h]
  · simp [List.getD, h]
theorem getD_lt {ys : List Nat} {b : Nat} (h : ∀ y ∈ ys, y < b) (hb : 0 < b) (i : Nat) : ys.getD i 0 < b := by
  by_cases hi : i < ys.length
  · have := h ys[i] (List.getElem_mem hi)
    simpa [List.getD, hi] using this
  · simp [List.getD, hi, hb]
section
variable {ln : List Int} (h5 : Five ln) {k : Nat} (hk : k < 5)
include h5 hk
/-- the lambda's key on column y against column k's, as insort_right asks it -/
theorem ins_right (i : Nat) : (!decide (-(ln.getD ((k : Int)).toNat 0) < -(ln.getD ((castL (ordK 0 (cmp5 (natsOf ln)) k)).getD i 0).toNat 0))) = insQ 0 (cmp5 (natsOf ln)) k ((ordK 0 (cmp5 (natsOf ln)) k).getD i 0) := by
  have hy := getD_lt (ordK_lt 0 (cmp5 (natsOf ln)) k)
  rw [cast_getD]
  unfold insQ
  rw [if_pos rfl]
  by_cases hk0 : 0 < k
  · have := hy hk0 i
    rw [cmp_five h5 (by (first | lia | omega)) hk]
    congr 1
    simp only [Int.toNat_natCast]
    by_cases e : ln.getD ((ordK 0 (cmp5 (natsOf ln)) k).getD i 0) 0 < ln.getD k 0
    · rw [decide_eq_true e]; exact decide_eq_true (by (first | lia | omega))
    · rw [decide_eq_false e]; exact decide_eq_false (by (first | lia | omega))
  · have e0 : k = 0 := by (first | lia | omega)
    subst e0
    have : (ordK 0 (cmp5 (natsOf ln)) 0).getD i 0 = 0 := by simp [ordK]
    rw [this, cmp_five h5 (by (first | lia | omega)) (by (first | lia | omega))]
    simp
theorem ins_left (i : Nat) : (decide (-(ln.getD ((castL (ordK 1 (cmp5 (natsOf ln)) k)).getD i 0).toNat 0) < -(ln.getD ((k : Int)).toNat 0))) = insQ 1 (cmp5 (natsOf ln)) k ((ordK 1 (cmp5 (natsOf ln)) k).getD i 0) := by
  have hy := getD_lt (ordK_lt 1 (cmp5 (natsOf ln)) k)
  rw [cast_getD]
  unfold insQ
  rw [if_neg (by decide)]
  by_cases hk0 : 0 < k
  · have := hy hk0 i
    rw [cmp_five h5 hk (by (first | lia | omega))]
    simp only [Int.toNat_natCast]
    by_cases e : ln.getD k 0 < ln.getD ((ordK 1 (cmp5 (natsOf ln)) k).getD i 0) 0
    · rw [decide_eq_true e]; exact decide_eq_true (by (first | lia | omega))
    · rw [decide_eq_false e]; exact decide_eq_false (by (first | lia | omega))
  · have e0 : k = 0 := by (first | lia | omega)
    subst e0
    have : (ordK 1 (cmp5 (natsOf ln)) 0).getD i 0 = 0 := by simp [ordK]
    rw [this, cmp_five h5 (by (first | lia | omega)) (by (first | lia | omega))]
    simp
theorem insQ_down {side : Nat} (hs : side < 2) : Down (fun i => insQ side (cmp5 (natsOf ln)) k ((ordK side (cmp5 (natsOf ln)) k).getD i 0)) (ordK side (cmp5 (natsOf ln)) k).length := by
  intro i j hij hj hq
  dsimp only at hq ⊢
  have hlen := ordK_length side (cmp5 (natsOf ln)) k
  have hy := getD_lt (ordK_lt side (cmp5 (natsOf ln)) k) (by (first | lia | omega))
  have a := hy i
  have b := hy j
  rcases Nat.lt_or_eq_of_le hij with hij | rfl
  · have d := desc_get (ordK_desc hs (natsOf ln) (k := k) (by (first | lia | omega))) i j hij hj
    rw [cmp_five h5 (by (first | lia | omega)) (by (first | lia | omega))] at d
    unfold insQ at hq ⊢
    split
    · rename_i h0; subst h0
      rw [if_pos rfl, cmp_five h5 (by (first | lia | omega)) hk] at hq
      rw [cmp_five h5 (by (first | lia | omega)) hk]
      simp at hq d ⊢; (first | lia | omega)
    · rename_i h0
      rw [if_neg h0, cmp_five h5 hk (by (first | lia | omega))] at hq
      rw [cmp_five h5 hk (by (first | lia | omega))]
      simp at hq d ⊢; (first | lia | omega)
  · exact hq
end
theorem cut_while {q : Nat → Bool} : ∀ {ys : List Nat} {r : Nat}, Cut (fun i => q (ys.getD i 0)) ys.length r → ys.takeWhile q = ys.take r ∧ ys.dropWhile q = ys.drop r
  | [], r, _ => by simp
  | y :: ys, 0, h => by
    have := h.2.2 0 (Nat.le_refl _) (by simp)
    simp at this
    simp [List.takeWhile_cons, List.dropWhile_cons, this]
  | y :: ys, r + 1, h => by
    have h0 := h.2.1 0 (by (first | lia | omega))
    simp at h0
    have ih := cut_while (q := q) (ys := ys) (r := r) ⟨by have := h.1; simp at this; (first | lia | omega), fun i hi => by have := h.2.1 (i + 1) (by (first | lia | omega)); simpa using this, fun i h1 h2 => by have := h.2.2 (i + 1) (by (first | lia | omega)) (by simp; (first | lia | omega)); simpa using this⟩
    simp [List.takeWhile_cons, List.dropWhile_cons, h0, ih.1, ih.2]
theorem ints_ins {vs : List Value} {ns : List Int} {x : Int} {t : Tok} (h : IntsAre vs ns) : ∀ r, IntsAre (vs.take r ++ .int x t :: vs.drop r) (ns.take r ++ x :: ns.drop r) := by
  induction h with
  | nil => intro r; simpa using IntsAre.cons x t .nil
  | cons i u h ih =>
    intro r
    cases r with
    | zero => exact .cons x t (.cons i u h)
    | succ r => exact .cons i u (ih r)
theorem ord_next {side : Nat} {c : Nat → Nat → Bool} {k r : Nat} {vs : List Value} {t : Tok} (hi : IntsAre vs (castL (ordK side c k))) (hc : Cut (fun i => insQ side c k ((ordK side c k).getD i 0)) (ordK side c k).length r) :
    IntsAre (vs.take r ++ .int (k : Int) t :: vs.drop r) (castL (ordK side c (k + 1))) := by
  obtain ⟨e1, e2⟩ := cut_while hc
  have e : castL (ordK side c (k + 1)) = (castL (ordK side c k)).take r ++ (k : Int) :: (castL (ordK side c k)).drop r := by
    show castL (insAt side c k (ordK side c k)) = _
    unfold insAt castL
    rw [e1, e2]
    simp
  rw [e]
  exact ints_ins hi r
def srcL (side : Nat) : List Int := if side = 0 then [0, 1, 2, 3, 4] else [4, 3, 2, 1, 0]
theorem src_getD {side : Nat} (hs : side < 2) {i : Nat} (hi : i < 5) : (srcL side).getD i 0 = ((sig side i : Nat) : Int) := by
  rcases side with _ | _ | s
  · rcases i with _ | _ | _ | _ | _ | i <;> first | rfl | (first | lia | omega)
  · rcases i with _ | _ | _ | _ | _ | i <;> first | rfl | (first | lia | omega)
  · (first | lia | omega)
theorem src_len {side : Nat} (hs : side < 2) : (srcL side).length = 5 := by
  rcases side with _ | _ | s <;> first | rfl | (first | lia | omega)
theorem sig_lt (side : Nat) {i : Nat} (hi : i < 5) : sig side i < 5 := by unfold sig; split <;> (first | lia | omega)
theorem map_getD {α β : Type} (f : α → β) (l : List α) (i : Nat) (d : α) (d' : β) (h : i < l.length) : (l.map f).getD i d' = f (l.getD i d) := by simp [List.getD, h]
theorem sort_cmp {side : Nat} (hs : side < 2) {ln : List Int} (h5 : Five ln) (i j : Nat) (hi : i < 5) (hj : j < 5) : cmp5 (natsOf ln) (sig side j) (sig side i) = decide (((srcL side).map fun c => -(ln.getD c.toNat 0)).getD i 0 < ((srcL side).map fun c => -(ln.getD c.toNat 0)).getD j 0) := by
  have hl := src_len hs
  rw [map_getD _ _ i 0 0 (by (first | lia | omega)), map_getD _ _ j 0 0 (by (first | lia | omega)), src_getD hs hi, src_getD hs hj, cmp_five h5 (sig_lt side hj) (sig_lt side hi)]
  simp only [Int.toNat_natCast]
  by_cases e : ln.getD (sig side j) 0 < ln.getD (sig side i) 0
  · rw [decide_eq_true e]; exact (decide_eq_true (by (first | lia | omega))).symm
  · rw [decide_eq_false e]; exact (decide_eq_false (by (first | lia | omega))).symm
theorem ints_pick {vs : List Value} {ns : List Int} (hi : IntsAre vs ns) : ∀ {p : List Nat}, (∀ i ∈ p, i < vs.length) → IntsAre (p.map fun i => vs.getD i Value.none) (p.map fun i => ns.getD i 0)
  | [], _ => .nil
  | i :: p, h => by
    obtain ⟨t, e⟩ := ints_at hi (h i (.head _))
    show IntsAre (vs.getD i Value.none :: _) (ns.getD i 0 :: _)
    rw [e]
    exact .cons _ _ (ints_pick hi fun j hj => h j (.tail _ hj))
theorem sort_out {side : Nat} (hs : side < 2) {ln : List Int} {vs : List Value} (hi : IntsAre vs (srcL side)) : IntsAre ((permK fun i j => cmp5 (natsOf ln) (sig side j) (sig side i)).map fun i => vs.getD i Value.none) (castL (ordK side (cmp5 (natsOf ln)) 5)) := by
  have h := chk_any side hs (natsOf ln)
  simp only [chk, Bool.and_eq_true, List.all_eq_true, decide_eq_true_eq] at h
  have hlt := h.2
  have he : (sortC side (cmp5 (natsOf ln))).map (sig side) = ordK side (cmp5 (natsOf ln)) 5 := by simpa using h.1.1.1.1
  have hl := hi.length
  rw [src_len hs] at hl
  have := ints_pick hi (p := sortC side (cmp5 (natsOf ln))) fun i q => by have := hlt i q; (first | lia | omega)
  refine cast ?_ this
  congr 1
  rw [← he]
  unfold castL
  rw [List.map_map]
  exact List.map_congr_left fun i q => src_getD hs (hlt i q)
theorem giveF_snoc (i c : Nat) : ∀ (l : List Nat) (st : List Int × Int), giveF i (l ++ [c]) st = (giveF i l st).bind (giveF i [c])
  | [], st => rfl
  | a :: l, (w, T) => by
    show giveF i (a :: (l ++ [c])) (w, T) = (giveF i (a :: l) (w, T)).bind _
    unfold giveF
    split
    · rfl
    · exact giveF_snoc i c l _
theorem giveF_none {i c : Nat} {w : List Int} {T : Int} {rest : List Nat} (h0 : w.getD c 0 = 0) : ∀ (l : List Nat) (st : List Int × Int), giveF i l st = some (w, T) → giveF i (l ++ c :: rest) st = none
  | [], st, h => by
    cases h
    show giveF i (c :: rest) (w, T) = none
    unfold giveF
    rw [if_pos h0]
  | a :: l, (w', T'), h => by
    show giveF i (a :: (l ++ c :: rest)) (w', T') = none
    unfold giveF at h ⊢
    split at h
    · cases h
    · rename_i h1; rw [if_neg h1]; exact giveF_none h0 l _ h
theorem giveF_one {i c : Nat} {w : List Int} {T : Int} (h0 : w.getD c 0 ≠ 0) : giveF i [c] (w, T) = some (w.set c (w.getD c 0 - 1), Builtin.bitOr T (1 * 2 ^ (5 * (i : Int) + (c : Int)).toNat)) := by
  unfold giveF
  rw [if_neg h0]
  rfl
theorem galeF_none {rows : List Int} {side : Nat} {w0 : List Int} {k : Nat} (h : galeF rows side w0 k = none) : ∀ n, k ≤ n → galeF rows side w0 n = none
  | 0, hn => by have : k = 0 := by (first | lia | omega)
                subst this; exact h
  | n + 1, hn => by
    by_cases e : k = n + 1
    · subst e; exact h
    · show (galeF rows side w0 n).bind _ = none
      rw [galeF_none h n (by (first | lia | omega))]; rfl
theorem five_set {w : List Int} {c : Nat} (h : Five w) (h0 : w.getD c 0 ≠ 0) : Five (w.set c (w.getD c 0 - 1)) := by
  refine ⟨by rw [List.length_set]; exact h.1, fun x hx => ?_⟩
  have hc : c < w.length := by
    apply Classical.byContradiction
    intro hn
    exact h0 (by simp [List.getD, hn])
  have e : w.getD c 0 = w[c] := by simp [List.getD, hc]
  have := h.2 w[c] (List.getElem_mem hc)
  rcases List.mem_or_eq_of_mem_set hx with hx | rfl
  · exact h.2 x hx
  · rw [e] at h0 ⊢; (first | lia | omega)
theorem tab_close {h₀ h : Heap} {L : Addr} {m : Str → Option Value} {news ex : List (Addr × Obj)} {qual : Str} {ps : Array Value} (F : Fr h₀ L h m) (N : News h₀ L h news) (TB : TabL h₀ qual ps ex) (hs : ∀ q ∈ ex, q ∈ news) : TabL h qual ps [] :=
  ⟨TB.1, (fun q hq => by cases hq), fun pos cv e => by
    obtain ⟨c, rfl, hc⟩ := TB.2.2 pos cv e
    exact ⟨c, rfl, .inl (rec_of F N TB hc hs)⟩⟩
theorem cast_take (l : List Nat) (r : Nat) : (castL l).take r = castL (l.take r) := by unfold castL; rw [List.map_take]
theorem ints_set {vs : List Value} {ns : List Int} (hi : IntsAre vs ns) (k : Nat) (x : Int) (t : Tok) : IntsAre (vs.set k (.int x t)) (ns.set k x) := by
  induction hi generalizing k with
  | nil => exact .nil
  | cons i u h ih =>
    cases k with
    | zero => exact .cons x t h
    | succ k => exact .cons i u (ih k)
theorem tri_no {ps : List Value} (h : TriplesOk ps) {q : Str} {t : Tok} : ps[1]? ≠ some (.str q t) := by
  unfold TriplesOk at h
  split at h
  · simp
  · simp
  · exact h.elim
theorem tab_hide {h g : Heap} {P : Addr} {qual : Str} {ps : Array Value} (TB : TabL h qual ps []) (hP : h.get? P = some (tabObj ps)) (hg : ∀ b o, b ∉ [(P, tabObj ps)].map (·.1) → h.get? b = some o → g.get? b = some o) : TabL g qual ps [] := by
  refine ⟨TB.1, (fun q hq => by cases hq), fun pos cv e => ?_⟩
  obtain ⟨c, rfl, hc⟩ := TB.2.2 pos cv e
  refine ⟨c, rfl, hc.elim (fun x => .inl ?_) fun ⟨oc, x⟩ => by cases x⟩
  obtain ⟨c2, o, vs, t, e1, e2, e3, e4⟩ := x
  cases e1
  refine ⟨c, o, vs, t, rfl, hg _ _ (fun q => ?_) e2, e3, e4⟩
  simp only [List.map_cons, List.map_nil, List.mem_singleton] at q
  rw [q, hP] at e2
  cases e2
  cases e3
  exact tri_no TB.1 (by simpa using e4)
def NotRec (o : Obj) : Prop := ¬ ∃ (vs : Array Value) (q : Str) (t : Tok), o.data = .fields vs ∧ vs[1]? = some (.str q t)
theorem notRec_tab {qual : Str} {ps : Array Value} {h : Heap} {ex : List (Addr × Obj)} (TB : TabL h qual ps ex) : NotRec (tabObj ps) := fun ⟨vs, q, t, e1, e2⟩ => by
  cases e1
  exact tri_no TB.1 (by simpa using e2)
theorem notRec_list (a : Array Value) (n : Nat) : NotRec (listOf a n) := fun ⟨vs, q, t, e1, e2⟩ => by cases e1
theorem rec_hide {h g : Heap} {ws : List (Addr × Obj)} {cv : Value} {qual : Str} (x : h.CodeRec cv qual) (hP : ∀ q ∈ ws, h.get? q.1 = some q.2) (hn : ∀ q ∈ ws, NotRec q.2) (hg : ∀ b o, b ∉ ws.map (·.1) → h.get? b = some o → g.get? b = some o) : g.CodeRec cv qual := by
  obtain ⟨c2, o, vs, t, e1, e2, e3, e4⟩ := x
  refine ⟨c2, o, vs, t, e1, hg _ _ (fun q => ?_) e2, e3, e4⟩
  obtain ⟨p, hp, rfl⟩ := List.mem_map.mp q
  rw [hP p hp] at e2
  cases e2
  exact hn p hp ⟨vs, qual, t, e3, e4⟩
theorem tab_hide2 {h g : Heap} {ws : List (Addr × Obj)} {qual : Str} {ps : Array Value} (TB : TabL h qual ps []) (hP : ∀ q ∈ ws, h.get? q.1 = some q.2) (hn : ∀ q ∈ ws, NotRec q.2) (hg : ∀ b o, b ∉ ws.map (·.1) → h.get? b = some o → g.get? b = some o) : TabL g qual ps [] := by
  refine ⟨TB.1, (fun q hq => by cases hq), fun pos cv e => ?_⟩
  obtain ⟨c, rfl, hc⟩ := TB.2.2 pos cv e
  exact ⟨c, rfl, hc.elim (fun x => .inl (rec_hide x hP hn hg)) fun ⟨oc, x⟩ => by cases x⟩
theorem tab_up {h g : Heap} {qual : Str} {ps : Array Value} (TB : TabL h qual ps []) (k : ∀ b o, h.get? b = some o → g.get? b = some o) : TabL g qual ps [] := tab_hide2 (ws := []) TB (fun q hq => by cases hq) (fun q hq => by cases hq) fun b o _ e => k b o e
theorem list_hide {h g : Heap} {ws : List (Addr × Obj)} {l : Addr} {a : Array Value} (x : h.IsList l a) (hl : l ∉ ws.map (·.1)) (hg : ∀ b o, b ∉ ws.map (·.1) → h.get? b = some o → g.get? b = some o) : g.IsList l a := x.at fun o e => hg _ _ hl e
end
local macro_rules | `(tactic| walk_at "exec For Name Call cons nil") => `(tactic| (k_here; k_dflt (refine for_rule ?_)))
local macro_rules | `(tactic| walk_at "exec For") => `(tactic| (refine for_rule ?_))
local macro_rules | `(tactic| walk_at $s:str) => if ("|exec While|KswEnd|FEnd|".splitOn ("|" ++ s.getString ++ "|")).length > 1 then `(tactic| (refine halt ?_)) else Lean.Macro.throwUnsupported
local macro_rules | `(tactic| walk_at "FPost") => `(tactic| (dsimp only [FPost]))
local macro_rules | `(tactic| walk_at "execs cons") => `(tactic| (k_here; with_reducible refine tok_gen ?_; intro tk9 htk9; (try dsimp only at htk9); (try k_fold)))
local macro_rules | `(tactic| walk_at "execs nil") => `(tactic| (k_here; with_reducible refine tok_gen ?_; intro tk9 htk9; (try dsimp only at htk9); (try k_fold)))
section
theorem load_L1 : (fun (_ : OpenLaw) (_ : Params → Frag) => True) PySem.Challenge.rw_wb0054_01 hd54.heap_1 := by
  w_top off
  k_fill
  trivial
theorem and__p (x y : Int) (tx ty : Tok) : PSpec hd54.heap_1 1 65 [.int x tx, .int y ty] [] (fun _ _ => True) (fun v _ lo hi => IntIn (Builtin.bitAnd x y) v lo hi) := by
  unfold PSpec; intro prog w p loose mean mg mb dp un gd cn cs a ccd cl outer A₀ base h₀ L m s Q E B F X T hk hd9 hu9 hpre hret; refine wpAny_both ?_
  k_dflt (refine' enterP (binds := [(Str.ofString "a", .int x tx), (Str.ofString "b", .int y ty)]) ?k1 ?k2 ?k3 ?k5 ?kA ?kF ?kK ?k6 ?k7 ?k8 ?k9 ?kB ?_ ?c2 ?c3 ?c4 ?c5; (case kA => exact rfl); (case kF => exact rfl); (case kK => assumption); (case k1 => k_asm); (case k2 => k_asm); (case k3 => k_asm); (case k5 => k_asm); (case k6 => k_is); (case k7 => k_is); (case k8 => ktr_room); (case k9 => exact BindsTo.of_eq rfl); (case c5 => decide); (case kB => exact locs rfl); (case c2 => exact rfl); (case c3 => exact rfl); (case c4 => exact rfl); k_whole; intro g' L' h' tk' eg' ht' F' N' B' X' T'; (try dsimp only); (try k_lift B'); (try k_fold); refine let_fold3 (P := fun (M : Model) (A : Around) (en : Env) => wpAny M A (execs _ en) _ _ _) _ _ _ ?_; intro M9 A9 en9; show wpAny M9 A9 (execs _ en9) _ _ _)
  k_steps

  (try dsimp only)
  exact PLeave.intro (by assumption) fun kp ht hz => hret _ _ _ (eg' ▸ kp) ht hz (by dsimp only; exact ⟨_, rfl, by (first | (law_clear; lia) | lia | omega), by (first | (law_clear; lia) | lia | omega)⟩)
theorem inv_p (x : Int) (tx : Tok) : PSpec hd54.heap_1 1 72 [.int x tx] [] (fun _ _ => True) (fun v _ lo hi => IntIn (Builtin.bitNot x) v lo hi) := by
  unfold PSpec; intro prog w p loose mean mg mb dp un gd cn cs a ccd cl outer A₀ base h₀ L m s Q E B F X T hk hd9 hu9 hpre hret; refine wpAny_both ?_
  k_dflt (refine' enterP (binds := [(Str.ofString "a", .int x tx)]) ?k1 ?k2 ?k3 ?k5 ?kA ?kF ?kK ?k6 ?k7 ?k8 ?k9 ?kB ?_ ?c2 ?c3 ?c4 ?c5; (case kA => exact rfl); (case kF => exact rfl); (case kK => assumption); (case k1 => k_asm); (case k2 => k_asm); (case k3 => k_asm); (case k5 => k_asm); (case k6 => k_is); (case k7 => k_is); (case k8 => ktr_room); (case k9 => exact BindsTo.of_eq rfl); (case c5 => decide); (case kB => exact locs rfl); (case c2 => exact rfl); (case c3 => exact rfl); (case c4 => exact rfl); k_whole; intro g' L' h' tk' eg' ht' F' N' B' X' T'; (try dsimp only); (try k_lift B'); (try k_fold); refine let_fold3 (P := fun (M : Model) (A : Around) (en : Env) => wpAny M A (execs _ en) _ _ _) _ _ _ ?_; intro M9 A9 en9; show wpAny M9 A9 (execs _ en9) _ _ _)
  k_steps

  (try dsimp only)
  exact PLeave.intro (by assumption) fun kp ht hz => hret _ _ _ (eg' ▸ kp) ht hz (by dsimp only; exact ⟨_, rfl, by (first | (law_clear; lia) | lia | omega), by (first | (law_clear; lia) | lia | omega)⟩)
theorem lshift_p (x y : Int) (tx ty : Tok) (hx0 : 0 ≤ x) (hx : x < 4294967296) (hy0 : 0 ≤ y) (hy : y < 64) : PSpec hd54.heap_1 1 79 [.int x tx, .int y ty] [] (fun _ _ => True) (fun v _ lo hi => IntIn (x * 2 ^ y.toNat) v lo hi) := by
  unfold PSpec; intro prog w p loose mean mg mb dp un gd cn cs a ccd cl outer A₀ base h₀ L m s Q E B F X T hk hd9 hu9 hpre hret; refine wpAny_both ?_
  k_dflt (refine' enterP (binds := [(Str.ofString "a", .int x tx), (Str.ofString "b", .int y ty)]) ?k1 ?k2 ?k3 ?k5 ?kA ?kF ?kK ?k6 ?k7 ?k8 ?k9 ?kB ?_ ?c2 ?c3 ?c4 ?c5; (case kA => exact rfl); (case kF => exact rfl); (case kK => assumption); (case k1 => k_asm); (case k2 => k_asm); (case k3 => k_asm); (case k5 => k_asm); (case k6 => k_is); (case k7 => k_is); (case k8 => ktr_room); (case k9 => exact BindsTo.of_eq rfl); (case c5 => decide); (case kB => exact locs rfl); (case c2 => exact rfl); (case c3 => exact rfl); (case c4 => exact rfl); k_whole; intro g' L' h' tk' eg' ht' F' N' B' X' T'; (try dsimp only); (try k_lift B'); (try k_fold); refine let_fold3 (P := fun (M : Model) (A : Around) (en : Env) => wpAny M A (execs _ en) _ _ _) _ _ _ ?_; intro M9 A9 en9; show wpAny M9 A9 (execs _ en9) _ _ _)
  k_steps

  (try dsimp only)
  exact PLeave.intro (by assumption) fun kp ht hz => hret _ _ _ (eg' ▸ kp) ht hz (by dsimp only; exact ⟨_, rfl, by (first | (law_clear; lia) | lia | omega), by (first | (law_clear; lia) | lia | omega)⟩)
theorem mod_p (x y : Int) (tx ty : Tok) (hy0 : 0 < y) : PSpec hd54.heap_1 1 86 [.int x tx, .int y ty] [] (fun _ _ => True) (fun v _ lo hi => IntIn (x.fmod y) v lo hi) := by
  unfold PSpec; intro prog w p loose mean mg mb dp un gd cn cs a ccd cl outer A₀ base h₀ L m s Q E B F X T hk hd9 hu9 hpre hret; refine wpAny_both ?_
  k_dflt (refine' enterP (binds := [(Str.ofString "a", .int x tx), (Str.ofString "b", .int y ty)]) ?k1 ?k2 ?k3 ?k5 ?kA ?kF ?kK ?k6 ?k7 ?k8 ?k9 ?kB ?_ ?c2 ?c3 ?c4 ?c5; (case kA => exact rfl); (case kF => exact rfl); (case kK => assumption); (case k1 => k_asm); (case k2 => k_asm); (case k3 => k_asm); (case k5 => k_asm); (case k6 => k_is); (case k7 => k_is); (case k8 => ktr_room); (case k9 => exact BindsTo.of_eq rfl); (case c5 => decide); (case kB => exact locs rfl); (case c2 => exact rfl); (case c3 => exact rfl); (case c4 => exact rfl); k_whole; intro g' L' h' tk' eg' ht' F' N' B' X' T'; (try dsimp only); (try k_lift B'); (try k_fold); refine let_fold3 (P := fun (M : Model) (A : Around) (en : Env) => wpAny M A (execs _ en) _ _ _) _ _ _ ?_; intro M9 A9 en9; show wpAny M9 A9 (execs _ en9) _ _ _)
  k_steps

  (try dsimp only)
  exact PLeave.intro (by assumption) fun kp ht hz => hret _ _ _ (eg' ▸ kp) ht hz (by dsimp only; exact ⟨_, rfl, by (first | (law_clear; lia) | lia | omega), by (first | (law_clear; lia) | lia | omega)⟩)
theorem neg_p (x : Int) (tx : Tok) : PSpec hd54.heap_1 1 93 [.int x tx] [] (fun _ _ => True) (fun v _ lo hi => IntIn (-x) v lo hi) := by
  unfold PSpec; intro prog w p loose mean mg mb dp un gd cn cs a ccd cl outer A₀ base h₀ L m s Q E B F X T hk hd9 hu9 hpre hret; refine wpAny_both ?_
  k_dflt (refine' enterP (binds := [(Str.ofString "a", .int x tx)]) ?k1 ?k2 ?k3 ?k5 ?kA ?kF ?kK ?k6 ?k7 ?k8 ?k9 ?kB ?_ ?c2 ?c3 ?c4 ?c5; (case kA => exact rfl); (case kF => exact rfl); (case kK => assumption); (case k1 => k_asm); (case k2 => k_asm); (case k3 => k_asm); (case k5 => k_asm); (case k6 => k_is); (case k7 => k_is); (case k8 => ktr_room); (case k9 => exact BindsTo.of_eq rfl); (case c5 => decide); (case kB => exact locs rfl); (case c2 => exact rfl); (case c3 => exact rfl); (case c4 => exact rfl); k_whole; intro g' L' h' tk' eg' ht' F' N' B' X' T'; (try dsimp only); (try k_lift B'); (try k_fold); refine let_fold3 (P := fun (M : Model) (A : Around) (en : Env) => wpAny M A (execs _ en) _ _ _) _ _ _ ?_; intro M9 A9 en9; show wpAny M9 A9 (execs _ en9) _ _ _)
  k_steps

  (try dsimp only)
  exact PLeave.intro (by assumption) fun kp ht hz => hret _ _ _ (eg' ▸ kp) ht hz (by dsimp only; exact ⟨_, rfl, by (first | (law_clear; lia) | lia | omega), by (first | (law_clear; lia) | lia | omega)⟩)
theorem or__p (x y : Int) (tx ty : Tok) : PSpec hd54.heap_1 1 100 [.int x tx, .int y ty] [] (fun _ _ => True) (fun v _ lo hi => IntIn (Builtin.bitOr x y) v lo hi) := by
  unfold PSpec; intro prog w p loose mean mg mb dp un gd cn cs a ccd cl outer A₀ base h₀ L m s Q E B F X T hk hd9 hu9 hpre hret; refine wpAny_both ?_
  k_dflt (refine' enterP (binds := [(Str.ofString "a", .int x tx), (Str.ofString "b", .int y ty)]) ?k1 ?k2 ?k3 ?k5 ?kA ?kF ?kK ?k6 ?k7 ?k8 ?k9 ?kB ?_ ?c2 ?c3 ?c4 ?c5; (case kA => exact rfl); (case kF => exact rfl); (case kK => assumption); (case k1 => k_asm); (case k2 => k_asm); (case k3 => k_asm); (case k5 => k_asm); (case k6 => k_is); (case k7 => k_is); (case k8 => ktr_room); (case k9 => exact BindsTo.of_eq rfl); (case c5 => decide); (case kB => exact locs rfl); (case c2 => exact rfl); (case c3 => exact rfl); (case c4 => exact rfl); k_whole; intro g' L' h' tk' eg' ht' F' N' B' X' T'; (try dsimp only); (try k_lift B'); (try k_fold); refine let_fold3 (P := fun (M : Model) (A : Around) (en : Env) => wpAny M A (execs _ en) _ _ _) _ _ _ ?_; intro M9 A9 en9; show wpAny M9 A9 (execs _ en9) _ _ _)
  k_steps

  (try dsimp only)
  exact PLeave.intro (by assumption) fun kp ht hz => hret _ _ _ (eg' ▸ kp) ht hz (by dsimp only; exact ⟨_, rfl, by (first | (law_clear; lia) | lia | omega), by (first | (law_clear; lia) | lia | omega)⟩)
theorem rshift_p (x y : Int) (tx ty : Tok) (hy0 : 0 ≤ y) (hy : y < 64) : PSpec hd54.heap_1 1 107 [.int x tx, .int y ty] [] (fun _ _ => True) (fun v _ lo hi => IntIn (x.fdiv (2 ^ y.toNat)) v lo hi) := by
  unfold PSpec; intro prog w p loose mean mg mb dp un gd cn cs a ccd cl outer A₀ base h₀ L m s Q E B F X T hk hd9 hu9 hpre hret; refine wpAny_both ?_
  k_dflt (refine' enterP (binds := [(Str.ofString "a", .int x tx), (Str.ofString "b", .int y ty)]) ?k1 ?k2 ?k3 ?k5 ?kA ?kF ?kK ?k6 ?k7 ?k8 ?k9 ?kB ?_ ?c2 ?c3 ?c4 ?c5; (case kA => exact rfl); (case kF => exact rfl); (case kK => assumption); (case k1 => k_asm); (case k2 => k_asm); (case k3 => k_asm); (case k5 => k_asm); (case k6 => k_is); (case k7 => k_is); (case k8 => ktr_room); (case k9 => exact BindsTo.of_eq rfl); (case c5 => decide); (case kB => exact locs rfl); (case c2 => exact rfl); (case c3 => exact rfl); (case c4 => exact rfl); k_whole; intro g' L' h' tk' eg' ht' F' N' B' X' T'; (try dsimp only); (try k_lift B'); (try k_fold); refine let_fold3 (P := fun (M : Model) (A : Around) (en : Env) => wpAny M A (execs _ en) _ _ _) _ _ _ ?_; intro M9 A9 en9; show wpAny M9 A9 (execs _ en9) _ _ _)
  k_steps

  (try dsimp only)
  exact PLeave.intro (by assumption) fun kp ht hz => hret _ _ _ (eg' ▸ kp) ht hz (by dsimp only; exact ⟨_, rfl, by (first | (law_clear; lia) | lia | omega), by (first | (law_clear; lia) | lia | omega)⟩)
theorem sub_p (x y : Int) (tx ty : Tok) : PSpec hd54.heap_1 1 114 [.int x tx, .int y ty] [] (fun _ _ => True) (fun v _ lo hi => IntIn (x - y) v lo hi) := by
  unfold PSpec; intro prog w p loose mean mg mb dp un gd cn cs a ccd cl outer A₀ base h₀ L m s Q E B F X T hk hd9 hu9 hpre hret; refine wpAny_both ?_
  k_dflt (refine' enterP (binds := [(Str.ofString "a", .int x tx), (Str.ofString "b", .int y ty)]) ?k1 ?k2 ?k3 ?k5 ?kA ?kF ?kK ?k6 ?k7 ?k8 ?k9 ?kB ?_ ?c2 ?c3 ?c4 ?c5; (case kA => exact rfl); (case kF => exact rfl); (case kK => assumption); (case k1 => k_asm); (case k2 => k_asm); (case k3 => k_asm); (case k5 => k_asm); (case k6 => k_is); (case k7 => k_is); (case k8 => ktr_room); (case k9 => exact BindsTo.of_eq rfl); (case c5 => decide); (case kB => exact locs rfl); (case c2 => exact rfl); (case c3 => exact rfl); (case c4 => exact rfl); k_whole; intro g' L' h' tk' eg' ht' F' N' B' X' T'; (try dsimp only); (try k_lift B'); (try k_fold); refine let_fold3 (P := fun (M : Model) (A : Around) (en : Env) => wpAny M A (execs _ en) _ _ _) _ _ _ ?_; intro M9 A9 en9; show wpAny M9 A9 (execs _ en9) _ _ _)
  k_steps

  (try dsimp only)
  exact PLeave.intro (by assumption) fun kp ht hz => hret _ _ _ (eg' ▸ kp) ht hz (by dsimp only; exact ⟨_, rfl, by (first | (law_clear; lia) | lia | omega), by (first | (law_clear; lia) | lia | omega)⟩)
theorem xor_p (x y : Int) (tx ty : Tok) : PSpec hd54.heap_1 1 121 [.int x tx, .int y ty] [] (fun _ _ => True) (fun v _ lo hi => IntIn (Builtin.bitXor x y) v lo hi) := by
  unfold PSpec; intro prog w p loose mean mg mb dp un gd cn cs a ccd cl outer A₀ base h₀ L m s Q E B F X T hk hd9 hu9 hpre hret; refine wpAny_both ?_
  k_dflt (refine' enterP (binds := [(Str.ofString "a", .int x tx), (Str.ofString "b", .int y ty)]) ?k1 ?k2 ?k3 ?k5 ?kA ?kF ?kK ?k6 ?k7 ?k8 ?k9 ?kB ?_ ?c2 ?c3 ?c4 ?c5; (case kA => exact rfl); (case kF => exact rfl); (case kK => assumption); (case k1 => k_asm); (case k2 => k_asm); (case k3 => k_asm); (case k5 => k_asm); (case k6 => k_is); (case k7 => k_is); (case k8 => ktr_room); (case k9 => exact BindsTo.of_eq rfl); (case c5 => decide); (case kB => exact locs rfl); (case c2 => exact rfl); (case c3 => exact rfl); (case c4 => exact rfl); k_whole; intro g' L' h' tk' eg' ht' F' N' B' X' T'; (try dsimp only); (try k_lift B'); (try k_fold); refine let_fold3 (P := fun (M : Model) (A : Around) (en : Env) => wpAny M A (execs _ en) _ _ _) _ _ _ ?_; intro M9 A9 en9; show wpAny M9 A9 (execs _ en9) _ _ _)
  k_steps

  (try dsimp only)
  exact PLeave.intro (by assumption) fun kp ht hz => hret _ _ _ (eg' ▸ kp) ht hz (by dsimp only; exact ⟨_, rfl, by (first | (law_clear; lia) | lia | omega), by (first | (law_clear; lia) | lia | omega)⟩)
end
section
theorem load_C3 : (fun (_ : OpenLaw) (_ : Params → Frag) => True) PySem.Challenge.rw_wb0054_01 hd54.heap_1 := by
  w_top off
  k_fill
  trivial
local macro_rules | `(tactic| walk_at "compareOp Is int int") => `(tactic| (k_here; refine is_int (by assumption) (by assumption) (by assumption) (booked_of (K := hd54.heap_1 _) (by k_in) (by k_is)) ?_; intro b9 hb9))
local macro_rules | `(tactic| walk_at "compareOp Is str str") => `(tactic| (k_here; refine is_str (by assumption) (by assumption) (by assumption) (booked_of (K := hd54.heap_1 _) (by k_in) (by k_is)) ?_; intro b9 hb9))
local macro_rules | `(tactic| walk_at "call type:enumerate") => `(tactic| (k_here; k_dflt (refine' call_enumerate_list ?k1 ?_; (case k1 => assumption); k_whole); intro h9 he9 hit9 hsz9 hk9))
theorem countOf_ints (l : Addr) (vs : List Value) (ns : List Int) (x : Int) (u : Nat) (hv : ApartI vs ns u) (hu : u ≠ 0) :
    PSpec hd54.heap_1 1 128 [.ref l, .int x u] [] (fun h _ => h.IsList l vs.toArray) (fun v _ lo hi => ∃ t : Nat, v = .int (ns.count x : Int) t) := by
  unfold PSpec; intro prog w p loose mean mg mb dp un gd cn cs a ccd cl outer A₀ base h₀ L m s Q E B F X T hk hd9 hu9 hpre hret; refine wpAny_both ?_
  k_dflt (refine' enterP (binds := [(Str.ofString "a", .ref l), (Str.ofString "b", .int x u)]) ?k1 ?k2 ?k3 ?k5 ?kA ?kF ?kK ?k6 ?k7 ?k8 ?k9 ?kB ?_ ?c2 ?c3 ?c4 ?c5; (case kA => exact rfl); (case kF => exact rfl); (case kK => assumption); (case k1 => k_asm); (case k2 => k_asm); (case k3 => k_asm); (case k5 => k_asm); (case k6 => k_is); (case k7 => k_is); (case k8 => ktr_room); (case k9 => exact BindsTo.of_eq rfl); (case c5 => decide); (case kB => exact locs rfl); (case c2 => exact rfl); (case c3 => exact rfl); (case c4 => exact rfl); k_whole; intro g' L' h' tk' eg' ht' F' N' B' X' T'; (try dsimp only); (try k_lift B'); (try k_fold); refine let_fold3 (P := fun (M : Model) (A : Around) (en : Env) => wpAny M A (execs _ en) _ _ _) _ _ _ ?_; intro M9 A9 en9; show wpAny M9 A9 (execs _ en9) _ _ _)
  k_steps
  have hl0 : g'.IsList l vs.toArray := eg' ▸ hpre
  (rename Fr _ _ _ _ => F1)
  refine' ForGo.mk' (fun (c : Int × Tok) => [(Str.ofString "a", Value.ref l), (Str.ofString "b", Value.int x u), (Str.ofString "count", Value.int c.1 c.2)]) (fun _ => []) (fun i c _ => c.1 = ((ns.take i).count x : Int)) (0, _)
    (FSrcT.list rfl (hl0.at fun o e => F1.keep _ _ e)) F1 (by assumption) ?hps F1.ns.lt (by intro p hp; cases hp) ?hJ (fun _ _ _ _ q _ => q) ?step ?done
  case hps => kst_all
  case hJ => simp
  case step =>
    rintro i ⟨c, tc⟩ v m₁ h tk own wr hi hP hJ hT F2 N2 hw ho hb
    obtain ⟨t, rfl, ht0, htu⟩ := hv.2 i v hP
    dsimp only at F2 hJ hT
    clear F1
    k_steps
    · refine FEnd.intro (_, _) (by assumption) (by assumption) (fun p hp => List.mem_append_left _ hp) (by intro p hp; cases hp) (by kst_all) fun _ => ?_
      have e := count_take (x := x) (d := 0) (show i < ns.length from hv.1 ▸ hi)
      rw [if_pos (by first | assumption | solve_by_elim)] at e
      dsimp only; (first | (law_clear; lia) | lia | omega)
    · refine FEnd.intro (_, _) (by assumption) (by assumption) (fun p hp => List.mem_append_left _ hp) (by intro p hp; cases hp) (by kst_all) fun _ => ?_
      have e := count_take (x := x) (d := 0) (show i < ns.length from hv.1 ▸ hi)
      rw [if_pos (by first | assumption | (apply eq_of_beq; assumption))] at e
      dsimp only; (first | (law_clear; lia) | lia | omega)
    · refine FEnd.intro (_, _) (by assumption) (by assumption) (fun p hp => List.mem_append_left _ hp) (by intro p hp; cases hp) (by kst_all) fun _ => ?_
      have e := count_take (x := x) (d := 0) (show i < ns.length from hv.1 ▸ hi)
      rw [if_neg (by first | assumption | (intro e9; simp_all; done))] at e
      dsimp only; (first | (law_clear; lia) | lia | omega)
  case done =>
    rintro ⟨c, tc⟩ m₁ h tk hJ hT F2 N2
    dsimp only at F2 hJ hT
    clear F1
    k_steps
    rw [List.take_of_length_le (Nat.le_of_eq hv.1.symm)] at hJ
    subst hJ
    (try dsimp only); exact PLeave.intro (by assumption) fun kp ht hz => hret _ _ _ (eg' ▸ kp) ht hz ⟨_, rfl⟩
theorem countOf_strs (l : Addr) (vs : List Value) (ns : List Str) (x : Str) (u : Nat) (hv : ApartS vs ns u) (hu : u ≠ 0) :
    PSpec hd54.heap_1 1 128 [.ref l, .str x u] [] (fun h _ => h.IsList l vs.toArray) (fun v _ lo hi => ∃ t : Nat, v = .int (ns.count x : Int) t) := by
  unfold PSpec; intro prog w p loose mean mg mb dp un gd cn cs a ccd cl outer A₀ base h₀ L m s Q E B F X T hk hd9 hu9 hpre hret; refine wpAny_both ?_
  k_dflt (refine' enterP (binds := [(Str.ofString "a", .ref l), (Str.ofString "b", .str x u)]) ?k1 ?k2 ?k3 ?k5 ?kA ?kF ?kK ?k6 ?k7 ?k8 ?k9 ?kB ?_ ?c2 ?c3 ?c4 ?c5; (case kA => exact rfl); (case kF => exact rfl); (case kK => assumption); (case k1 => k_asm); (case k2 => k_asm); (case k3 => k_asm); (case k5 => k_asm); (case k6 => k_is); (case k7 => k_is); (case k8 => ktr_room); (case k9 => exact BindsTo.of_eq rfl); (case c5 => decide); (case kB => exact locs rfl); (case c2 => exact rfl); (case c3 => exact rfl); (case c4 => exact rfl); k_whole; intro g' L' h' tk' eg' ht' F' N' B' X' T'; (try dsimp only); (try k_lift B'); (try k_fold); refine let_fold3 (P := fun (M : Model) (A : Around) (en : Env) => wpAny M A (execs _ en) _ _ _) _ _ _ ?_; intro M9 A9 en9; show wpAny M9 A9 (execs _ en9) _ _ _)
  k_steps
  have hl0 : g'.IsList l vs.toArray := eg' ▸ hpre
  (rename Fr _ _ _ _ => F1)
  refine' ForGo.mk' (fun (c : Int × Tok) => [(Str.ofString "a", Value.ref l), (Str.ofString "b", Value.str x u), (Str.ofString "count", Value.int c.1 c.2)]) (fun _ => []) (fun i c _ => c.1 = ((ns.take i).count x : Int)) (0, _)
    (FSrcT.list rfl (hl0.at fun o e => F1.keep _ _ e)) F1 (by assumption) ?hps F1.ns.lt (by intro p hp; cases hp) ?hJ (fun _ _ _ _ q _ => q) ?step ?done
  case hps => kst_all
  case hJ => simp
  case step =>
    rintro i ⟨c, tc⟩ v m₁ h tk own wr hi hP hJ hT F2 N2 hw ho hb
    obtain ⟨t, rfl, ht0, htu⟩ := hv.2 i v hP
    dsimp only at F2 hJ hT
    clear F1
    k_steps
    · refine FEnd.intro (_, _) (by assumption) (by assumption) (fun p hp => List.mem_append_left _ hp) (by intro p hp; cases hp) (by kst_all) fun _ => ?_
      have e := count_take (x := x) (d := Str.empty) (show i < ns.length from hv.1 ▸ hi)
      rw [if_pos (by first | assumption | solve_by_elim)] at e
      dsimp only; (first | (law_clear; lia) | lia | omega)
    · refine FEnd.intro (_, _) (by assumption) (by assumption) (fun p hp => List.mem_append_left _ hp) (by intro p hp; cases hp) (by kst_all) fun _ => ?_
      have e := count_take (x := x) (d := Str.empty) (show i < ns.length from hv.1 ▸ hi)
      rw [if_pos (by first | assumption | (apply eq_of_beq; assumption))] at e
      dsimp only; (first | (law_clear; lia) | lia | omega)
    · refine FEnd.intro (_, _) (by assumption) (by assumption) (fun p hp => List.mem_append_left _ hp) (by intro p hp; cases hp) (by kst_all) fun _ => ?_
      have e := count_take (x := x) (d := Str.empty) (show i < ns.length from hv.1 ▸ hi)
      rw [if_neg (by first | assumption | (intro e9; simp_all; done))] at e
      dsimp only; (first | (law_clear; lia) | lia | omega)
  case done =>
    rintro ⟨c, tc⟩ m₁ h tk hJ hT F2 N2
    dsimp only at F2 hJ hT
    clear F1
    k_steps
    rw [List.take_of_length_le (Nat.le_of_eq hv.1.symm)] at hJ
    subst hJ
    (try dsimp only); exact PLeave.intro (by assumption) fun kp ht hz => hret _ _ _ (eg' ▸ kp) ht hz ⟨_, rfl⟩
theorem indexOf_strs (l : Addr) (vs : List Value) (ss : List Str) (x : Str) (u : Nat) (hv : ApartS vs ss u) (hu : u ≠ 0) (hx : x ∈ ss) :
    PSpec hd54.heap_1 1 135 [.ref l, .str x u] [] (fun h _ => h.IsList l vs.toArray) (fun v _ lo hi => ∃ t : Nat, v = .int (ss.idxOf x : Int) t) := by
  unfold PSpec; intro prog w p loose mean mg mb dp un gd cn cs a ccd cl outer A₀ base h₀ L m s Q E B F X T hk hd9 hu9 hpre hret; refine wpAny_both ?_
  k_dflt (refine' enterP (binds := [(Str.ofString "a", .ref l), (Str.ofString "b", .str x u)]) ?k1 ?k2 ?k3 ?k5 ?kA ?kF ?kK ?k6 ?k7 ?k8 ?k9 ?kB ?_ ?c2 ?c3 ?c4 ?c5; (case kA => exact rfl); (case kF => exact rfl); (case kK => assumption); (case k1 => k_asm); (case k2 => k_asm); (case k3 => k_asm); (case k5 => k_asm); (case k6 => k_is); (case k7 => k_is); (case k8 => ktr_room); (case k9 => exact BindsTo.of_eq rfl); (case c5 => decide); (case kB => exact locs rfl); (case c2 => exact rfl); (case c3 => exact rfl); (case c4 => exact rfl); k_whole; intro g' L' h' tk' eg' ht' F' N' B' X' T'; (try dsimp only); (try k_lift B'); (try k_fold); refine let_fold3 (P := fun (M : Model) (A : Around) (en : Env) => wpAny M A (execs _ en) _ _ _) _ _ _ ?_; intro M9 A9 en9; show wpAny M9 A9 (execs _ en9) _ _ _)
  have hl0 : g'.IsList l vs.toArray := eg' ▸ hpre
  have hl1 : h'.IsList l vs.toArray := hl0.at fun o e => F'.keep _ _ e
  k_steps
  rename_i h9 he9 hit9 hsz9 hk9
  dsimp only at he9 hit9 hsz9 hk9 ⊢
  have hlt := ltN (show l < h'.objs.size from by obtain ⟨_, e, _⟩ := hl1; exact Heap.lt_size e)
  have hL0 : L' < h'.objs.size := F'.ns.lt
  have hL := ltN hL0
  refine' ForGo.mk' (fun (_ : Unit) => [(Str.ofString "a", Value.ref l), (Str.ofString "b", Value.str x u)]) (fun _ => []) (fun i _ _ => ∀ j, j < i → ss.getD j Str.empty ≠ x) ()
    (FSrcT.enum (B := h'.objs.size) rfl he9 hit9 (hl1.at fun o e => hk9 _ _ e) (neN (by (first | (law_clear; lia) | lia | omega))) (neN (by (first | (law_clear; lia) | lia | omega))) (neN (by (first | (law_clear; lia) | lia | omega))) (by (first | (law_clear; lia) | lia | omega)) (by (first | (law_clear; lia) | lia | omega))) (F'.keeps hk9) (N'.grown hk9) ?hps hL0 (by intro p hp; cases hp) ?hJ (fun _ _ _ _ q _ => q) ?step ?done
  case hps => kst_all
  case hJ => intro j hj; (first | (law_clear; lia) | lia | omega)
  case step =>
    rintro i _ v m₁ h tk own wr hi hP hJ hT F2 N2 hw ho hb
    obtain ⟨T9, x9, t9, rfl, hv9, hT9⟩ := hP
    obtain ⟨t, rfl, ht0, htu⟩ := hv.2 i x9 hv9
    dsimp only at F2 hJ hT
    k_steps
    · (try dsimp only); exact PLeave.intro (by assumption) fun kp ht hz => hret _ _ _ (eg' ▸ kp) ht hz ⟨_, by rw [idxOf_at hJ (by solve_by_elim) (hv.1 ▸ hi)]⟩
    · (try dsimp only); exact PLeave.intro (by assumption) fun kp ht hz => hret _ _ _ (eg' ▸ kp) ht hz ⟨_, by rw [idxOf_at hJ (by first | assumption | (apply eq_of_beq; assumption)) (hv.1 ▸ hi)]⟩
    · refine FEnd.intro () (by assumption) (by assumption) (fun p hp => List.mem_append_left _ hp) (by intro p hp; cases hp) (by kst_all) fun _ => ?_
      intro j hj
      rcases Nat.lt_or_eq_of_le (Nat.le_of_lt_succ hj) with hj | rfl
      · exact hJ j hj
      · intro e
        simp_all
  case done =>
    rintro _ m₁ h tk hJ hT F2 N2
    exfalso
    obtain ⟨j, hj, e⟩ := List.getElem_of_mem hx
    exact hJ j (by rw [hv.1]; exact hj) (by simp [List.getD, hj, e])
theorem indexOf_ints (l : Addr) (vs : List Value) (ss : List Int) (x : Int) (u : Nat) (hv : ApartI vs ss u) (hu : u ≠ 0) (hx : x ∈ ss) :
    PSpec hd54.heap_1 1 135 [.ref l, .int x u] [] (fun h _ => h.IsList l vs.toArray) (fun v _ lo hi => ∃ t : Nat, v = .int (ss.idxOf x : Int) t) := by
  unfold PSpec; intro prog w p loose mean mg mb dp un gd cn cs a ccd cl outer A₀ base h₀ L m s Q E B F X T hk hd9 hu9 hpre hret; refine wpAny_both ?_
  k_dflt (refine' enterP (binds := [(Str.ofString "a", .ref l), (Str.ofString "b", .int x u)]) ?k1 ?k2 ?k3 ?k5 ?kA ?kF ?kK ?k6 ?k7 ?k8 ?k9 ?kB ?_ ?c2 ?c3 ?c4 ?c5; (case kA => exact rfl); (case kF => exact rfl); (case kK => assumption); (case k1 => k_asm); (case k2 => k_asm); (case k3 => k_asm); (case k5 => k_asm); (case k6 => k_is); (case k7 => k_is); (case k8 => ktr_room); (case k9 => exact BindsTo.of_eq rfl); (case c5 => decide); (case kB => exact locs rfl); (case c2 => exact rfl); (case c3 => exact rfl); (case c4 => exact rfl); k_whole; intro g' L' h' tk' eg' ht' F' N' B' X' T'; (try dsimp only); (try k_lift B'); (try k_fold); refine let_fold3 (P := fun (M : Model) (A : Around) (en : Env) => wpAny M A (execs _ en) _ _ _) _ _ _ ?_; intro M9 A9 en9; show wpAny M9 A9 (execs _ en9) _ _ _)
  have hl0 : g'.IsList l vs.toArray := eg' ▸ hpre
  have hl1 : h'.IsList l vs.toArray := hl0.at fun o e => F'.keep _ _ e
  k_steps
  rename_i h9 he9 hit9 hsz9 hk9
  dsimp only at he9 hit9 hsz9 hk9 ⊢
  have hlt := ltN (show l < h'.objs.size from by obtain ⟨_, e, _⟩ := hl1; exact Heap.lt_size e)
  have hL0 : L' < h'.objs.size := F'.ns.lt
  have hL := ltN hL0
  refine' ForGo.mk' (fun (_ : Unit) => [(Str.ofString "a", Value.ref l), (Str.ofString "b", Value.int x u)]) (fun _ => []) (fun i _ _ => ∀ j, j < i → ss.getD j 0 ≠ x) ()
    (FSrcT.enum (B := h'.objs.size) rfl he9 hit9 (hl1.at fun o e => hk9 _ _ e) (neN (by (first | (law_clear; lia) | lia | omega))) (neN (by (first | (law_clear; lia) | lia | omega))) (neN (by (first | (law_clear; lia) | lia | omega))) (by (first | (law_clear; lia) | lia | omega)) (by (first | (law_clear; lia) | lia | omega))) (F'.keeps hk9) (N'.grown hk9) ?hps hL0 (by intro p hp; cases hp) ?hJ (fun _ _ _ _ q _ => q) ?step ?done
  case hps => kst_all
  case hJ => intro j hj; (first | (law_clear; lia) | lia | omega)
  case step =>
    rintro i _ v m₁ h tk own wr hi hP hJ hT F2 N2 hw ho hb
    obtain ⟨T9, x9, t9, rfl, hv9, hT9⟩ := hP
    obtain ⟨t, rfl, ht0, htu⟩ := hv.2 i x9 hv9
    dsimp only at F2 hJ hT
    k_steps
    · (try dsimp only); exact PLeave.intro (by assumption) fun kp ht hz => hret _ _ _ (eg' ▸ kp) ht hz ⟨_, by rw [idxOf_at hJ (by solve_by_elim) (hv.1 ▸ hi)]⟩
    · (try dsimp only); exact PLeave.intro (by assumption) fun kp ht hz => hret _ _ _ (eg' ▸ kp) ht hz ⟨_, by rw [idxOf_at hJ (by first | assumption | (apply eq_of_beq; assumption)) (hv.1 ▸ hi)]⟩
    · refine FEnd.intro () (by assumption) (by assumption) (fun p hp => List.mem_append_left _ hp) (by intro p hp; cases hp) (by kst_all) fun _ => ?_
      intro j hj
      rcases Nat.lt_or_eq_of_le (Nat.le_of_lt_succ hj) with hj | rfl
      · exact hJ j hj
      · intro e
        simp_all
  case done =>
    rintro _ m₁ h tk hJ hT F2 N2
    exfalso
    obtain ⟨j, hj, e⟩ := List.getElem_of_mem hx
    exact hJ j (by rw [hv.1]; exact hj) (by simp [List.getD, hj, e])
end
section
theorem load_C4 : (fun (_ : OpenLaw) (_ : Params → Frag) => True) PySem.Challenge.rw_wb0054_01 hd54.heap_1 := by
  w_top off
  k_fill
  trivial
local macro_rules | `(tactic| walk_at "call builtin:len") => `(tactic| (k_here; (with_reducible show wpAny _ _ (call (Value.builtin "len") [Value.ref _]) _ _ _); k_dflt (refine' kst_len ?k1 ?k2 ?k3 ?k4 ?_; (case k1 => k_asm); (case k2 => assumption); (case k3 => exact IntsAre.length (by assumption)); (case k4 => (first | (law_clear; lia) | lia | omega)); k_whole)))
set_option hygiene false in
local macro_rules | `(tactic| walk_at "subscriptTail") => `(tactic| (k_here; (with_reducible show wpAny _ _ (subscriptTail _ _ (Value.ref _) (Value.int _ _)) _ _ _); (with_unfolding_all refine' item_ints ?k1 ?k2 ?k3 ?k4 ?k5 ?_ ?k7; (case k1 => exact hl0.at fun o e => Fr.keep (by assumption) _ _ e); (case k2 => assumption); (case k3 => (first | (law_clear; lia) | lia | omega)); (case k4 => (first | (law_clear; lia) | lia | omega)); (case k5 => (first | (law_clear; lia) | lia | omega)); (case k7 => with_unfolding_all rfl); k_whole); intro t9))

theorem bisL_ints (x : Int) (tx : Tok) (l : Addr) (vs : List Value) (ns : List Int) (hi : IntsAre vs ns) (hlen : ns.length < 2 ^ 62) (hs : ns.Pairwise (· ≤ ·)) :
    PSpec hd54.heap_1 1 50 [.ref l, .int x tx] [] (fun h _ => h.IsList l vs.toArray) (fun v _ _ _ => ∃ t, v = .int (ns.countP (fun y => decide (y < x)) : Int) t) := by
  have hD := Down.ints hs (fun y => decide (y < x)) (by intro a b hab hb; simp at hb ⊢; (first | (law_clear; lia) | lia | omega))
  unfold PSpec; intro prog w p loose mean mg mb dp un gd cn cs a ccd cl outer A₀ base h₀ L m s Q E B F X T hk hd9 hu9 hpre hret; refine wpAny_both ?_
  k_dflt (refine' enterP (binds := [(Str.ofString "a", .ref l), (Str.ofString "x", .int x tx), (Str.ofString "lo", .int 0 229), (Str.ofString "hi", .none), (Str.ofString "key", .none)]) ?k1 ?k2 ?k3 ?k5 ?kA ?kF ?kK ?k6 ?k7 ?k8 ?k9 ?kB ?_ ?c2 ?c3 ?c4 ?c5; (case kA => exact rfl); (case kF => exact rfl); (case kK => assumption); (case k1 => k_asm); (case k2 => k_asm); (case k3 => k_asm); (case k5 => k_asm); (case k6 => k_is); (case k7 => k_is); (case k8 => ktr_room); (case k9 => (refine' binds_kw (D := 43) (nm := Str.ofString "key") (by k_in) rfl (by k_is) rfl rfl (by k_is) ?hx rfl rfl rfl; (case hx => (intro x hx; simp only [List.mem_toArray, List.mem_singleton] at hx; subst hx; exact ⟨_, _, rfl⟩)))); (case c5 => decide); (case kB => exact locs rfl); (case c2 => exact rfl); (case c3 => exact rfl); (case c4 => exact rfl); k_whole; intro g' L' h' tk' eg' ht' F' N' B' X' T'; (try dsimp only); (try k_lift B'); (try k_fold); refine let_fold3 (P := fun (M : Model) (A : Around) (en : Env) => wpAny M A (execs _ en) _ _ _) _ _ _ ?_; intro M9 A9 en9; show wpAny M9 A9 (execs _ en9) _ _ _)
  have hl0 : g'.IsList l vs.toArray := eg' ▸ hpre
  k_steps
  unfold Halt
  with_unfolding_all refine' ksw_while (fun _ => []) (fun (c : Int × Tok × Int × Tok) => [(Str.ofString "a", Value.ref l), (Str.ofString "x", .int x tx), (Str.ofString "lo", Value.int c.1 c.2.1), (Str.ofString "hi", Value.int c.2.2.1 c.2.2.2)]) (fun _ => True) [Str.ofString "mid"] (BisP (fun i => decide (ns.getD i 0 < x)) ns.length) (fun c => (c.2.2.1 - c.1).toNat) (0, 229, (ns.length : Int), _) (by assumption) (by assumption) trivial ?kk bis_zero ?_
  case kk => kst_all
  rintro ⟨lo, tlo, hi', thi⟩ u h tk hf hP F9 N9
  dsimp only at F9
  obtain ⟨p1, p2, p3, p4, p5⟩ := hP
  dsimp only at p1 p2 p3 p4 p5
  k_steps
  · refine ksw_end ⟨_, _, _, _⟩ (by assumption) (by assumption) (fun _ h => h) trivial (by kst_all) (by intro z h2 h3; (simp only [List.forall_mem_cons, List.not_mem_nil, false_implies, implies_true, and_true, ne_eq] at h2); (simp only [List.contains_cons, List.contains_nil, Bool.or_false, Bool.or_eq_false_iff, beq_eq_false_iff_ne, ne_eq] at h3); simp [kstB, h2, h3]) ?_ ?_
    · exact bis_up p1 p2 p3 p4 p5 hD (by assumption) (decide_eq_true (by assumption))
    · have fd := Int.fdiv_eq_ediv_of_nonneg (lo + hi') (show (0 : Int) ≤ 2 by decide); dsimp only; (first | (law_clear; lia) | lia | omega)
  · refine ksw_end ⟨_, _, _, _⟩ (by assumption) (by assumption) (fun _ h => h) trivial (by kst_all) (by intro z h2 h3; (simp only [List.forall_mem_cons, List.not_mem_nil, false_implies, implies_true, and_true, ne_eq] at h2); (simp only [List.contains_cons, List.contains_nil, Bool.or_false, Bool.or_eq_false_iff, beq_eq_false_iff_ne, ne_eq] at h3); simp [kstB, h2, h3]) ?_ ?_
    · exact bis_dn p1 p2 p3 p4 p5 hD (by assumption) (decide_eq_false (by assumption))
    · have fd := Int.fdiv_eq_ediv_of_nonneg (lo + hi') (show (0 : Int) ≤ 2 by decide); dsimp only; (first | (law_clear; lia) | lia | omega)
  · obtain ⟨r, rfl, hc⟩ := bis_cut p1 p2 p3 p4 p5 (by assumption)
    have e := cut_count (q := fun y => decide (y < x)) hc
    (try dsimp only); exact PLeave.intro (by assumption) fun kp ht hz => hret _ _ _ (eg' ▸ kp) ht hz ⟨_, by rw [e]⟩
end
section
theorem load_C5 : (fun (_ : OpenLaw) (_ : Params → Frag) => True) PySem.Challenge.rw_wb0054_01 hd54.heap_1 := by
  w_top off
  k_fill
  trivial
set_option hygiene false in
local macro_rules | `(tactic| walk_at "subscriptTail") => `(tactic| (k_here; (with_reducible show wpAny _ _ (subscriptTail _ _ (Value.ref _) (Value.int _ _)) _ _ _); (with_unfolding_all refine' item_ints ?k1 ?k2 ?k3 ?k4 ?k5 ?_ ?k7; (case k1 => exact hl0.at fun o e => Fr.keep (by assumption) _ _ e); (case k2 => assumption); (case k3 => (first | (law_clear; lia) | lia | omega)); (case k4 => (first | (law_clear; lia) | lia | omega)); (case k5 => (first | (law_clear; lia) | lia | omega)); (case k7 => with_unfolding_all rfl); k_whole); intro t9))
set_option hygiene false in
local macro_rules | `(tactic| walk_at "callWith ref") => `(tactic| (k_here; k_dflt (refine callWith_F (KeyInt.fn hK _ (KeyInt.kp hK (Fr.keep (by assumption)) hP0)) ?_)))
set_option hygiene false in
local macro_rules | `(tactic| walk_at "FnAt") => `(tactic| (exact KeyInt.fn hK _ (KeyInt.kp hK (Fr.keep (by assumption)) hP0)))
local macro_rules | `(tactic| walk_at "call ref") => `(tactic| (refine halt ?_))
theorem bisL_key (kf : Addr) (k : Nat) (f : Int → Int) (S : Addr → Prop) (P : Heap → Prop) (hK : KeyInt kf k f S P) (x : Int) (tx t0 : Tok) (l : Addr) (vs : List Value) (ns : List Int) (hi : IntsAre vs ns) (hlen : ns.length < 2 ^ 62) (hdom : ∀ c ∈ ns, 0 ≤ c ∧ c < 5) (hD : Down (fun i => decide (f (ns.getD i 0) < x)) ns.length) :
    PSpec hd54.heap_1 (k + 1) 50 [.ref l, .int x tx, .int 0 t0, .none] [(Str.ofString "key", .ref kf)] (fun h _ => h.IsList l vs.toArray ∧ P h) (fun v _ _ _ => ∃ (r : Nat) (t : Tok), v = .int (r : Int) t ∧ Cut (fun i => decide (f (ns.getD i 0) < x)) ns.length r) := by
  unfold PSpec; intro prog w p loose mean mg mb dp un gd cn cs a ccd cl outer A₀ base h₀ L m s Q E B F X T hk hd9 hu9 hpre hret; refine wpAny_both ?_
  k_dflt (refine' enterP (binds := [(Str.ofString "a", .ref l), (Str.ofString "x", .int x tx), (Str.ofString "lo", .int 0 t0), (Str.ofString "hi", .none), (Str.ofString "key", .ref kf)]) ?k1 ?k2 ?k3 ?k5 ?kA ?kF ?kK ?k6 ?k7 ?k8 ?k9 ?kB ?_ ?c2 ?c3 ?c4 ?c5; (case kA => exact rfl); (case kF => exact rfl); (case kK => assumption); (case k1 => k_asm); (case k2 => k_asm); (case k3 => k_asm); (case k5 => k_asm); (case k6 => k_is); (case k7 => k_is); (case k8 => ktr_room); (case k9 => refine' binds_df (by k_in) rfl (by k_is) rfl rfl rfl); (case c5 => decide); (case kB => exact locs rfl); (case c2 => exact rfl); (case c3 => exact rfl); (case c4 => exact rfl); k_whole; intro g' L' h' tk' eg' ht' F' N' B' X' T'; (try dsimp only); (try k_lift B'); (try k_fold); refine let_fold3 (P := fun (M : Model) (A : Around) (en : Env) => wpAny M A (execs _ en) _ _ _) _ _ _ ?_; intro M9 A9 en9; show wpAny M9 A9 (execs _ en9) _ _ _)
  have hl0 : g'.IsList l vs.toArray := eg' ▸ hpre.1
  have hP0 : P g' := eg' ▸ hpre.2
  k_steps
  unfold Halt
  with_unfolding_all refine' ksw_while (fun _ => []) (fun (c : Int × Tok × Int × Tok) => [(Str.ofString "a", Value.ref l), (Str.ofString "key", .ref kf), (Str.ofString "x", .int x tx), (Str.ofString "lo", Value.int c.1 c.2.1), (Str.ofString "hi", Value.int c.2.2.1 c.2.2.2)]) (fun _ => True) [Str.ofString "mid"] (BisP (fun i => decide (f (ns.getD i 0) < x)) ns.length) (fun c => (c.2.2.1 - c.1).toNat) (0, t0, (ns.length : Int), _) (by assumption) (by assumption) trivial ?kk bis_zero ?_
  case kk => kst_all
  rintro ⟨lo, tlo, hi', thi⟩ u h tk hf hP F9 N9
  dsimp only at F9
  obtain ⟨p1, p2, p3, p4, p5⟩ := hP
  dsimp only at p1 p2 p3 p4 p5
  k_steps
  · unfold Halt
    obtain ⟨d0, d5⟩ := hdom (ns.getD ((lo + hi').fdiv 2).toNat 0) (by have fd := Int.fdiv_eq_ediv_of_nonneg (lo + hi') (show (0 : Int) ≤ 2 by decide); exact getD_mem (by (first | (law_clear; lia) | lia | omega)))
    refine PSpec.useA (A₀ := _) (hK.spec _ _ d0 d5) (by k_asm) (by k_asm) (by k_asm) (by assumption) (by k_asm) (by exact rfl) (by exact rfl) (by (try dsimp +zetaDelta only [ktrTop, Around.deeper]); first | (first | (law_clear; lia) | lia | omega) | decide) (by (try dsimp +zetaDelta only [ktrTop, Around.deeper]); first | (first | (law_clear; lia) | lia | omega) | decide) (hK.kp (Fr.keep (by assumption)) hP0) ?_; intro v9 h9 tk9 F9 N9 kp9 ht9 hz9 hp9; (try dsimp only at hp9 ht9 hz9 kp9)
    obtain ⟨tq, rfl⟩ := hp9
    have fd := Int.fdiv_eq_ediv_of_nonneg (lo + hi') (show (0 : Int) ≤ 2 by decide)
    k_steps
    · refine ksw_end ⟨_, _, _, _⟩ (by assumption) (by assumption) (fun _ h => h) trivial (by kst_all) (by intro z h2 h3; (simp only [List.forall_mem_cons, List.not_mem_nil, false_implies, implies_true, and_true, ne_eq] at h2); (simp only [List.contains_cons, List.contains_nil, Bool.or_false, Bool.or_eq_false_iff, beq_eq_false_iff_ne, ne_eq] at h3); simp [kstB, h2, h3]) ?_ ?_
      · exact bis_up p1 p2 p3 p4 p5 hD (by assumption) (by simpa using (by assumption : f _ < x))
      · dsimp only; (first | (law_clear; lia) | lia | omega)
    · refine ksw_end ⟨_, _, _, _⟩ (by assumption) (by assumption) (fun _ h => h) trivial (by kst_all) (by intro z h2 h3; (simp only [List.forall_mem_cons, List.not_mem_nil, false_implies, implies_true, and_true, ne_eq] at h2); (simp only [List.contains_cons, List.contains_nil, Bool.or_false, Bool.or_eq_false_iff, beq_eq_false_iff_ne, ne_eq] at h3); simp [kstB, h2, h3]) ?_ ?_
      · exact bis_dn p1 p2 p3 p4 p5 hD (by assumption) (by simpa using (by assumption : ¬ f _ < x))
      · dsimp only; (first | (law_clear; lia) | lia | omega)
  · obtain ⟨r, rfl, hc⟩ := bis_cut p1 p2 p3 p4 p5 (by assumption)
    (try dsimp only); exact PLeave.intro (by assumption) fun kp ht hz => hret _ _ _ (eg' ▸ kp) ht hz ⟨r, _, rfl, hc⟩
theorem bisR_key (kf : Addr) (k : Nat) (f : Int → Int) (S : Addr → Prop) (P : Heap → Prop) (hK : KeyInt kf k f S P) (x : Int) (tx t0 : Tok) (l : Addr) (vs : List Value) (ns : List Int) (hi : IntsAre vs ns) (hlen : ns.length < 2 ^ 62) (hdom : ∀ c ∈ ns, 0 ≤ c ∧ c < 5) (hD : Down (fun i => !decide (x < f (ns.getD i 0))) ns.length) :
    PSpec hd54.heap_1 (k + 1) 32 [.ref l, .int x tx, .int 0 t0, .none] [(Str.ofString "key", .ref kf)] (fun h _ => h.IsList l vs.toArray ∧ P h) (fun v _ _ _ => ∃ (r : Nat) (t : Tok), v = .int (r : Int) t ∧ Cut (fun i => !decide (x < f (ns.getD i 0))) ns.length r) := by
  unfold PSpec; intro prog w p loose mean mg mb dp un gd cn cs a ccd cl outer A₀ base h₀ L m s Q E B F X T hk hd9 hu9 hpre hret; refine wpAny_both ?_
  k_dflt (refine' enterP (binds := [(Str.ofString "a", .ref l), (Str.ofString "x", .int x tx), (Str.ofString "lo", .int 0 t0), (Str.ofString "hi", .none), (Str.ofString "key", .ref kf)]) ?k1 ?k2 ?k3 ?k5 ?kA ?kF ?kK ?k6 ?k7 ?k8 ?k9 ?kB ?_ ?c2 ?c3 ?c4 ?c5; (case kA => exact rfl); (case kF => exact rfl); (case kK => assumption); (case k1 => k_asm); (case k2 => k_asm); (case k3 => k_asm); (case k5 => k_asm); (case k6 => k_is); (case k7 => k_is); (case k8 => ktr_room); (case k9 => refine' binds_df (by k_in) rfl (by k_is) rfl rfl rfl); (case c5 => decide); (case kB => exact locs rfl); (case c2 => exact rfl); (case c3 => exact rfl); (case c4 => exact rfl); k_whole; intro g' L' h' tk' eg' ht' F' N' B' X' T'; (try dsimp only); (try k_lift B'); (try k_fold); refine let_fold3 (P := fun (M : Model) (A : Around) (en : Env) => wpAny M A (execs _ en) _ _ _) _ _ _ ?_; intro M9 A9 en9; show wpAny M9 A9 (execs _ en9) _ _ _)
  have hl0 : g'.IsList l vs.toArray := eg' ▸ hpre.1
  have hP0 : P g' := eg' ▸ hpre.2
  k_steps
  unfold Halt
  with_unfolding_all refine' ksw_while (fun _ => []) (fun (c : Int × Tok × Int × Tok) => [(Str.ofString "a", Value.ref l), (Str.ofString "key", .ref kf), (Str.ofString "x", .int x tx), (Str.ofString "lo", Value.int c.1 c.2.1), (Str.ofString "hi", Value.int c.2.2.1 c.2.2.2)]) (fun _ => True) [Str.ofString "mid"] (BisP (fun i => !decide (x < f (ns.getD i 0))) ns.length) (fun c => (c.2.2.1 - c.1).toNat) (0, t0, (ns.length : Int), _) (by assumption) (by assumption) trivial ?kk bis_zero ?_
  case kk => kst_all
  rintro ⟨lo, tlo, hi', thi⟩ u h tk hf hP F9 N9
  dsimp only at F9
  obtain ⟨p1, p2, p3, p4, p5⟩ := hP
  dsimp only at p1 p2 p3 p4 p5
  k_steps
  · unfold Halt
    obtain ⟨d0, d5⟩ := hdom (ns.getD ((lo + hi').fdiv 2).toNat 0) (by have fd := Int.fdiv_eq_ediv_of_nonneg (lo + hi') (show (0 : Int) ≤ 2 by decide); exact getD_mem (by (first | (law_clear; lia) | lia | omega)))
    refine PSpec.useA (A₀ := _) (hK.spec _ _ d0 d5) (by k_asm) (by k_asm) (by k_asm) (by assumption) (by k_asm) (by exact rfl) (by exact rfl) (by (try dsimp +zetaDelta only [ktrTop, Around.deeper]); first | (first | (law_clear; lia) | lia | omega) | decide) (by (try dsimp +zetaDelta only [ktrTop, Around.deeper]); first | (first | (law_clear; lia) | lia | omega) | decide) (hK.kp (Fr.keep (by assumption)) hP0) ?_; intro v9 h9 tk9 F9 N9 kp9 ht9 hz9 hp9; (try dsimp only at hp9 ht9 hz9 kp9)
    obtain ⟨tq, rfl⟩ := hp9
    have fd := Int.fdiv_eq_ediv_of_nonneg (lo + hi') (show (0 : Int) ≤ 2 by decide)
    k_steps
    · refine ksw_end ⟨_, _, _, _⟩ (by assumption) (by assumption) (fun _ h => h) trivial (by kst_all) (by intro z h2 h3; (simp only [List.forall_mem_cons, List.not_mem_nil, false_implies, implies_true, and_true, ne_eq] at h2); (simp only [List.contains_cons, List.contains_nil, Bool.or_false, Bool.or_eq_false_iff, beq_eq_false_iff_ne, ne_eq] at h3); simp [kstB, h2, h3]) ?_ ?_
      · exact bis_dn p1 p2 p3 p4 p5 hD (by assumption) (by simpa using (by assumption : x < f _))
      · dsimp only; (first | (law_clear; lia) | lia | omega)
    · refine ksw_end ⟨_, _, _, _⟩ (by assumption) (by assumption) (fun _ h => h) trivial (by kst_all) (by intro z h2 h3; (simp only [List.forall_mem_cons, List.not_mem_nil, false_implies, implies_true, and_true, ne_eq] at h2); (simp only [List.contains_cons, List.contains_nil, Bool.or_false, Bool.or_eq_false_iff, beq_eq_false_iff_ne, ne_eq] at h3); simp [kstB, h2, h3]) ?_ ?_
      · exact bis_up p1 p2 p3 p4 p5 hD (by assumption) (by simpa using (by assumption : ¬ x < f _))
      · dsimp only; (first | (law_clear; lia) | lia | omega)
  · obtain ⟨r, rfl, hc⟩ := bis_cut p1 p2 p3 p4 p5 (by assumption)
    (try dsimp only); exact PLeave.intro (by assumption) fun kp ht hz => hret _ _ _ (eg' ▸ kp) ht hz ⟨r, _, rfl, hc⟩
end
section
theorem load_C6 : (fun (_ : OpenLaw) (_ : Params → Frag) => True) PySem.Challenge.rw_wb0054_01 hd54.heap_1 := by
  w_top off
  k_fill
  trivial
theorem setitem_e (l : Addr) (vs : List Value) (ns : List Int) (n : Nat) (c z : Int) (t tz : Tok) (hi : IntsAre vs ns) (h0 : 0 ≤ c) (h1 : c < ns.length) (h62 : ns.length < 2 ^ 62) :
    ESpec hd54.heap_1 1 142 [.ref l, .int c t, .int z tz] [] [(l, listOf vs.toArray n)] (fun _ _ => True) (fun r h' _ _ => r = .none ∧ h'.get? l = some (listOf (vs.set c.toNat (.int z tz)).toArray n)) := by
  unfold ESpec; intro prog w p loose mean mg mb dp un gd cn cs a ccd cl outer A₀ base h₀ L m s Q E B F N X T hk hd9 hu9 hpre hret; refine wpAny_both ?_
  k_dflt (refine' enterE (binds := [(Str.ofString "a", .ref l), (Str.ofString "b", .int c t), (Str.ofString "c", .int z tz)]) ?k1 ?k2 ?k3 ?k4 ?k5 ?kA ?kF ?kK ?k6 ?k7 ?k8 ?k9 ?kB ?_ ?c2 ?c3 ?c4 ?c5; (case kA => exact rfl); (case kF => exact rfl); (case kK => assumption); (case k1 => k_asm); (case k2 => k_asm); (case k3 => k_asm); (case k4 => k_asm); (case k5 => k_asm); (case k6 => k_is); (case k7 => k_is); (case k8 => ktr_room); (case k9 => exact BindsTo.of_eq rfl); (case c5 => decide); (case kB => exact locs rfl); (case c2 => exact rfl); (case c3 => exact rfl); (case c4 => exact rfl); k_whole; intro g' L' h' tk' hg' kh' ht' F' N' B' X' T'; (try dsimp only); (try k_lift B'); (try k_fold); refine let_fold3 (P := fun (M : Model) (A : Around) (en : Env) => wpAny M A (execs _ en) _ _ _) _ _ _ ?_; intro M9 A9 en9; show wpAny M9 A9 (execs _ en9) _ _ _)
  k_steps
  rename News _ _ _ _ => N9
  (try dsimp only); refine PLeave.intro (by assumption) fun kp ht hz => hret _ _ _ (fun b o hb e => kp b o (hg' b o hb e)) ht hz ?_
  exact ⟨rfl, (N9 _ (.head _)).1⟩
set_option hygiene false in
local macro_rules | `(tactic| walk_at "callWith ref") => `(tactic| (k_here; k_dflt (refine callWith_F (KeyInt.fn hK _ (KeyInt.kp hK (Fr.keep (by assumption)) hP0)) ?_)))
set_option hygiene false in
local macro_rules | `(tactic| walk_at "FnAt") => `(tactic| (exact KeyInt.fn hK _ (KeyInt.kp hK (Fr.keep (by assumption)) hP0)))
local macro_rules | `(tactic| walk_at $s:str) => if ("|call ref|call builtin:list.insert|".splitOn ("|" ++ s.getString ++ "|")).length > 1 then `(tactic| (refine halt ?_)) else Lean.Macro.throwUnsupported
theorem insortR_e (kf : Addr) (f : Int → Int) (S : Addr → Prop) (P : Heap → Prop) (hK : KeyInt kf 2 f S P) (x : Int) (tx : Tok) (l : Addr) (hS : ¬ S l) (vs : List Value) (ns : List Int) (nn : Nat) (hi : IntsAre vs ns) (hlen : ns.length < 2 ^ 20) (hdom : ∀ c ∈ ns, 0 ≤ c ∧ c < 5) (hx0 : 0 ≤ x) (hx5 : x < 5) (hD : Down (fun i => !decide (f x < f (ns.getD i 0))) ns.length) :
    ESpec hd54.heap_1 4 23 [.ref l, .int x tx] [(Str.ofString "key", .ref kf)] [(l, listOf vs.toArray nn)] (fun h _ => P h) (fun r h' _ _ => r = .none ∧ ∃ k, Cut (fun i => !decide (f x < f (ns.getD i 0))) ns.length k ∧ h'.get? l = some (listOf (vs.take k ++ .int x tx :: vs.drop k).toArray (nn + 1))) := by
  unfold ESpec; intro prog w p loose mean mg mb dp un gd cn cs a ccd cl outer A₀ base h₀ L m s Q E B F N X T hk hd9 hu9 hpre hret; refine wpAny_both ?_
  k_dflt (refine' enterE (binds := [(Str.ofString "a", .ref l), (Str.ofString "x", .int x tx), (Str.ofString "lo", .int 0 189), (Str.ofString "hi", .none), (Str.ofString "key", .ref kf)]) ?k1 ?k2 ?k3 ?k4 ?k5 ?kA ?kF ?kK ?k6 ?k7 ?k8 ?k9 ?kB ?_ ?c2 ?c3 ?c4 ?c5; (case kA => exact rfl); (case kF => exact rfl); (case kK => assumption); (case k1 => k_asm); (case k2 => k_asm); (case k3 => k_asm); (case k4 => k_asm); (case k5 => k_asm); (case k6 => k_is); (case k7 => k_is); (case k8 => ktr_room); (case k9 => refine' binds_df (by k_in) rfl (by k_is) rfl rfl rfl); (case c5 => decide); (case kB => exact locs rfl); (case c2 => exact rfl); (case c3 => exact rfl); (case c4 => exact rfl); k_whole; intro g' L' h' tk' hg' kh' ht' F' N' B' X' T'; (try dsimp only); (try k_lift B'); (try k_fold); refine let_fold3 (P := fun (M : Model) (A : Around) (en : Env) => wpAny M A (execs _ en) _ _ _) _ _ _ ?_; intro M9 A9 en9; show wpAny M9 A9 (execs _ en9) _ _ _)
  have hP0 : P g' := hK.mono _ _ (fun b hb o e => hg' b o (by intro q; simp only [List.map_cons, List.map_nil, List.mem_singleton] at q; exact hS (q ▸ hb)) e) hpre
  k_steps
  unfold Halt
  refine PSpec.useA (A₀ := _) (hK.spec _ _ hx0 hx5) (by k_asm) (by k_asm) (by k_asm) (by assumption) (by k_asm) (by exact rfl) (by exact rfl) (by (try dsimp +zetaDelta only [ktrTop, Around.deeper]); first | (first | (law_clear; lia) | lia | omega) | decide) (by (try dsimp +zetaDelta only [ktrTop, Around.deeper]); first | (first | (law_clear; lia) | lia | omega) | decide) (hK.kp (Fr.keep (by assumption)) hP0) ?_; intro v9 h9 tk9 F9 N9 kp9 ht9 hz9 hp9; (try dsimp only at hp9 ht9 hz9 kp9)
  obtain ⟨tq, rfl⟩ := hp9
  k_steps
  unfold Halt
  refine PSpec.useA (A₀ := _) (bisR_key kf 2 f S P hK (f x) tq 189 l vs ns hi (by (first | (law_clear; lia) | lia | omega)) hdom hD) (by k_asm) (by k_asm) (by k_asm) (by assumption) (by k_asm) (by exact rfl) (by exact rfl) (by (try dsimp +zetaDelta only [ktrTop, Around.deeper]); first | (first | (law_clear; lia) | lia | omega) | decide) (by (try dsimp +zetaDelta only [ktrTop, Around.deeper]); first | (first | (law_clear; lia) | lia | omega) | decide) (⟨isList_of N9 (.head _), hK.kp (Fr.keep (by assumption)) hP0⟩) ?_; intro v9 h9 tk9 F9 N9 kp9 ht9 hz9 hp9; (try dsimp only at hp9 ht9 hz9 kp9)
  obtain ⟨k, tk, rfl, hcut⟩ := hp9
  k_steps
  unfold Halt
  have hk9 := hcut.1
  have hl9 := hi.length
  have hsz9 : sizeLine = 2 ^ 24 := sizeLine_eq
  refine kl_insert (by k_asm) (by k_asm) (by simp [Builtin.List.listFitsIndex]; (first | (law_clear; lia) | lia | omega)) rfl (by k_upd) (by simp; (first | (law_clear; lia) | lia | omega)) fun h8 F8 N8 => ?_
  k_steps
  (try dsimp only); refine PLeave.intro (by assumption) fun kp ht hz => hret _ _ _ (fun b o hb e => kp b o (hg' b o hb e)) ht hz ?_
  refine ⟨rfl, k, hcut, ?_⟩
  have e := (N8 _ (.head _)).1
  dsimp only at e
  rw [e]
  simp only [kl_ins]
  have e9 : min (k : Int).toNat vs.length = k := by (first | (law_clear; lia) | lia | omega)
  rw [if_neg (show ¬ ((k : Int) < 0) by (first | (law_clear; lia) | lia | omega)), e9]
theorem insortL_e (kf : Addr) (f : Int → Int) (S : Addr → Prop) (P : Heap → Prop) (hK : KeyInt kf 2 f S P) (x : Int) (tx : Tok) (l : Addr) (hS : ¬ S l) (vs : List Value) (ns : List Int) (nn : Nat) (hi : IntsAre vs ns) (hlen : ns.length < 2 ^ 20) (hdom : ∀ c ∈ ns, 0 ≤ c ∧ c < 5) (hx0 : 0 ≤ x) (hx5 : x < 5) (hD : Down (fun i => decide (f (ns.getD i 0) < f x)) ns.length) :
    ESpec hd54.heap_1 4 41 [.ref l, .int x tx] [(Str.ofString "key", .ref kf)] [(l, listOf vs.toArray nn)] (fun h _ => P h) (fun r h' _ _ => r = .none ∧ ∃ k, Cut (fun i => decide (f (ns.getD i 0) < f x)) ns.length k ∧ h'.get? l = some (listOf (vs.take k ++ .int x tx :: vs.drop k).toArray (nn + 1))) := by
  unfold ESpec; intro prog w p loose mean mg mb dp un gd cn cs a ccd cl outer A₀ base h₀ L m s Q E B F N X T hk hd9 hu9 hpre hret; refine wpAny_both ?_
  k_dflt (refine' enterE (binds := [(Str.ofString "a", .ref l), (Str.ofString "x", .int x tx), (Str.ofString "lo", .int 0 216), (Str.ofString "hi", .none), (Str.ofString "key", .ref kf)]) ?k1 ?k2 ?k3 ?k4 ?k5 ?kA ?kF ?kK ?k6 ?k7 ?k8 ?k9 ?kB ?_ ?c2 ?c3 ?c4 ?c5; (case kA => exact rfl); (case kF => exact rfl); (case kK => assumption); (case k1 => k_asm); (case k2 => k_asm); (case k3 => k_asm); (case k4 => k_asm); (case k5 => k_asm); (case k6 => k_is); (case k7 => k_is); (case k8 => ktr_room); (case k9 => refine' binds_df (by k_in) rfl (by k_is) rfl rfl rfl); (case c5 => decide); (case kB => exact locs rfl); (case c2 => exact rfl); (case c3 => exact rfl); (case c4 => exact rfl); k_whole; intro g' L' h' tk' hg' kh' ht' F' N' B' X' T'; (try dsimp only); (try k_lift B'); (try k_fold); refine let_fold3 (P := fun (M : Model) (A : Around) (en : Env) => wpAny M A (execs _ en) _ _ _) _ _ _ ?_; intro M9 A9 en9; show wpAny M9 A9 (execs _ en9) _ _ _)
  have hP0 : P g' := hK.mono _ _ (fun b hb o e => hg' b o (by intro q; simp only [List.map_cons, List.map_nil, List.mem_singleton] at q; exact hS (q ▸ hb)) e) hpre
  k_steps
  unfold Halt
  refine PSpec.useA (A₀ := _) (hK.spec _ _ hx0 hx5) (by k_asm) (by k_asm) (by k_asm) (by assumption) (by k_asm) (by exact rfl) (by exact rfl) (by (try dsimp +zetaDelta only [ktrTop, Around.deeper]); first | (first | (law_clear; lia) | lia | omega) | decide) (by (try dsimp +zetaDelta only [ktrTop, Around.deeper]); first | (first | (law_clear; lia) | lia | omega) | decide) (hK.kp (Fr.keep (by assumption)) hP0) ?_; intro v9 h9 tk9 F9 N9 kp9 ht9 hz9 hp9; (try dsimp only at hp9 ht9 hz9 kp9)
  obtain ⟨tq, rfl⟩ := hp9
  k_steps
  unfold Halt
  refine PSpec.useA (A₀ := _) (bisL_key kf 2 f S P hK (f x) tq 216 l vs ns hi (by (first | (law_clear; lia) | lia | omega)) hdom hD) (by k_asm) (by k_asm) (by k_asm) (by assumption) (by k_asm) (by exact rfl) (by exact rfl) (by (try dsimp +zetaDelta only [ktrTop, Around.deeper]); first | (first | (law_clear; lia) | lia | omega) | decide) (by (try dsimp +zetaDelta only [ktrTop, Around.deeper]); first | (first | (law_clear; lia) | lia | omega) | decide) (⟨isList_of N9 (.head _), hK.kp (Fr.keep (by assumption)) hP0⟩) ?_; intro v9 h9 tk9 F9 N9 kp9 ht9 hz9 hp9; (try dsimp only at hp9 ht9 hz9 kp9)
  obtain ⟨k, tk, rfl, hcut⟩ := hp9
  k_steps
  unfold Halt
  have hk9 := hcut.1
  have hl9 := hi.length
  have hsz9 : sizeLine = 2 ^ 24 := sizeLine_eq
  refine kl_insert (by k_asm) (by k_asm) (by simp [Builtin.List.listFitsIndex]; (first | (law_clear; lia) | lia | omega)) rfl (by k_upd) (by simp; (first | (law_clear; lia) | lia | omega)) fun h8 F8 N8 => ?_
  k_steps
  (try dsimp only); refine PLeave.intro (by assumption) fun kp ht hz => hret _ _ _ (fun b o hb e => kp b o (hg' b o hb e)) ht hz ?_
  refine ⟨rfl, k, hcut, ?_⟩
  have e := (N8 _ (.head _)).1
  dsimp only at e
  rw [e]
  simp only [kl_ins]
  have e9 : min (k : Int).toNat vs.length = k := by (first | (law_clear; lia) | lia | omega)
  rw [if_neg (show ¬ ((k : Int) < 0) by (first | (law_clear; lia) | lia | omega)), e9]
end
section
theorem load_G1 : (fun (_ : OpenLaw) (_ : Params → Frag) => True) PySem.Challenge.rw_wb0054_01 hd54.heap_1 := by
  w_top off
  k_fill
  trivial
set_option hygiene false in
local macro_rules | `(tactic| walk_at "call type:list") => `(tactic| (k_here; k_dflt (refine' list_copyK ?F ?N ?I ?_ ?z; (case F => k_asm); (case N => k_asm); (case I => exact hwl.at fun o e => Fr.keep (by assumption) _ _ e); (case z => (rw [sizeLine_eq]; have e9 := hw.length; have e8 := hw5.1; simp only [List.size_toArray]; (first | (law_clear; lia) | lia | omega)))); intro D' c' h' F' N' l1; (try k_lt l1)))
set_option hygiene false in
local macro_rules | `(tactic| walk_at "eval Name") => `(tactic| (k_here; k_dflt (refine' nameX_G (by assumption) rfl hcell8 dC ?_ ?a ?b; (case a => exact rfl); (case b => exact rfl); k_whole)))
set_option hygiene false in
local macro_rules | `(tactic| walk_at "subscriptTail") => `(tactic| (k_here; (with_reducible show wpAny _ _ (subscriptTail _ _ (Value.ref _) (Value.int _ _)) _ _ _); (with_unfolding_all refine' item_ints ?k1 ?k2 ?k3 ?k4 ?k5 ?_ ?k7; (case k1 => exact hleft8.at fun o e => Fr.keep (by assumption) _ _ e); (case k2 => exact j1); (case k3 => (first | (law_clear; lia) | lia | omega)); (case k4 => (first | (law_clear; lia) | lia | omega)); (case k5 => (first | (law_clear; lia) | lia | omega)); (case k7 => with_unfolding_all rfl); k_whole); intro t9))
set_option hygiene false in
local macro_rules | `(tactic| walk_at "subscriptTail") => `(tactic| (k_here; (with_reducible show wpAny _ _ (subscriptTail _ _ (Value.ref rl) (Value.int _ _)) _ _ _); (with_unfolding_all refine' item_ints ?k1 ?k2 ?k3 ?k4 ?k5 ?_ ?k7; (case k1 => exact hrl.at fun o e => Fr.keep (by assumption) _ _ e); (case k2 => exact hr); (case k3 => exact at_nn _); (case k4 => exact at_lt hr5 hi); (case k5 => exact at_sm hr5); (case k7 => with_unfolding_all rfl); k_whole); intro t9))
local macro_rules | `(tactic| walk_at "eval Lambda") => `(tactic| (k_here; k_dflt (refine' kla_eval ?d0 ?_; (case d0 => exact rfl)); (refine halt ?_)))
local macro_rules | `(tactic| walk_at $s:str) => if ("|eval IfExp|subscriptTail Name Slice ref ref|call builtin:sorted|compareOp NotEq ref ref|call ref|".splitOn ("|" ++ s.getString ++ "|")).length > 1 then `(tactic| (refine halt ?_)) else Lean.Macro.throwUnsupported
theorem frMap {g h : Heap} {L : Addr} {m : Str → Option Value} (_ : Fr g L h m) : ∃ x : Str → Option Value, x = m := ⟨m, rfl⟩
theorem newsLed {g h : Heap} {L : Addr} {l : List (Addr × Obj)} (_ : News g L h l) : ∃ x : List (Addr × Obj), x = l := ⟨l, rfl⟩
theorem at_nn (i : Nat) : (0 : Int) ≤ 0 + (i : Int) := by (first | (law_clear; lia) | lia | omega)
theorem at_lt {rn : List Int} {i : Nat} (h : rn.length = 5) (hi : i < 5) : 0 + (i : Int) < (rn.length : Int) := by (first | (law_clear; lia) | lia | omega)
theorem at_sm {rn : List Int} (h : rn.length = 5) : rn.length < 2 ^ 62 := by (first | (law_clear; lia) | lia | omega)
theorem row_in {rn : List Int} {i : Nat} (h9 : ∀ x ∈ rn, 0 ≤ x ∧ x ≤ 5) : 0 ≤ rn.getD i 0 ∧ rn.getD i 0 ≤ 5 := by
  by_cases h : i < rn.length
  · have := h9 rn[i] (List.getElem_mem h)
    simpa [List.getD, h] using this
  · simp [List.getD, h]
theorem gale_e (rl wl : Addr) (rv wv : List Value) (rn wn : List Int) (side : Nat) (ts : Tok) (ps : Array Value) (hr : IntsAre rv rn) (hw : IntsAre wv wn) (hr5 : rn.length = 5) (hr9 : ∀ x ∈ rn, 0 ≤ x ∧ x ≤ 5) (hw5 : Five wn) (hs : side < 2) :
    ESpec hd54.heap_1 6 154 [.ref rl, .ref wl, .int (side : Int) ts] [] [(149, tabObj ps)] (fun h _ => h.IsList rl rv.toArray ∧ h.IsList wl wv.toArray ∧ TabL h gqual ps []) (fun r h' _ _ => ((r = .none ∧ galeF rn side wn 5 = none) ∨ ∃ st t, galeF rn side wn 5 = some st ∧ r = .int st.2 t) ∧ ∃ ps', h'.get? 149 = some (tabObj ps') ∧ TabL h' gqual ps' []) := by
  unfold ESpec; intro prog w p loose mean mg mb dp un gd cn cs a ccd cl outer A₀ base h₀ L m s Q E B F N X T hk hd9 hu9 hpre hret; refine wpAny_both ?_
  k_dflt (refine' enterEC (binds := [(Str.ofString "rows", .ref rl), (Str.ofString "wishes", .ref wl), (Str.ofString "side", .int (side : Int) ts)]) ?k1 ?k2 ?k3 ?k4 ?k5 ?kA ?kF ?kK ?k6 ?k7 ?k8 ?k9 ?kB ?kN ?_ ?c2 ?c3 ?c4; (case kA => exact rfl); (case kF => exact rfl); (case kK => assumption); (case k1 => k_asm); (case k2 => k_asm); (case k3 => k_asm); (case k4 => k_asm); (case k5 => k_asm); (case k6 => k_is); (case k7 => k_is); (case k8 => ktr_room); (case k9 => exact BindsTo.of_eq rfl); (case kB => exact rfl); (case kN => decide); (case c2 => exact rfl); (case c3 => exact rfl); (case c4 => exact rfl); k_whole; intro g' L' h' tk' cells' hg' kh' ht' F' N' Y' lt' B' X' T'; (try k_lt lt'); k_cells Y'; (try simp only [List.cons_append, List.nil_append] at N'); (try dsimp only); (try k_lift B'); (try k_fold); refine let_fold3 (P := fun (M : Model) (A : Around) (en : Env) => wpAny M A (execs _ en) _ _ _) _ _ _ ?_; intro M9 A9 en9; show wpAny M9 A9 (execs _ en9) _ _ _)
  have hn9 : ∀ (l : Addr) (vs : List Value), s.heap.IsList l vs.toArray → g'.IsList l vs.toArray := fun l vs h => h.at fun o e => hg' _ _ (by
    intro q; simp only [List.map_cons, List.map_nil, List.mem_singleton] at q; subst q
    have := (N _ (.head _)).1
    obtain ⟨o2, e2, c2, _⟩ := h
    rw [this] at e2; cases e2; cases c2) e
  have hrl := hn9 _ _ hpre.1
  have hwl := hn9 _ _ hpre.2.1
  clear hn9
  k_steps
  rename PySem.Obj => oC
  rename oC.data = _ => dC
  have hTB : TabL g' gqual ps [] := tab_hide hpre.2.2 (N _ (.head _)).1 hg'
  (rename Fr _ _ _ _ => F1)
  have hL1 := ltN (Fr.ns F1).lt
  (rename News _ _ _ _ => N1)
  have hD1 := ltN (Heap.lt_size (N1 (D', listOf wv.toArray c') (by first | exact .head _ | exact .tail _ (.head _) | exact .tail _ (.tail _ (.head _)))).1)
  dsimp only at hD1
  (rename IsRange _ _ _ _ _ _ _ _ => R1)
  have hC : CodeHd g' 153 149 := ⟨_, _, _, _, _, _, _, _, _, X' _ _ (by k_is), rfl, rfl, rfl, rfl, rfl, rfl, rfl, rfl, by decide⟩
  refine' ForGo.mk' (fun (c : List Value × List Int × Int × Tok × Array Value × List (Addr × Obj)) => [(Str.ofString "rows", Value.ref rl), (Str.ofString "side", Value.int (side : Int) ts), (Str.ofString "table", Value.int c.2.2.1 c.2.2.2.1)])
    (fun c => [(D', listOf c.1.toArray c'), (L' + 1, oC), (149, tabObj c.2.2.2.2.1)] ++ c.2.2.2.2.2)
    (fun i c _ => IntsAre c.1 c.2.1 ∧ Five c.2.1 ∧ galeF rn side wn i = some (c.2.1, c.2.2.1) ∧ TabL g' gqual c.2.2.2.2.1 c.2.2.2.2.2 ∧ ∀ q ∈ c.2.2.2.2.2, D' < q.1) (wv, wn, 0, _, ps, [])
    (FSrcT.range (n := 5) rfl R1 (by decide) (by decide)) F1 (newsSub N1 ?hsub) ?hps (Fr.ns F1).lt ?hlt ?hJ (fun _ _ _ _ q _ => q) ?step ?done
  case hsub => intro q hq; simp only [List.append_nil, List.mem_cons, List.not_mem_nil, or_false] at hq ⊢; rcases hq with rfl | rfl | rfl <;> simp
  case hps => kst_all
  case hlt =>
    intro q hq
    exact Heap.lt_size (N1 q (by simp only [List.append_nil, List.mem_cons, List.not_mem_nil, or_false] at hq ⊢; rcases hq with rfl | rfl | rfl <;> simp)).1
  case hJ => exact ⟨hw, hw5, rfl, hTB, fun q hq => by cases hq⟩
  case step =>
    rintro i ⟨lv, ln, tab, tt, ps1, ex⟩ v m₁ h tk own wr hi hP hJ hT F2 N2 hw2 ho2 hb2
    obtain ⟨ti, rfl⟩ := hP
    obtain ⟨j1, j2, j3, j4, j5⟩ := hJ
    dsimp only at F2 N2 j1 j2 j3 j4 j5 hT
    k_steps
    (rename Fr _ _ _ _ => F3)
    (rename News _ _ _ _ => N3)
    (rename IsRange _ _ _ _ _ _ _ _ => R3)
    have hL3 := ltN (Fr.ns F3).lt
    obtain ⟨oA, eA⟩ := newsHead N3
    subst eA
    (rename ∀ p ∈ own ++ ([(D', listOf lv.toArray c'), (L' + 1, oC), (149, tabObj ps1)] ++ ex), p.1 < oA => lA)
    have hOA := ltN (Heap.lt_size (N3 _ (.head _)).1)
    have lD := ltN (lA (D', listOf lv.toArray c') (mem_r (.head _)))
    dsimp only at lD hL1 hL3 hOA
    refine' ForGo.mk' (fun (c : List Value × Nat × Array Value × List (Addr × Obj)) => [(Str.ofString "rows", Value.ref rl), (Str.ofString "side", Value.int (side : Int) ts), (Str.ofString "table", Value.int tab tt), (Str.ofString "i", Value.int (0 + (i : Int)) ti), (Str.ofString "order", Value.ref oA)])
      (fun c => [(oA, listOf c.1.toArray c.2.1), (D', listOf lv.toArray c'), (L' + 1, oC), (149, tabObj c.2.2.1)] ++ (c.2.2.2 ++ own))
      (fun k c _ => IntsAre c.1 (castL (ordK side (cmp5 (natsOf ln)) k)) ∧ TabL g' gqual c.2.2.1 c.2.2.2 ∧ ∀ q ∈ c.2.2.2, D' < q.1 ∧ q.1 ≠ oA ∧ q.1 ∉ wr) ([], 0, ps1, ex)
      (FSrcT.range (n := 5) rfl R3 (by decide) (by decide)) F3 (newsSub N3 ?hsub2) ?hps2 (Fr.ns F3).lt ?hlt2 ?hJ2 (fun _ _ _ _ q _ => q) ?step2 ?done2
    case hsub2 => intro q hq; simp only [List.append_nil, List.mem_cons, List.not_mem_nil, or_false, List.mem_append, List.cons_append, List.nil_append, or_assoc] at hq ⊢; (rcases hq with h | h | h | h | h | h <;> simp only [h, true_or, or_true])
    case hps2 => kst_all
    case hlt2 =>
      intro q hq
      exact Heap.lt_size (N3 q (by simp only [List.append_nil, List.mem_cons, List.not_mem_nil, or_false, List.mem_append, List.cons_append, List.nil_append, or_assoc] at hq ⊢; (rcases hq with h | h | h | h | h | h <;> simp only [h, true_or, or_true]))).1
    case hJ2 => exact ⟨.nil, j4, fun q hq => ⟨j5 q hq, Nat.ne_of_lt (lA q (by simp only [List.mem_append]; exact .inr (.inr hq))), hw2 q (mem_r hq)⟩⟩
    case step2 =>
      rintro k ⟨ov, nO, ps2, ex2⟩ v m₂ h4 tk4 own4 wr4 hi4 hP4 hJ4 hT4 F4 N4 hw4 ho4 hb4
      obtain ⟨t4, e4⟩ := hP4
      rw [Int.zero_add] at e4
      subst e4
      obtain ⟨o1, o2, o3⟩ := hJ4
      dsimp only at F4 N4 o1 o2 o3 hT4
      clear F2 F3
      k_steps
      · unfold Halt
        (rename Fr _ _ _ _ => F5)
        (rename News _ _ _ _ => N5)
        refine lam_any (qual := gqual) F5 N5 T' hC rfl (ps := ps2) (ex := ex2) (mem_r (.tail _ (.tail _ (.tail _ (.head _))))) o2 (fun q hq => ⟨mem_r (mem_r (mem_l hq)), neN (by have := ltN (o3 q hq).1; (first | (law_clear; lia) | lia | omega))⟩) rfl ?_
        intro f9 c9 ctv9 h9 tk9 ps9 ex9 oF9 eF9 F9 NB9 TB9 nP9 rec9 lt9 nw9 exl9 kp9 cc9
        have bO : ∀ q ∈ own, @LT.lt Nat _ L' q.1 := fun q hq => by have a := own_ge (hb2.2.1 q hq); dsimp only at a; (first | (law_clear; lia) | lia | omega)
        have bO4 : ∀ q ∈ own4, @LT.lt Nat _ L' q.1 := fun q hq => by have a := own_ge (hb4.2.1 q hq); dsimp only at a; (first | (law_clear; lia) | lia | omega)
        have N9 := NB9 ((f9, oF9) :: (oA, listOf ov.toArray nO) :: (D', listOf lv.toArray c') :: (L' + 1, oC) :: (149, tabObj ps9) :: (ex9 ++ own ++ own4)) (by
          intro q hq
          simp only [List.mem_cons, List.mem_append, or_assoc] at hq
          rcases hq with rfl | rfl | rfl | rfl | rfl | h | h | h
          · exact .inr (.inr (.inl rfl))
          · exact .inl ⟨mem_r (.head _), neN (by (first | (law_clear; lia) | lia | omega))⟩
          · exact .inl ⟨mem_r (.tail _ (.head _)), neN (by (first | (law_clear; lia) | lia | omega))⟩
          · exact .inl ⟨mem_r (.tail _ (.tail _ (.head _))), neN (by (first | (law_clear; lia) | lia | omega))⟩
          · exact .inr (.inl rfl)
          · exact .inr (.inr (.inr h))
          · exact .inl ⟨mem_r (mem_r (mem_r h)), neN (by have := bO q h; (first | (law_clear; lia) | lia | omega))⟩
          · exact .inl ⟨mem_l h, neN (by have := bO4 q h; (first | (law_clear; lia) | lia | omega))⟩)
        have hK : KeyInt f9 2 (fun c => -(ln.getD c.toNat 0)) (fun b => b = f9 ∨ b = c9 ∨ b = L' + 1 ∨ b = D') (GKey f9 c9 (L' + 1) D' oF9 oC (listOf lv.toArray c')) := by
          subst eF9
          refine ⟨fun h h' => GKey.mono h h', fun h x => ⟨_, _, _, _, x.1⟩, fun c t h0 h5 => ?_⟩
          have hlen8 := j2.1
          unfold PSpec; intro prog w p loose mean mg mb dp un gd cn cs a ccd cl outer A₀ base h₀ L m s Q E B F X T hk hd9 hu9 hpre hret; refine wpAny_both ?_
          k_dflt (refine' enterPL ?k1 ?k2 ?k3 ?k5 ?kA ?kF ?kK ?k6 ?k7 ?k8 ?k9 ?kB ?_ ?c2 ?c3 ?c4 ?c5; (case kA => exact rfl); (case kF => exact rfl); (case kK => assumption); (case k1 => k_asm); (case k2 => k_asm); (case k3 => k_asm); (case k5 => k_asm); (case k6 => exact hpre.1); (case k7 => exact hpre.2.1); (case k8 => ktr_room); (case k9 => exact rfl); (case c5 => decide); (case kB => exact locs rfl); (case c2 => exact rfl); (case c3 => exact rfl); (case c4 => exact rfl); k_whole; intro g8 L8 h8 tk8 eg8 ht8 F8 N8 B8 X8 T8; (try dsimp only); (try k_lift B8); (try k_fold))
          have hcell8 : g8.get? (L' + 1) = some oC := eg8 ▸ hpre.2.2.1
          have hleft8 : g8.IsList D' lv.toArray := ⟨_, eg8 ▸ hpre.2.2.2, rfl, _, rfl⟩
          k_steps
          unfold Halt
          (try k_fold)
          refine PSpec.useA (A₀ := _) (neg_p _ _) (by k_asm) (by k_asm) (by k_asm) (by assumption) (by k_asm) (by exact rfl) (by exact rfl) (by (try dsimp +zetaDelta only [ktrTop, Around.deeper]); first | (first | (law_clear; lia) | lia | omega) | decide) (by (try dsimp +zetaDelta only [ktrTop, Around.deeper]); first | (first | (law_clear; lia) | lia | omega) | decide) (trivial) ?_; intro v9 h9 tk9 F9 N9 kp9 ht9 hz9 hp9; (try dsimp only at hp9 ht9 hz9 kp9)
          obtain ⟨t8, rfl, _, _⟩ := hp9
          (try dsimp only)
          exact PLeave.intro (by assumption) fun kp ht hz => hret _ _ _ (eg8 ▸ kp) ht hz ⟨_, rfl⟩
        k_steps
        unfold Halt
        (try k_fold)
        have hs0 : side = 0 := by (first | (law_clear; lia) | lia | omega)
        have hx9 : ∀ q ∈ ex9, D' < q.1 ∧ q.1 ≠ oA ∧ q.1 ∉ wr := fun q hq => (nw9 q hq).elim (fun h => o3 q h) fun h => ⟨h (D', listOf lv.toArray c') (mem_r (.tail _ (.head _))), (Nat.ne_of_lt (h (oA, listOf ov.toArray nO) (mem_r (.head _)))).symm, fun hw => by obtain ⟨o, ho⟩ := hb2.2.2 q.1 hw; exact Nat.lt_irrefl _ (h (q.1, o) (mem_r (mem_r (mem_r ho))))⟩
        have hc9 : c9 ≠ oA := fun q => cc9.elim (fun x => by
          obtain ⟨c2, o2', vs2, t2, e2, e3, _⟩ := x
          cases e2
          rw [q, (N9 (oA, listOf ov.toArray nO) (.tail _ (.head _))).2.2] at e3; cases e3) fun ⟨oc, x⟩ => (hx9 _ x).2.1 q
        have hDn : Down (fun i => !decide ((fun (c : Int) => -(ln.getD c.toNat 0)) (k : Int) < (fun (c : Int) => -(ln.getD c.toNat 0)) ((castL (ordK side (cmp5 (natsOf ln)) k)).getD i 0))) (castL (ordK side (cmp5 (natsOf ln)) k)).length := by
          subst hs0
          have e := insQ_down j2 hi4 (side := 0) (by (first | (law_clear; lia) | lia | omega))
          rw [← funext (ins_right j2 hi4)] at e
          simpa [castL] using e
        refine ESpec.useA (A₀ := _) (insortR_e f9 _ _ _ hK (k : Int) t4 oA (by
          intro q
          have lf := ltN (lt9 (oA, listOf ov.toArray nO) (mem_r (.head _)))
          dsimp only at lf
          rcases q with q | q | q | q
          · exact neN (by (first | (law_clear; lia) | lia | omega)) q
          · exact hc9 q.symm
          · exact neN (by (first | (law_clear; lia) | lia | omega)) q
          · exact neN (by (first | (law_clear; lia) | lia | omega)) q) ov _ nO o1 (by simp [castL, ordK_length]; (first | (law_clear; lia) | lia | omega)) (by intro c hc; simp only [castL, List.mem_map] at hc; obtain ⟨y, hy, rfl⟩ := hc; have := ordK_lt _ _ _ y hy; (first | (law_clear; lia) | lia | omega)) (by (first | (law_clear; lia) | lia | omega)) (by (first | (law_clear; lia) | lia | omega)) hDn) B' F9 N9 (fun q hq => by rw [List.mem_singleton.mp hq]; exact .tail _ (.head _)) X' T' (by exact rfl) (by exact rfl) (by (try dsimp +zetaDelta only [ktrTop, Around.deeper]); (first | (law_clear; lia) | lia | omega)) (by (try dsimp +zetaDelta only [ktrTop, Around.deeper]); (first | (law_clear; lia) | lia | omega)) ?hpreG ?_
        case hpreG => exact ⟨(N9 _ (.head _)).1, rec9, (N9 (L' + 1, oC) (.tail _ (.tail _ (.tail _ (.head _))))).1, (N9 (D', listOf lv.toArray c') (.tail _ (.tail _ (.head _)))).1⟩
        intro v8 h8 tk8 F8 NB8 kp8 ht8 hz8 hp8
        obtain ⟨rfl, r8, hc8, hg8⟩ := hp8
        have bA : ∀ q ∈ own, @LT.lt Nat _ q.1 oA := fun q hq => lA q (mem_l hq)
        have bA4 : ∀ q ∈ own4, @LT.lt Nat _ oA q.1 := fun q hq => by have a := own_ge (hb4.2.1 q hq); dsimp only at a; (first | (law_clear; lia) | lia | omega)
        have N8 := NB8 ((oA, listOf (ov.take r8 ++ .int (k : Int) t4 :: ov.drop r8).toArray (nO + 1)) :: (D', listOf lv.toArray c') :: (L' + 1, oC) :: (149, tabObj ps9) :: (ex9 ++ own ++ own4)) (by
          intro q hq
          simp only [List.mem_cons, List.mem_append, or_assoc] at hq
          rcases hq with rfl | rfl | rfl | rfl | h | h | h
          · exact .inr ⟨.head _, hg8⟩
          · exact .inl ⟨.tail _ (.tail _ (.head _)), fun x => (show _ ≠ oA from neN (by (try dsimp only); (first | (law_clear; lia) | lia | omega))) (List.mem_singleton.mp x)⟩
          · exact .inl ⟨.tail _ (.tail _ (.tail _ (.head _))), fun x => (show _ ≠ oA from neN (by (try dsimp only); (first | (law_clear; lia) | lia | omega))) (List.mem_singleton.mp x)⟩
          · exact .inl ⟨.tail _ (.tail _ (.tail _ (.tail _ (.head _)))), fun x => (show _ ≠ oA from neN (by (try dsimp only); (first | (law_clear; lia) | lia | omega))) (List.mem_singleton.mp x)⟩
          · exact .inl ⟨.tail _ (.tail _ (.tail _ (.tail _ (.tail _ (mem_l (mem_l h)))))), fun x => (hx9 q h).2.1 (List.mem_singleton.mp x)⟩
          · exact .inl ⟨.tail _ (.tail _ (.tail _ (.tail _ (.tail _ (mem_l (mem_r h)))))), fun x => (show _ ≠ oA from neN (by have := bA q h; (first | (law_clear; lia) | lia | omega))) (List.mem_singleton.mp x)⟩
          · exact .inl ⟨.tail _ (.tail _ (.tail _ (.tail _ (.tail _ (mem_r h))))), fun x => (show _ ≠ oA from neN (by have := bA4 q h; (first | (law_clear; lia) | lia | omega))) (List.mem_singleton.mp x)⟩)
        clear N9
        k_steps
        refine FEnd.intro (ov.take r8 ++ .int (k : Int) t4 :: ov.drop r8, nO + 1, ps9, ex9) (by assumption) N8 (fun q hq => .tail _ (.tail _ (.tail _ (.tail _ (mem_r hq))))) ?_ (by kst_all) fun _ => ⟨?_, TB9, hx9⟩
        · intro q hq
          simp only [List.cons_append, List.nil_append, List.mem_cons, List.mem_append, or_assoc] at hq
          rcases hq with rfl | rfl | rfl | rfl | h | h
          · exact ⟨.head _, hw4 (oA, listOf ov.toArray nO) (.head _)⟩
          · exact ⟨.tail _ (.head _), hw4 (D', listOf lv.toArray c') (.tail _ (.head _))⟩
          · exact ⟨.tail _ (.tail _ (.head _)), hw4 (L' + 1, oC) (.tail _ (.tail _ (.head _)))⟩
          · exact ⟨.tail _ (.tail _ (.tail _ (.head _))), hw4 (149, tabObj ps2) (.tail _ (.tail _ (.tail _ (.head _))))⟩
          · refine ⟨.tail _ (.tail _ (.tail _ (.tail _ (mem_l (mem_l h))))), fun hw => ?_⟩
            rcases nw9 q h with x | x
            · exact hw4 q (mem_r (mem_l x)) hw
            · obtain ⟨o, ho⟩ := hb4.2.2 q.1 hw
              exact Nat.lt_irrefl _ (x (q.1, o) (mem_l ho))
          · exact ⟨.tail _ (.tail _ (.tail _ (.tail _ (mem_l (mem_r h))))), hw4 q (mem_r (mem_r h))⟩
        · subst hs0
          exact ord_next o1 (by rw [← funext (ins_right j2 hi4)]; simpa [castL] using hc8)
      · unfold Halt
        (rename Fr _ _ _ _ => F5)
        (rename News _ _ _ _ => N5)
        refine lam_any (qual := gqual) F5 N5 T' hC rfl (ps := ps2) (ex := ex2) (mem_r (.tail _ (.tail _ (.tail _ (.head _))))) o2 (fun q hq => ⟨mem_r (mem_r (mem_l hq)), neN (by have := ltN (o3 q hq).1; (first | (law_clear; lia) | lia | omega))⟩) rfl ?_
        intro f9 c9 ctv9 h9 tk9 ps9 ex9 oF9 eF9 F9 NB9 TB9 nP9 rec9 lt9 nw9 exl9 kp9 cc9
        have bO : ∀ q ∈ own, @LT.lt Nat _ L' q.1 := fun q hq => by have a := own_ge (hb2.2.1 q hq); dsimp only at a; (first | (law_clear; lia) | lia | omega)
        have bO4 : ∀ q ∈ own4, @LT.lt Nat _ L' q.1 := fun q hq => by have a := own_ge (hb4.2.1 q hq); dsimp only at a; (first | (law_clear; lia) | lia | omega)
        have N9 := NB9 ((f9, oF9) :: (oA, listOf ov.toArray nO) :: (D', listOf lv.toArray c') :: (L' + 1, oC) :: (149, tabObj ps9) :: (ex9 ++ own ++ own4)) (by
          intro q hq
          simp only [List.mem_cons, List.mem_append, or_assoc] at hq
          rcases hq with rfl | rfl | rfl | rfl | rfl | h | h | h
          · exact .inr (.inr (.inl rfl))
          · exact .inl ⟨mem_r (.head _), neN (by (first | (law_clear; lia) | lia | omega))⟩
          · exact .inl ⟨mem_r (.tail _ (.head _)), neN (by (first | (law_clear; lia) | lia | omega))⟩
          · exact .inl ⟨mem_r (.tail _ (.tail _ (.head _))), neN (by (first | (law_clear; lia) | lia | omega))⟩
          · exact .inr (.inl rfl)
          · exact .inr (.inr (.inr h))
          · exact .inl ⟨mem_r (mem_r (mem_r h)), neN (by have := bO q h; (first | (law_clear; lia) | lia | omega))⟩
          · exact .inl ⟨mem_l h, neN (by have := bO4 q h; (first | (law_clear; lia) | lia | omega))⟩)
        have hK : KeyInt f9 2 (fun c => -(ln.getD c.toNat 0)) (fun b => b = f9 ∨ b = c9 ∨ b = L' + 1 ∨ b = D') (GKey f9 c9 (L' + 1) D' oF9 oC (listOf lv.toArray c')) := by
          subst eF9
          refine ⟨fun h h' => GKey.mono h h', fun h x => ⟨_, _, _, _, x.1⟩, fun c t h0 h5 => ?_⟩
          have hlen8 := j2.1
          unfold PSpec; intro prog w p loose mean mg mb dp un gd cn cs a ccd cl outer A₀ base h₀ L m s Q E B F X T hk hd9 hu9 hpre hret; refine wpAny_both ?_
          k_dflt (refine' enterPL ?k1 ?k2 ?k3 ?k5 ?kA ?kF ?kK ?k6 ?k7 ?k8 ?k9 ?kB ?_ ?c2 ?c3 ?c4 ?c5; (case kA => exact rfl); (case kF => exact rfl); (case kK => assumption); (case k1 => k_asm); (case k2 => k_asm); (case k3 => k_asm); (case k5 => k_asm); (case k6 => exact hpre.1); (case k7 => exact hpre.2.1); (case k8 => ktr_room); (case k9 => exact rfl); (case c5 => decide); (case kB => exact locs rfl); (case c2 => exact rfl); (case c3 => exact rfl); (case c4 => exact rfl); k_whole; intro g8 L8 h8 tk8 eg8 ht8 F8 N8 B8 X8 T8; (try dsimp only); (try k_lift B8); (try k_fold))
          have hcell8 : g8.get? (L' + 1) = some oC := eg8 ▸ hpre.2.2.1
          have hleft8 : g8.IsList D' lv.toArray := ⟨_, eg8 ▸ hpre.2.2.2, rfl, _, rfl⟩
          k_steps
          unfold Halt
          (try k_fold)
          refine PSpec.useA (A₀ := _) (neg_p _ _) (by k_asm) (by k_asm) (by k_asm) (by assumption) (by k_asm) (by exact rfl) (by exact rfl) (by (try dsimp +zetaDelta only [ktrTop, Around.deeper]); first | (first | (law_clear; lia) | lia | omega) | decide) (by (try dsimp +zetaDelta only [ktrTop, Around.deeper]); first | (first | (law_clear; lia) | lia | omega) | decide) (trivial) ?_; intro v9 h9 tk9 F9 N9 kp9 ht9 hz9 hp9; (try dsimp only at hp9 ht9 hz9 kp9)
          obtain ⟨t8, rfl, _, _⟩ := hp9
          (try dsimp only)
          exact PLeave.intro (by assumption) fun kp ht hz => hret _ _ _ (eg8 ▸ kp) ht hz ⟨_, rfl⟩
        k_steps
        unfold Halt
        (try k_fold)
        have hs0 : side = 1 := by (first | (law_clear; lia) | lia | omega)
        have hx9 : ∀ q ∈ ex9, D' < q.1 ∧ q.1 ≠ oA ∧ q.1 ∉ wr := fun q hq => (nw9 q hq).elim (fun h => o3 q h) fun h => ⟨h (D', listOf lv.toArray c') (mem_r (.tail _ (.head _))), (Nat.ne_of_lt (h (oA, listOf ov.toArray nO) (mem_r (.head _)))).symm, fun hw => by obtain ⟨o, ho⟩ := hb2.2.2 q.1 hw; exact Nat.lt_irrefl _ (h (q.1, o) (mem_r (mem_r (mem_r ho))))⟩
        have hc9 : c9 ≠ oA := fun q => cc9.elim (fun x => by
          obtain ⟨c2, o2', vs2, t2, e2, e3, _⟩ := x
          cases e2
          rw [q, (N9 (oA, listOf ov.toArray nO) (.tail _ (.head _))).2.2] at e3; cases e3) fun ⟨oc, x⟩ => (hx9 _ x).2.1 q
        have hDn : Down (fun i => decide ((fun (c : Int) => -(ln.getD c.toNat 0)) ((castL (ordK side (cmp5 (natsOf ln)) k)).getD i 0) < (fun (c : Int) => -(ln.getD c.toNat 0)) (k : Int))) (castL (ordK side (cmp5 (natsOf ln)) k)).length := by
          subst hs0
          have e := insQ_down j2 hi4 (side := 1) (by (first | (law_clear; lia) | lia | omega))
          rw [← funext (ins_left j2 hi4)] at e
          simpa [castL] using e
        refine ESpec.useA (A₀ := _) (insortL_e f9 _ _ _ hK (k : Int) t4 oA (by
          intro q
          have lf := ltN (lt9 (oA, listOf ov.toArray nO) (mem_r (.head _)))
          dsimp only at lf
          rcases q with q | q | q | q
          · exact neN (by (first | (law_clear; lia) | lia | omega)) q
          · exact hc9 q.symm
          · exact neN (by (first | (law_clear; lia) | lia | omega)) q
          · exact neN (by (first | (law_clear; lia) | lia | omega)) q) ov _ nO o1 (by simp [castL, ordK_length]; (first | (law_clear; lia) | lia | omega)) (by intro c hc; simp only [castL, List.mem_map] at hc; obtain ⟨y, hy, rfl⟩ := hc; have := ordK_lt _ _ _ y hy; (first | (law_clear; lia) | lia | omega)) (by (first | (law_clear; lia) | lia | omega)) (by (first | (law_clear; lia) | lia | omega)) hDn) B' F9 N9 (fun q hq => by rw [List.mem_singleton.mp hq]; exact .tail _ (.head _)) X' T' (by exact rfl) (by exact rfl) (by (try dsimp +zetaDelta only [ktrTop, Around.deeper]); (first | (law_clear; lia) | lia | omega)) (by (try dsimp +zetaDelta only [ktrTop, Around.deeper]); (first | (law_clear; lia) | lia | omega)) ?hpreG ?_
        case hpreG => exact ⟨(N9 _ (.head _)).1, rec9, (N9 (L' + 1, oC) (.tail _ (.tail _ (.tail _ (.head _))))).1, (N9 (D', listOf lv.toArray c') (.tail _ (.tail _ (.head _)))).1⟩
        intro v8 h8 tk8 F8 NB8 kp8 ht8 hz8 hp8
        obtain ⟨rfl, r8, hc8, hg8⟩ := hp8
        have bA : ∀ q ∈ own, @LT.lt Nat _ q.1 oA := fun q hq => lA q (mem_l hq)
        have bA4 : ∀ q ∈ own4, @LT.lt Nat _ oA q.1 := fun q hq => by have a := own_ge (hb4.2.1 q hq); dsimp only at a; (first | (law_clear; lia) | lia | omega)
        have N8 := NB8 ((oA, listOf (ov.take r8 ++ .int (k : Int) t4 :: ov.drop r8).toArray (nO + 1)) :: (D', listOf lv.toArray c') :: (L' + 1, oC) :: (149, tabObj ps9) :: (ex9 ++ own ++ own4)) (by
          intro q hq
          simp only [List.mem_cons, List.mem_append, or_assoc] at hq
          rcases hq with rfl | rfl | rfl | rfl | h | h | h
          · exact .inr ⟨.head _, hg8⟩
          · exact .inl ⟨.tail _ (.tail _ (.head _)), fun x => (show _ ≠ oA from neN (by (try dsimp only); (first | (law_clear; lia) | lia | omega))) (List.mem_singleton.mp x)⟩
          · exact .inl ⟨.tail _ (.tail _ (.tail _ (.head _))), fun x => (show _ ≠ oA from neN (by (try dsimp only); (first | (law_clear; lia) | lia | omega))) (List.mem_singleton.mp x)⟩
          · exact .inl ⟨.tail _ (.tail _ (.tail _ (.tail _ (.head _)))), fun x => (show _ ≠ oA from neN (by (try dsimp only); (first | (law_clear; lia) | lia | omega))) (List.mem_singleton.mp x)⟩
          · exact .inl ⟨.tail _ (.tail _ (.tail _ (.tail _ (.tail _ (mem_l (mem_l h)))))), fun x => (hx9 q h).2.1 (List.mem_singleton.mp x)⟩
          · exact .inl ⟨.tail _ (.tail _ (.tail _ (.tail _ (.tail _ (mem_l (mem_r h)))))), fun x => (show _ ≠ oA from neN (by have := bA q h; (first | (law_clear; lia) | lia | omega))) (List.mem_singleton.mp x)⟩
          · exact .inl ⟨.tail _ (.tail _ (.tail _ (.tail _ (.tail _ (mem_r h))))), fun x => (show _ ≠ oA from neN (by have := bA4 q h; (first | (law_clear; lia) | lia | omega))) (List.mem_singleton.mp x)⟩)
        clear N9
        k_steps
        refine FEnd.intro (ov.take r8 ++ .int (k : Int) t4 :: ov.drop r8, nO + 1, ps9, ex9) (by assumption) N8 (fun q hq => .tail _ (.tail _ (.tail _ (.tail _ (mem_r hq))))) ?_ (by kst_all) fun _ => ⟨?_, TB9, hx9⟩
        · intro q hq
          simp only [List.cons_append, List.nil_append, List.mem_cons, List.mem_append, or_assoc] at hq
          rcases hq with rfl | rfl | rfl | rfl | h | h
          · exact ⟨.head _, hw4 (oA, listOf ov.toArray nO) (.head _)⟩
          · exact ⟨.tail _ (.head _), hw4 (D', listOf lv.toArray c') (.tail _ (.head _))⟩
          · exact ⟨.tail _ (.tail _ (.head _)), hw4 (L' + 1, oC) (.tail _ (.tail _ (.head _)))⟩
          · exact ⟨.tail _ (.tail _ (.tail _ (.head _))), hw4 (149, tabObj ps2) (.tail _ (.tail _ (.tail _ (.head _))))⟩
          · refine ⟨.tail _ (.tail _ (.tail _ (.tail _ (mem_l (mem_l h))))), fun hw => ?_⟩
            rcases nw9 q h with x | x
            · exact hw4 q (mem_r (mem_l x)) hw
            · obtain ⟨o, ho⟩ := hb4.2.2 q.1 hw
              exact Nat.lt_irrefl _ (x (q.1, o) (mem_l ho))
          · exact ⟨.tail _ (.tail _ (.tail _ (.tail _ (mem_l (mem_r h))))), hw4 q (mem_r (mem_r h))⟩
        · subst hs0
          exact ord_next o1 (by rw [← funext (ins_left j2 hi4)]; simpa [castL] using hc8)
    case done2 =>
      rintro ⟨ov, nO, ps2, ex2⟩ m₂ h4 tk4 hJ4 hT4 F4 N4
      obtain ⟨o1, o2, o3⟩ := hJ4
      dsimp only at F4 N4 o1 o2 o3 hT4
      clear F2 F3
      k_steps
      unfold Halt
      (try k_fold)
      (rename Fr _ _ _ _ => F5)
      (rename News _ _ _ _ => N5)
      obtain ⟨m5, em5⟩ := frMap F5
      obtain ⟨ld5, el5⟩ := newsLed N5
      rw [← em5] at F5
      rw [← el5] at N5
      refine wpAny_mono (Q := fun v s' => Halt (∃ (D : Addr) (ws : List Value) (n : Nat) (h' : Heap) (tk' : Nat), v = .ref D ∧ s' = { heap := h', gens := s.gens, drawn := s.drawn, toks := tk', os := s.os } ∧ Fr g' L' h' m5 ∧ News g' L' h' ((D, listOf ws.toArray n) :: ld5) ∧ IntsAre ws (srcL side))) ?hif ?hjn (fun _ _ x => x)
      case hif =>
        subst em5
        subst el5
        with_reducible refine IfExp_ ?_
        k_steps
        · unfold Halt
          exact ⟨_, _, _, _, _, rfl, rfl, by assumption, by assumption, by rw [show side = 0 by (first | (law_clear; lia) | lia | omega)]; exact .cons _ _ (.cons _ _ (.cons _ _ (.cons _ _ (.cons _ _ .nil))))⟩
        · unfold Halt
          exact ⟨_, _, _, _, _, rfl, rfl, by assumption, by assumption, by rw [show side = 1 by (first | (law_clear; lia) | lia | omega)]; exact .cons _ _ (.cons _ _ (.cons _ _ (.cons _ _ (.cons _ _ .nil))))⟩
      case hjn =>
        clear F5 N5
        intro v5 s5 hP5
        unfold Halt at hP5
        obtain ⟨lA5, ws5, n5, h5, tk5, rfl, rfl, F5, N5, hi5⟩ := hP5
        subst em5
        subst el5
        (try dsimp only)
        k_steps
        unfold Halt
        (try k_fold)
        (rename Fr _ _ _ _ => F5)
        (rename News _ _ _ _ => N5)
        obtain ⟨oL5, eO5⟩ : ∃ o, o = listOf ws5.toArray n5 := ⟨_, rfl⟩
        rw [← eO5] at N5
        refine lam_any (qual := gqual) F5 N5 T' hC rfl (ps := ps2) (ex := ex2) (.tail _ (.tail _ (.tail _ (.tail _ (.head _))))) o2 (fun q hq => ⟨.tail _ (mem_r (mem_l hq)), neN (by have := ltN (o3 q hq).1; (first | (law_clear; lia) | lia | omega))⟩) rfl ?_
        intro f9 c9 ctv9 h9 tk9 ps9 ex9 oF9 eF9 F9 NB9 TB9 nP9 rec9 lt9 nw9 exl9 kp9 cc9
        have bO : ∀ q ∈ own, @LT.lt Nat _ L' q.1 := fun q hq => by have a := own_ge (hb2.2.1 q hq); dsimp only at a; (first | (law_clear; lia) | lia | omega)
        have nL5 : lA5 ≠ 149 := fun q => by
          have a := (N5 _ (.head _)).1
          have b := (N5 (149, tabObj ps2) (.tail _ (.tail _ (.tail _ (.tail _ (.head _)))))).1
          rw [q, b, eO5] at a
          cases a
        have N9 := NB9 ((f9, oF9) :: (lA5, oL5) :: (oA, listOf ov.toArray nO) :: (D', listOf lv.toArray c') :: (L' + 1, oC) :: (149, tabObj ps9) :: (ex9 ++ own)) (by
          intro q hq
          simp only [List.mem_cons, List.mem_append, or_assoc] at hq
          rcases hq with rfl | rfl | rfl | rfl | rfl | rfl | h | h
          · exact .inr (.inr (.inl rfl))
          · exact .inl ⟨.head _, nL5⟩
          · exact .inl ⟨.tail _ (.head _), neN (by (first | (law_clear; lia) | lia | omega))⟩
          · exact .inl ⟨.tail _ (.tail _ (.head _)), neN (by (first | (law_clear; lia) | lia | omega))⟩
          · exact .inl ⟨.tail _ (.tail _ (.tail _ (.head _))), neN (by (first | (law_clear; lia) | lia | omega))⟩
          · exact .inr (.inl rfl)
          · exact .inr (.inr (.inr h))
          · exact .inl ⟨.tail _ (mem_r (mem_r h)), neN (by have := bO q h; (first | (law_clear; lia) | lia | omega))⟩)
        have hK : KeyInt f9 2 (fun c => -(ln.getD c.toNat 0)) (fun b => b = f9 ∨ b = c9 ∨ b = L' + 1 ∨ b = D') (GKey f9 c9 (L' + 1) D' oF9 oC (listOf lv.toArray c')) := by
          subst eF9
          refine ⟨fun h h' => GKey.mono h h', fun h x => ⟨_, _, _, _, x.1⟩, fun c t h0 h5 => ?_⟩
          have hlen8 := j2.1
          unfold PSpec; intro prog w p loose mean mg mb dp un gd cn cs a ccd cl outer A₀ base h₀ L m s Q E B F X T hk hd9 hu9 hpre hret; refine wpAny_both ?_
          k_dflt (refine' enterPL ?k1 ?k2 ?k3 ?k5 ?kA ?kF ?kK ?k6 ?k7 ?k8 ?k9 ?kB ?_ ?c2 ?c3 ?c4 ?c5; (case kA => exact rfl); (case kF => exact rfl); (case kK => assumption); (case k1 => k_asm); (case k2 => k_asm); (case k3 => k_asm); (case k5 => k_asm); (case k6 => exact hpre.1); (case k7 => exact hpre.2.1); (case k8 => ktr_room); (case k9 => exact rfl); (case c5 => decide); (case kB => exact locs rfl); (case c2 => exact rfl); (case c3 => exact rfl); (case c4 => exact rfl); k_whole; intro g8 L8 h8 tk8 eg8 ht8 F8 N8 B8 X8 T8; (try dsimp only); (try k_lift B8); (try k_fold))
          have hcell8 : g8.get? (L' + 1) = some oC := eg8 ▸ hpre.2.2.1
          have hleft8 : g8.IsList D' lv.toArray := ⟨_, eg8 ▸ hpre.2.2.2, rfl, _, rfl⟩
          k_steps
          (try dsimp only)
          exact PLeave.intro (by assumption) fun kp ht hz => hret _ _ _ (eg8 ▸ kp) ht hz ⟨_, rfl⟩
        have hl9 : ∃ vs, h9.IsList lA5 vs.toArray ∧ IntsAre vs (srcL side) := by
          have e := (N9 (lA5, oL5) (.tail _ (.head _))).1
          rw [eO5] at e
          exact ⟨_, ⟨_, e, rfl, _, rfl⟩, hi5⟩
        clear eO5
        obtain ⟨vs9, hl9, hi9⟩ := hl9
        k_steps
        unfold Halt
        (try k_fold)
        have hd0 : ∀ c ∈ srcL side, 0 ≤ c ∧ c < 5 := by
          have : side = 0 ∨ side = 1 := by (first | (law_clear; lia) | lia | omega)
          rcases this with e | e <;> rw [e] <;> decide
        show wpAny _ _ (call (.builtin "sorted") [.ref lA5] [(Str.ofString "key", .ref f9)]) _ _ _
        refine sortK5 hK B' F9 N9 X' T' rfl rfl (by (try dsimp +zetaDelta only [ktrTop, Around.deeper]); (first | (law_clear; lia) | lia | omega)) (by (try dsimp +zetaDelta only [ktrTop, Around.deeper]); (first | (law_clear; lia) | lia | omega)) hl9 hi9 (by rw [hi9.length]; exact src_len hs) hd0 _ (fun i j hi hj => sort_cmp hs j2 i j hi hj) ?hPs ?_
        case hPs => exact fun h' F0 N0 => ⟨(N0 _ (.head _)).1, rec_of F0 N0 TB9 cc9 (fun q hq => .tail _ (.tail _ (.tail _ (.tail _ (.tail _ (.tail _ (mem_l hq))))))), (N0 (L' + 1, oC) (.tail _ (.tail _ (.tail _ (.tail _ (.head _)))))).1, (N0 (D', listOf lv.toArray c') (.tail _ (.tail _ (.tail _ (.head _))))).1⟩
        intro D9 h8 tk8 cc8 F8 N8 lD9 ht8
        have hA8 : h8.IsList oA ov.toArray := ⟨_, (N8 (oA, _) (.tail _ (.tail _ (.tail _ (.head _))))).1, rfl, _, rfl⟩
        have hD8 : h8.IsList D9 ((permK fun i j => cmp5 (natsOf ln) (sig side j) (sig side i)).map fun i => vs9.getD i Value.none).toArray := ⟨_, (N8 (D9, _) (.head _)).1, rfl, _, rfl⟩
        have hi8 := sort_out (ln := ln) hs hi9
        refine ke_ne_ints hA8 hD8 o1 hi8 (by (try dsimp +zetaDelta only [ktrTop, Around.deeper]); (first | (law_clear; lia) | lia | omega)) ?_
        rw [decide_eq_true (rfl : castL (ordK side (cmp5 (natsOf ln)) 5) = castL (ordK side (cmp5 (natsOf ln)) 5))]
        (try dsimp only [Bool.not_true])
        clear hA8 hD8 hi8
        clear N9
        replace N8 := newsSub N8 fun q hq => .tail _ hq
        k_steps
        unfold Halt
        (try k_fold)
        have hrow := row_in (i := (0 + (i : Int)).toNat) hr9
        refine' kmk_slice_ints (ms := (castL (ordK side (cmp5 (natsOf ln)) 5)).take (rn.getD (0 + (i : Int)).toNat 0).toNat) ?u1 ?u2 ?u3 ?u4 ?u5 o1 (kmk_upto o1 hrow.1) rfl ?_ ?u6 ?u7 ?u8
        case u1 => k_asm
        case u2 => k_asm
        case u3 => kmk_list
        case u4 => kmk_part
        case u5 => kmk_part
        case u6 => with_unfolding_all rfl
        case u7 => kmk_pure
        case u8 => (rw [sizeLine_eq]; have e9 := o1.length; have e8 := ordK_length side (cmp5 (natsOf ln)) 5; simp only [List.size_toArray, castL, List.length_map] at e9 ⊢; (first | (law_clear; lia) | lia | omega))
        intro D7 ws h7 F7 N7 lD7 hi7 _ _
        k_steps
        obtain ⟨cs, ecs⟩ : ∃ cs, cs = (ordK side (cmp5 (natsOf ln)) 5).take (rn.getD i 0).toNat := ⟨_, rfl⟩
        have hi7c : IntsAre ws (castL cs) := by rw [ecs, ← cast_take]; simpa only [Int.zero_add, Int.toNat_natCast] using hi7
        have hcs5 : ∀ c ∈ cs, c < 5 := fun c hc => ordK_lt _ _ 5 c (by rw [ecs] at hc; exact List.mem_of_mem_take hc)
        have hgal : galeF rn side wn (i + 1) = giveF i cs (ln, tab) := by
          show (galeF rn side wn i).bind _ = _
          rw [j3]
          show giveF i ((ordK side (cmp5 (natsOf ln)) 5).take (rn.getD i 0).toNat) (ln, tab) = _
          rw [← ecs]
        have hwl7 : ws.length = cs.length := by rw [hi7c.length]; simp [castL]
        clear hi7 hi9 hl9 N8 F8 F9 N5 F5 hrow
        have hx9 : ∀ q ∈ ex9, D' < q.1 ∧ q.1 ∉ wr := fun q hq => (nw9 q hq).elim (fun h => ⟨(o3 q h).1, (o3 q h).2.2⟩) fun h => ⟨h (D', listOf lv.toArray c') (.tail _ (.tail _ (.head _))), fun hw => by obtain ⟨o, ho⟩ := hb2.2.2 q.1 hw; exact Nat.lt_irrefl _ (h (q.1, o) (.tail _ (mem_r (mem_r ho))))⟩
        have lD8 := fun q (hq : q ∈ [(D', listOf lv.toArray c'), (L' + 1, oC), (149, tabObj ps9)] ++ (ex9 ++ own)) => ltN (lD7 q (.tail _ (.tail _ (.tail _ hq))))
        have bD7 := ltN (Heap.lt_size (N7 _ (.head _)).1)
        have lw7 : ∀ q ∈ [(D', listOf lv.toArray c'), (L' + 1, oC), (149, tabObj ps9)] ++ (ex9 ++ own), @LT.lt Nat _ q.1 D7 := lD8
        refine' ForGo.mk' (fun (c : List Value × List Int × Int × Tok) => [(Str.ofString "rows", Value.ref rl), (Str.ofString "side", Value.int (side : Int) ts), (Str.ofString "table", Value.int c.2.2.1 c.2.2.2), (Str.ofString "i", Value.int (0 + (i : Int)) ti)])
          (fun c => [(D', listOf c.1.toArray c'), (L' + 1, oC), (149, tabObj ps9)] ++ (ex9 ++ own))
          (fun k c _ => IntsAre c.1 c.2.1 ∧ Five c.2.1 ∧ giveF i (cs.take k) (ln, tab) = some (c.2.1, c.2.2.1)) (lv, ln, tab, tt)
          (FSrcT.list rfl ⟨_, (N7 _ (.head _)).1, rfl, _, rfl⟩) F7 (newsSub N7 fun q hq => .tail _ (.tail _ (.tail _ (.tail _ hq)))) ?hps3 (Fr.ns F7).lt ?hlt3 ⟨j1, j2, by rfl⟩ (fun _ _ _ _ q _ => q) ?step3 ?done3
        case hps3 => kst_all
        case hlt3 => exact fun q hq => Heap.lt_size (N7 q (.tail _ (.tail _ (.tail _ (.tail _ hq))))).1
        case step3 =>
          rintro k ⟨lv3, ln3, tab3, tt3⟩ v m₃ h6 tk6 own6 wr6 hi6 hP6 hJ6 hT6 F6 N6 hw6 ho6 hb6
          obtain ⟨p1, p2, p3⟩ := hJ6
          dsimp only at F6 N6 p1 p2 p3 hT6
          have hk6 : k < cs.length := hwl7 ▸ hi6
          obtain ⟨t6, e6⟩ := ints_get hi7c (k := k) (by simp [castL]; exact hk6)
          rw [hP6] at e6
          have ec6 : (castL cs)[k]'(by simp [castL]; exact hk6) = ((cs[k] : Nat) : Int) := by simp [castL]
          rw [ec6] at e6
          cases e6
          obtain ⟨c6, ec7⟩ : ∃ c6, c6 = cs[k] := ⟨_, rfl⟩
          rw [← ec7]
          have hc6 : c6 < 5 := ec7 ▸ hcs5 _ (List.getElem_mem hk6)
          have etk : cs.take (k + 1) = cs.take k ++ [c6] := by rw [ec7, List.take_succ_eq_append_getElem hk6]
          have ecs6 : cs = cs.take k ++ c6 :: cs.drop (k + 1) := by rw [ec7]; simp
          have hlen8 := p2.1
          clear F7 N7
          k_steps
          · rename _ = _ => h0
            (rename Fr _ _ _ _ => Fz)
            (rename News _ _ _ _ => Nz)
            have hgn := giveF_none (i := i) (c := c6) (rest := cs.drop (k + 1)) h0 (cs.take k) (ln, tab) p3
            rw [← ecs6, ← hgal] at hgn
            exact PLeave.intro Fz fun kp ht hz => hret _ _ _ (fun b o hb e => kp b o (hg' b o hb e)) ht hz ⟨.inl ⟨rfl, galeF_none hgn 5 (by (first | (law_clear; lia) | lia | omega))⟩, ps9, (Nz (149, tabObj ps9) (mem_r (.tail _ (.tail _ (.head _))))).1, tab_close Fz Nz TB9 fun q hq => mem_r (mem_r (mem_l hq))⟩
          rename ¬ _ = _ => h0
          unfold Halt
          (try k_fold)
          have h0' : ln3.getD c6 0 ≠ 0 := by simpa only [Int.toNat_natCast] using h0
          refine PSpec.useA (A₀ := _) (sub_p _ _ _ _) (by k_asm) (by k_asm) (by k_asm) (by assumption) (by k_asm) (by exact rfl) (by exact rfl) (by (try dsimp +zetaDelta only [ktrTop, Around.deeper]); first | (first | (law_clear; lia) | lia | omega) | decide) (by (try dsimp +zetaDelta only [ktrTop, Around.deeper]); first | (first | (law_clear; lia) | lia | omega) | decide) (trivial) ?_; intro v9 h9 tk9 F9 N9 kp9 ht9 hz9 hp9; (try dsimp only at hp9 ht9 hz9 kp9)
          obtain ⟨t8, rfl, _, _⟩ := hp9
          k_steps
          unfold Halt
          (try k_fold)
          (rename Fr _ _ _ _ => F5)
          (rename News _ _ _ _ => N5)
          refine ESpec.useA (A₀ := _) (setitem_e D' lv3 ln3 c' (c6 : Int) (ln3.getD ((c6 : Int)).toNat 0 - 1) t6 t8 p1 (by (first | (law_clear; lia) | lia | omega)) (by (first | (law_clear; lia) | lia | omega)) (by (first | (law_clear; lia) | lia | omega))) B' F5 N5 (fun q hq => by rw [List.mem_singleton.mp hq]; exact mem_r (.head _)) X' T' (by exact rfl) (by exact rfl) (by (try dsimp +zetaDelta only [ktrTop, Around.deeper]); (first | (law_clear; lia) | lia | omega)) (by (try dsimp +zetaDelta only [ktrTop, Around.deeper]); (first | (law_clear; lia) | lia | omega)) trivial ?_
          intro v8 h8 tk8 F8 NB8 kp8 ht8 hz8 hp8
          obtain ⟨rfl, hg8⟩ := hp8
          have lDD : @LT.lt Nat _ D' D7 := lw7 (D', listOf lv.toArray c') (.head _)
          have bO6 : ∀ q ∈ own6, @LT.lt Nat _ D' q.1 := fun q hq => (hb6.2.1 q hq).elim (fun a => by dsimp only at a; exact Nat.lt_of_lt_of_le (Nat.lt_trans lDD bD7) a) fun a => by rw [List.mem_singleton.mp a]; exact lDD
          have bOD : ∀ q ∈ own, @LT.lt Nat _ D' q.1 := fun q hq => by have a := own_ge (hb2.2.1 q hq); dsimp only at a; (first | (law_clear; lia) | lia | omega)
          have N8 := NB8 (own6 ++ ([(D', listOf (lv3.set ((c6 : Int)).toNat (.int (ln3.getD ((c6 : Int)).toNat 0 - 1) t8)).toArray c'), (L' + 1, oC), (149, tabObj ps9)] ++ (ex9 ++ own))) (by
            intro q hq
            simp only [List.mem_cons, List.mem_append, List.cons_append, List.nil_append, or_assoc] at hq
            rcases hq with h | rfl | rfl | rfl | h | h
            · exact .inl ⟨mem_l h, fun x => (show q.1 ≠ D' from neN (by have := bO6 q h; (first | (law_clear; lia) | lia | omega))) (List.mem_singleton.mp x)⟩
            · exact .inr ⟨.head _, hg8⟩
            · exact .inl ⟨mem_r (.tail _ (.head _)), fun x => (show _ ≠ D' from neN (by (try dsimp only); (first | (law_clear; lia) | lia | omega))) (List.mem_singleton.mp x)⟩
            · exact .inl ⟨mem_r (.tail _ (.tail _ (.head _))), fun x => (show _ ≠ D' from neN (by (try dsimp only); (first | (law_clear; lia) | lia | omega))) (List.mem_singleton.mp x)⟩
            · exact .inl ⟨mem_r (mem_r (mem_l h)), fun x => (show q.1 ≠ D' from neN (by have := ltN (hx9 q h).1; (first | (law_clear; lia) | lia | omega))) (List.mem_singleton.mp x)⟩
            · exact .inl ⟨mem_r (mem_r (mem_r h)), fun x => (show q.1 ≠ D' from neN (by have := bOD q h; (first | (law_clear; lia) | lia | omega))) (List.mem_singleton.mp x)⟩)
          clear N5 NB8 F5
          k_steps
          unfold Halt
          (try k_fold)
          refine PSpec.useA (A₀ := _) (lshift_p _ _ _ _ (by (first | (law_clear; lia) | lia | omega)) (by (first | (law_clear; lia) | lia | omega)) (by (first | (law_clear; lia) | lia | omega)) (by (first | (law_clear; lia) | lia | omega))) (by k_asm) (by k_asm) (by k_asm) (by assumption) (by k_asm) (by exact rfl) (by exact rfl) (by (try dsimp +zetaDelta only [ktrTop, Around.deeper]); first | (first | (law_clear; lia) | lia | omega) | decide) (by (try dsimp +zetaDelta only [ktrTop, Around.deeper]); first | (first | (law_clear; lia) | lia | omega) | decide) (trivial) ?_; intro v9 h9 tk9 F9 N9 kp9 ht9 hz9 hp9; (try dsimp only at hp9 ht9 hz9 kp9)
          obtain ⟨t7, rfl, _, _⟩ := hp9
          k_steps
          unfold Halt
          (try k_fold)
          refine PSpec.useA (A₀ := _) (or__p _ _ _ _) (by k_asm) (by k_asm) (by k_asm) (by assumption) (by k_asm) (by exact rfl) (by exact rfl) (by (try dsimp +zetaDelta only [ktrTop, Around.deeper]); first | (first | (law_clear; lia) | lia | omega) | decide) (by (try dsimp +zetaDelta only [ktrTop, Around.deeper]); first | (first | (law_clear; lia) | lia | omega) | decide) (trivial) ?_; intro v9 h9 tk9 F9 N9 kp9 ht9 hz9 hp9; (try dsimp only at hp9 ht9 hz9 kp9)
          obtain ⟨t5, rfl, _, _⟩ := hp9
          k_steps
          unfold Halt
          (try k_fold)
          refine FEnd.intro (lv3.set ((c6 : Int)).toNat (.int (ln3.getD ((c6 : Int)).toNat 0 - 1) t8), ln3.set ((c6 : Int)).toNat (ln3.getD ((c6 : Int)).toNat 0 - 1), _, _) (by assumption) (by assumption) (fun q hq => mem_l hq) ?_ (by kst_all) fun _ => ⟨ints_set p1 _ _ _, five_set p2 h0', ?_⟩
          · intro q hq
            simp only [List.cons_append, List.nil_append, List.mem_cons] at hq
            rcases hq with rfl | rfl | rfl | h
            · exact ⟨mem_r (.head _), hw6 (D', listOf lv3.toArray c') (.head _)⟩
            · exact ⟨mem_r (.tail _ (.head _)), hw6 (L' + 1, oC) (.tail _ (.head _))⟩
            · exact ⟨mem_r (.tail _ (.tail _ (.head _))), hw6 (149, tabObj ps9) (.tail _ (.tail _ (.head _)))⟩
            · exact ⟨mem_r (mem_r h), hw6 q (mem_r h)⟩
          · rw [etk, giveF_snoc, p3, Int.zero_add]
            exact giveF_one h0'
        case done3 =>
          rintro ⟨lv3, ln3, tab3, tt3⟩ m₃ h6 tk6 hJ6 hT6 F6 N6
          obtain ⟨p1, p2, p3⟩ := hJ6
          dsimp only at F6 N6 p1 p2 p3 hT6
          rw [hwl7, List.take_length, ← hgal] at p3
          clear F7 N7
          k_steps
          unfold Halt
          (try k_fold)
          refine FEnd.intro (lv3, ln3, tab3, tt3, ps9, ex9) (by assumption) (by assumption) (fun q hq => mem_r (mem_r hq)) ?_ (by kst_all) fun _ => ⟨p1, p2, p3, TB9, fun q hq => (hx9 q hq).1⟩
          intro q hq
          simp only [List.cons_append, List.nil_append, List.mem_cons] at hq
          rcases hq with rfl | rfl | rfl | h
          · exact ⟨.head _, hw2 (D', listOf lv.toArray c') (.head _)⟩
          · exact ⟨.tail _ (.head _), hw2 (L' + 1, oC) (.tail _ (.head _))⟩
          · exact ⟨.tail _ (.tail _ (.head _)), hw2 (149, tabObj ps1) (.tail _ (.tail _ (.head _)))⟩
          · exact ⟨mem_r (mem_l h), (hx9 q h).2⟩
  case done =>
    rintro ⟨lv, ln, tab, tt, ps1, ex⟩ m₁ h tk hJ hT F2 N2
    obtain ⟨j1, j2, j3, j4, j5⟩ := hJ
    dsimp only at F2 N2 j1 j2 j3 j4 j5 hT
    k_steps
    (rename Fr _ _ _ _ => Fz)
    (rename News _ _ _ _ => Nz)
    (try dsimp only)
    exact PLeave.intro Fz fun kp ht hz => hret _ _ _ (fun b o hb e => kp b o (hg' b o hb e)) ht hz ⟨.inr ⟨_, _, j3, rfl⟩, ps1, (Nz (149, tabObj ps1) (.tail _ (.tail _ (.head _)))).1, tab_close Fz Nz j4 fun q hq => mem_r hq⟩
end
section
theorem load_R1 : (fun (_ : OpenLaw) (_ : Params → Frag) => True) PySem.Challenge.rw_wb0054_01 hd54.heap_1 := by
  w_top off
  k_fill
  trivial
local macro_rules | `(tactic| walk_at $s:str) => if ("|call builtin:list.append|call ref|".splitOn ("|" ++ s.getString ++ "|")).length > 1 then `(tactic| (refine halt ?_)) else Lean.Macro.throwUnsupported
theorem refused_e (rl wl al : Addr) (rv wv av : List Value) (an : Nat) (rn wn : List Int) (side : Nat) (ts : Tok) (ps : Array Value) (hr : IntsAre rv rn) (hw : IntsAre wv wn) (hr5 : rn.length = 5) (hr9 : ∀ x ∈ rn, 0 ≤ x ∧ x ≤ 5) (hw5 : Five wn) (hs : side < 2) (hal : al ≠ 149) (har : rl ≠ al) (haw : wl ≠ al) (hav : av.length < 2 ^ 20) :
    ESpec hd54.heap_1 7 161 [.ref rl, .ref wl, .int (side : Int) ts, .ref al] [] [(149, tabObj ps), (al, listOf av.toArray an)] (fun h _ => h.IsList rl rv.toArray ∧ h.IsList wl wv.toArray ∧ TabL h gqual ps []) (fun r h' _ _ => r = .bool (galeF rn side wn 5).isNone ∧ (∃ ps', h'.get? 149 = some (tabObj ps') ∧ TabL h' gqual ps' []) ∧ h'.get? al = some (listOf (av ++ [Value.ref wl]).toArray (an + 1))) := by
  unfold ESpec; intro prog w p loose mean mg mb dp un gd cn cs a ccd cl outer A₀ base h₀ L m s Q E B F N X T hk hd9 hu9 hpre hret; refine wpAny_both ?_
  have n9 : ∀ (l : Addr) (vs : List Value), s.heap.IsList l vs.toArray → l ≠ 149 := fun l vs h q => by
    obtain ⟨o2, e2, c2, _⟩ := h
    rw [q, (N _ (.head _)).1] at e2; cases e2; cases c2
  have nr9 := n9 _ _ hpre.1
  have nw9 := n9 _ _ hpre.2.1
  have nh : ∀ q ∈ [(149, tabObj ps), (al, listOf av.toArray an)], NotRec q.2 := by
    intro q hq
    rcases (mc hq).imp_right mc1 with rfl | rfl
    · exact notRec_tab hpre.2.2
    · exact notRec_list _ _
  have nN := fun q hq => (N q hq).1
  k_dflt (refine' enterE (binds := [(Str.ofString "rows", .ref rl), (Str.ofString "wishes", .ref wl), (Str.ofString "side", .int (side : Int) ts), (Str.ofString "asked", .ref al)]) ?k1 ?k2 ?k3 ?k4 ?k5 ?kA ?kF ?kK ?k6 ?k7 ?k8 ?k9 ?kB ?_ ?c2 ?c3 ?c4 ?c5; (case kA => exact rfl); (case kF => exact rfl); (case kK => assumption); (case k1 => k_asm); (case k2 => k_asm); (case k3 => k_asm); (case k4 => k_asm); (case k5 => k_asm); (case k6 => k_is); (case k7 => k_is); (case k8 => ktr_room); (case k9 => exact BindsTo.of_eq rfl); (case c5 => decide); (case kB => exact locs rfl); (case c2 => exact rfl); (case c3 => exact rfl); (case c4 => exact rfl); k_whole; intro g' L' h' tk' hg' kh' ht' F' N' B' X' T'; (try dsimp only); (try k_lift B'); (try k_fold); refine let_fold3 (P := fun (M : Model) (A : Around) (en : Env) => wpAny M A (execs _ en) _ _ _) _ _ _ ?_; intro M9 A9 en9; show wpAny M9 A9 (execs _ en9) _ _ _)
  have hrl : g'.IsList rl rv.toArray := list_hide hpre.1 (by simp; exact ⟨nr9, har⟩) hg'
  have hwl : g'.IsList wl wv.toArray := list_hide hpre.2.1 (by simp; exact ⟨nw9, haw⟩) hg'
  have hTB : TabL g' gqual ps [] := tab_hide2 hpre.2.2 nN nh hg'
  k_steps
  unfold Halt
  refine append_K (by k_asm) (by k_asm) (.tail (Ne.symm hal) (.head fun q hq => by cases hq)) ?ap1 ?ap2
  case ap2 => (rw [sizeLine_eq, List.size_toArray]; (first | (law_clear; lia) | lia | omega))
  intro h8 F8 N8
  rw [show av.toArray.push (Value.ref wl) = (av ++ [Value.ref wl]).toArray by simp] at N8
  k_steps
  unfold Halt
  refine ESpec.useA (A₀ := _) (gale_e rl wl rv wv rn wn side ts ps hr hw hr5 hr9 hw5 hs) (by k_asm) (by k_asm) (by k_asm) (fun q hq => by rw [List.mem_singleton.mp hq]; exact .head _) (by assumption) (by k_asm) (by exact rfl) (by exact rfl) (by (try dsimp +zetaDelta only [ktrTop, Around.deeper]); first | (first | (law_clear; lia) | lia | omega) | decide) (by (try dsimp +zetaDelta only [ktrTop, Around.deeper]); first | (first | (law_clear; lia) | lia | omega) | decide) (⟨hrl.at fun o e => Fr.keep (by assumption) _ _ e, hwl.at fun o e => Fr.keep (by assumption) _ _ e, tab_up hTB (Fr.keep (by assumption))⟩) ?_; intro v9 h9 tk9 F9 N9 kp9 ht9 hz9 hp9; (try dsimp only at hp9 ht9 hz9 kp9)
  have N7 := N9 [(al, listOf (av ++ [Value.ref wl]).toArray (an + 1))] (fun q hq => by rw [List.mem_singleton.mp hq]; exact .inl ⟨.tail _ (.head _), fun x => hal (List.mem_singleton.mp x)⟩)
  obtain ⟨hp9, ps9, hg9, ht9⟩ := hp9
  clear N9
  rcases hp9 with ⟨rfl, hgl⟩ | ⟨st, t, hgl, rfl⟩
  · k_steps
    (rename Fr _ _ _ _ => Fz)
    (try dsimp only)
    refine PLeave.intro Fz fun kp ht hz => hret _ _ _ (fun b o hb e => kp b o (hg' b o hb e)) ht hz ⟨by rw [hgl]; rfl, ⟨ps9, hg9, ht9⟩, (N7 _ (.head _)).1⟩
  · k_steps
    (rename Fr _ _ _ _ => Fz)
    (try dsimp only)
    refine PLeave.intro Fz fun kp ht hz => hret _ _ _ (fun b o hb e => kp b o (hg' b o hb e)) ht hz ⟨by rw [hgl]; rfl, ⟨ps9, hg9, ht9⟩, (N7 _ (.head _)).1⟩
end
section
/-- a key function that answers f i at the i-th of cv, writes down each question at al, and may add to the code table at 149 -/
structure KeyEff (kf : Addr) (k : Nat) (al : Addr) (cv : List Value) (f : Nat → Bool) (P : Heap → Prop) : Prop where
  mono : ∀ h h', (∀ b o, b ≠ 149 → b ≠ al → h.get? b = some o → h'.get? b = some o) → P h → P h'
  fn : ∀ h, P h → FnAt kf h
  spec : ∀ (i : Nat) (v : Value) (ps : Array Value) (av : List Value) (an : Nat), cv[i]? = some v → av.length < 2 ^ 20 → ESpec hd54.heap_1 k kf [v] [] [(149, tabObj ps), (al, listOf av.toArray an)] (fun h _ => P h ∧ TabL h gqual ps [])
    (fun r h' _ _ => r = .bool (f i) ∧ (∃ ps', h'.get? 149 = some (tabObj ps') ∧ TabL h' gqual ps' []) ∧ h'.get? al = some (listOf (av ++ [v]).toArray (an + 1)))
theorem KeyEff.kp {kf : Addr} {k : Nat} {al : Addr} {cv : List Value} {f : Nat → Bool} {P : Heap → Prop} (hK : KeyEff kf k al cv f P) {h h' : Heap} (kp : ∀ b o, h.get? b = some o → h'.get? b = some o) (x : P h) : P h' := hK.mono _ _ (fun b o _ _ e => kp b o e) x
section
variable {prog : Program} {w : World} {A : Around} {E : Value → Shared → Prop} {s : Shared} {l : Addr} {vs : List Value}
theorem item_any {value slice : PySem.Expr} {k : Int} {u : Tok} {Q : Value → Shared → Prop} (hL : s.heap.IsList l vs.toArray)
    (h0 : 0 ≤ k) (hk : k < (vs.length : Int)) (hl : vs.length < 2 ^ 62)
    (h : ∀ v, vs[k.toNat]? = some v → Q v s)
    (hs : subscripted slice false (.ref l) (.int k u) = operate [.ref l, .int k u] (getItem (.ref l) (.int k u)) := by with_unfolding_all rfl) :
    wpAny (model prog w) A (subscriptTail value slice (.ref l) (.int k u)) Q E s := by
  have e : vs[k.toNat]? = some (vs[k.toNat]'(by (first | lia | omega))) := by simp [show k.toNat < vs.length by (first | lia | omega)]
  exact tail_any hL.typeIs slot_list_getitem.lookup (wpAny_getItem_list hL h0 (by (first | lia | omega)) (by simpa using e) (h _ e)) hs
end
/-- halving asks no more often than it must: a questions so far, d places left of n -/
def AskI (n : Nat) (d a : Nat) : Prop := 2 ^ a * d ≤ n ∧ (a = 0 → d = n) ∧ (0 < a → 2 ^ (a - 1) ≤ n)
theorem ask_zero (n : Nat) : AskI n n 0 := ⟨by simp, fun _ => rfl, fun h => absurd h (by simp)⟩
theorem ask_next {n d a d' : Nat} (h : AskI n d a) (h0 : 0 < d) (hd : d' ≤ d / 2) : AskI n d' (a + 1) := by
  obtain ⟨h1, h2, h3⟩ := h
  have hp : 0 < 2 ^ a := Nat.pow_pos (by decide)
  refine ⟨?_, fun q => absurd q (by simp), fun _ => ?_⟩
  · rw [Nat.pow_succ, Nat.mul_assoc]
    refine Nat.le_trans (Nat.mul_le_mul_left _ ?_) h1
    (first | lia | omega)
  · show 2 ^ (a + 1 - 1) ≤ n
    rw [Nat.add_sub_cancel]
    refine Nat.le_trans ?_ h1
    exact Nat.le_mul_of_pos_right _ h0
theorem ask_done {n a : Nat} (h : AskI n 0 a) (hn : 0 < n) : 0 < a ∧ 2 ^ (a - 1) ≤ n := by
  have : 0 < a := by
    apply Classical.byContradiction
    intro q
    have := h.2.1 (by (first | lia | omega))
    (first | lia | omega)
  exact ⟨this, h.2.2 this⟩
theorem ask_small {n d a : Nat} (h : AskI n d a) (hn : n < 2 ^ 18) : a < 2 ^ 20 := by
  by_cases h0 : 0 < a
  · have := Nat.lt_of_le_of_lt (h.2.2 h0) hn
    have := (Nat.pow_lt_pow_iff_right (by decide)).mp this
    (first | lia | omega)
  · (first | lia | omega)
theorem among_mem {pos : Pos} {cv : Value} : ∀ {l : List Value}, TriplesOk l → codeAmong pos l = some cv → cv ∈ l := by
  intro l
  fun_induction TriplesOk l with
  | case1 => intro _ e; simp [codeAmong] at e
  | case2 x1 t1 x2 t2 x3 rest ih =>
    intro h e
    unfold codeAmong at e
    split at e
    · cases e; simp
    · have := ih h e; simp [this]
  | case3 => exact fun h => h.elim
open Classical in
theorem tab_open {g h : Heap} {L : Addr} {m : Str → Option Value} {qual : Str} {ps : Array Value} (F : Fr g L h m) (TB : TabL h qual ps []) : ∃ ex, TabL g qual ps ex ∧ News g L h ex := by
  refine ⟨ps.toList.filterMap fun v => match v with | .ref c => (if g.get? c = none ∧ h.CodeRec (.ref c) qual then (h.get? c).map fun o => (c, o) else none) | _ => none, ⟨TB.1, fun q hq => ?_, fun pos cv e => ?_⟩, fun q hq => ?_⟩
  · obtain ⟨v, hv, e⟩ := List.mem_filterMap.mp hq
    split at e
    · split at e
      · rename_i hc
        obtain ⟨c2, o, vs, t, e1, e2, e3, e4⟩ := hc.2
        cases e1
        rw [e2] at e
        cases e
        exact ⟨vs, t, e3, e4⟩
      · cases e
    · cases e
  · obtain ⟨c, rfl, hc⟩ := TB.2.2 pos cv e
    have hc' : h.CodeRec (.ref c) qual := hc.elim id fun ⟨oc, x⟩ => by cases x
    refine ⟨c, rfl, ?_⟩
    cases hg : g.get? c with
    | some o =>
      left
      obtain ⟨c2, o2, vs, t, e1, e2, e3, e4⟩ := hc'
      cases e1
      rw [F.keep _ _ hg] at e2
      cases e2
      exact ⟨c, o, vs, t, rfl, hg, e3, e4⟩
    | none =>
      right
      obtain ⟨c2, o2, vs, t, e1, e2, e3, e4⟩ := id hc'
      cases e1
      refine ⟨o2, List.mem_filterMap.mpr ⟨.ref c, among_mem TB.1 e, ?_⟩⟩
      show (if g.get? c = none ∧ h.CodeRec (.ref c) qual then (h.get? c).map fun o => (c, o) else none) = _
      rw [if_pos ⟨hg, hc'⟩, e2]
      rfl
  · obtain ⟨v, hv, e⟩ := List.mem_filterMap.mp hq
    split at e
    · split at e
      · rename_i c hc
        obtain ⟨c2, o, vs, t, e1, e2, e3, e4⟩ := hc.2
        cases e1
        rw [e2] at e
        cases e
        refine ⟨e2, fun q => ?_, hc.1⟩
        obtain ⟨o', es, k, e', hd, _⟩ := F.ns
        have q' : c = L := q
        rw [q', e'] at e2
        cases e2
        rw [hd] at e3
        cases e3
      · cases e
    · cases e
theorem rec_ne {g h : Heap} {L a : Addr} {o : Obj} {qual : Str} {ps : Array Value} {news ex : List (Addr × Obj)} (N : News g L h news) (TB : TabL g qual ps ex) (ha : (a, o) ∈ news) (hs : ∀ q ∈ ex, q ∈ news) (ho : NotRec o) : ∀ q ∈ ex, q.1 ≠ a := fun q hq e => by
  obtain ⟨vs, t, e1, e2⟩ := TB.2.1 q hq
  have h1 := (N q (hs q hq)).1
  rw [e, (N _ ha).1] at h1
  cases h1
  exact ho ⟨vs, qual, t, e1, e2⟩
theorem two_sub {α : Type} {a b : α} {r : List α} : ∀ q ∈ [a, b], q ∈ a :: b :: r := by
  intro q h
  simp only [List.mem_cons, List.not_mem_nil, or_false] at h ⊢
  rcases h with h | h
  · exact .inl h
  · exact .inr (.inl h)
theorem b2_up {b : Bool} (h : b2i b < b2i true) : (!b) = true := by cases b; rfl; exact absurd h (by decide)
theorem b2_dn {b : Bool} (h : ¬ b2i b < b2i true) : (!b) = false := by cases b; exact absurd (by decide) h; rfl
theorem b2_dn' {b : Bool} (h : b2i false < b2i b) : (!b) = false := by cases b; exact absurd h (by decide); rfl
theorem b2_up' {b : Bool} (h : ¬ b2i false < b2i b) : (!b) = true := by cases b; rfl; exact absurd (by decide) h
end
section
def squal : Str := Str.ofString "_law_step.<locals>.<lambda>"
/-- h keeps all that stood in g but at 149 and al -/
def KpB (al : Addr) (g h : Heap) : Prop := ∀ b o, b ≠ 149 → b ≠ al → g.get? b = some o → h.get? b = some o
section
variable {prog : Program} {w : World} {A A₀ : Around} {s : Shared} {K : Frag} {L : Addr} {h₀ base : Heap} {m mg mb : Str → Option Value} {news : List (Addr × Obj)} {p : Program} {loose : List Str} {mean : ExcName → Option Value}
/-- entering a lambda that changes no more than news -/
theorem enterEL {env : Env} {outer : List Env} {Q E : Value → Shared → Prop} {name qual : Str} {params : Arguments} {body : PySem.Expr} {scope : Scope} {cl : List (Str × Addr)} {pm ctv : Value} {c' f : Addr} {pos : List Value} {kw : List (Str × Value)} {binds : List (Str × Value)}
    (B : Below A₀ base outer h₀) (F : Fr h₀ L s.heap m) (X₀ : K.In h₀) (N : News h₀ L s.heap news) (T : Top p loose mean mg mb h₀) (hA : A.frames = some (env :: outer)) (hf : env.frame = some L) (hke : env.scope.kind = .function)
    (ho : s.heap.get? f = some (kla_obj name qual params body scope cl pm c' ctv)) (hcd : s.heap.CodeRec (.ref c') qual) (hroom : A.depth < recursionLimit)
    (hbind : bindArgs (kla_fn name qual params body scope cl pm (.ref c') ctv) ⟨pos, kw⟩ = pure binds) (hloc : ∀ y ∈ binds, scope.names.lookup y.1 = some .local)
    (h : ∀ g L' h₁ tk, (∀ b o, b ∉ news.map (·.1) → s.heap.get? b = some o → g.get? b = some o) → Kp s.heap h₁ → s.toks ≤ tk → Fr g L' h₁ (fun y => binds.reverse.lookup y) → News g L' h₁ news → Below A base (env :: outer) g → K.In g → Top p loose mean mg mb g →
      wpAny (model prog w) (A.deeper (envX qual scope L' f (.ref c') cl)) (eval body (envX qual scope L' f (.ref c') cl)) (fun v s' => PLeave g Q v s') (fun _ _ => False) { s with heap := h₁, toks := tk })
    (hco : scope.isCoroutine = false) (hgen : scope.isGenerator = false) (hk : scope.kind = .function)
    (hcell : ∀ x ∈ scope.names, x.2 ≠ .cell) : wpAny (model prog w) A (call (.ref f) pos kw) Q E s := by
  refine wpAny_call ?_
  obtain ⟨FG, BG, st, lv⟩ := groundX (R := fun r s' => match r with | .ok (.ret v) => Q v s' | .ok _ => False | .error e => E e s') B F N hA hf hke
  have X1 := X₀.keeps st
  have T1 := T.keeps st
  refine kla_callFunE hroom ho rfl hco hgen rfl hcd ?_
  rw [hbind]
  refine wpAny_pure (wpAny_newFunctionEnv hcell hloc (fun h₁ hns hsb => ⟨((T.nolimit).keeps F.keep).fresh _ hsb, ?_⟩) hk)
  show codeAny _ _ (.expr body (envX qual scope s.heap.objs.size f (.ref c') cl)) _ _
  have hk₁ : ∀ b o, s.heap.get? b = some o → h₁.get? b = some o := fun b o e => hsb.extBut b o (Nat.ne_of_lt (Heap.lt_size e)) (Heap.get?_push_of_some _ e)
  refine kla_codeExpr (wpAny_mono (h (hideAll s.heap (news.map (·.1))) s.heap.objs.size h₁ _ (fun b o hb e => hideAll_get _ e hb) hk₁ (Nat.le_add_right _ _) ⟨hns, fun b o e => hk₁ b o (of_hideAll _ e), Nat.le_of_eq (hideAll_size _ _)⟩
    (fun p hp => ⟨hk₁ _ _ (N p hp).1, Nat.ne_of_lt (Heap.lt_size (N p hp).1), hideAll_none _ (List.mem_map_of_mem hp)⟩) BG X1 T1) (fun v s' hl => ?_) fun _ _ x => x.elim)
  obtain ⟨L', m', F', hq⟩ := hl
  exact hq F'.keep
theorem nameX_G2 {a c : Addr} {cn : Str} {cs : Scope} {ccd : Value} {cl : List (Str × Addr)} {E : Value → Shared → Prop} {M : Model} {x : Str} {pos : Pos} {v : Value} {Q : Value → Shared → Prop} (F : Fr h₀ L s.heap m) (ho : ∃ o, h₀.get? c = some o ∧ o.data = .cell (some v)) (hc : cl.lookup x = some c) (h : Q v s)
    (hk : cs.kind = .function := by rfl) (hx : (envX cn cs L a ccd cl).kindOf x = some .free := by rfl) (hb : (x == ("__debug__" : Str)) = false := by decide) (hn : (x == ("__classdict__" : Str)) = false := by decide) :
    wpAny M A (eval (.Name x pos) (envX cn cs L a ccd cl)) Q E s := by
  obtain ⟨o, ho, hd⟩ := ho
  exact wpAny_Name (wpAny_loadName_free hk hx hc ⟨o, F.keep _ _ ho, hd⟩ h hn) hb
end
end
section
theorem load_S1 : (fun (_ : OpenLaw) (_ : Params → Frag) => True) PySem.Challenge.rw_wb0054_01 hd54.heap_1 := by
  w_top off
  k_fill
  trivial
set_option hygiene false in
local macro_rules | `(tactic| walk_at "subscriptTail") => `(tactic| (k_here; (with_reducible show wpAny _ _ (subscriptTail _ _ (Value.ref _) (Value.int _ _)) _ _ _); (with_unfolding_all refine' item_any ?k1 ?k3 ?k4 ?k5 ?_ ?k7; (case k1 => exact hl0.at fun o e => Fr.keep (by assumption) _ _ e); (case k3 => (first | (law_clear; lia) | lia | omega)); (case k4 => (first | (law_clear; lia) | lia | omega)); (case k5 => (first | (law_clear; lia) | lia | omega)); (case k7 => with_unfolding_all rfl); k_whole); intro v8 e8))
set_option hygiene false in
local macro_rules | `(tactic| walk_at "callWith ref") => `(tactic| (k_here; k_dflt (refine callWith_F (KeyEff.fn hK _ (KeyEff.kp hK (Fr.keep (by assumption)) hP0)) ?_)))
set_option hygiene false in
local macro_rules | `(tactic| walk_at "FnAt") => `(tactic| (exact KeyEff.fn hK _ (KeyEff.kp hK (Fr.keep (by assumption)) hP0)))
local macro_rules | `(tactic| walk_at "call ref") => `(tactic| (refine halt ?_))
theorem bisL_eff (kf : Addr) (k : Nat) (al : Addr) (cv : List Value) (f : Nat → Bool) (P : Heap → Prop) (hK : KeyEff kf k al cv f P) (l : Addr) (ps : Array Value) (hlen : cv.length < 2 ^ 18) (hla : l ≠ al) (hal : al ≠ 149) (hD : Down (fun i => !f i) cv.length) :
    ESpec hd54.heap_1 (k + 1) 50 [.ref l, .bool true] [(Str.ofString "key", .ref kf)] [(149, tabObj ps), (al, listOf #[] 0)] (fun h _ => h.IsList l cv.toArray ∧ P h ∧ TabL h gqual ps []) (fun v h' _ _ => ∃ (r : Nat) (t : Tok) (av : List Value) (an : Nat), v = .int (r : Int) t ∧ Cut (fun i => !f i) cv.length r ∧ AskI cv.length 0 av.length ∧ h'.get? al = some (listOf av.toArray an) ∧ ∃ ps', h'.get? 149 = some (tabObj ps')) := by
  unfold ESpec; intro prog w p loose mean mg mb dp un gd cn cs a ccd cl outer A₀ base h₀ L m s Q E B F N X T hk hd9 hu9 hpre hret; refine wpAny_both ?_
  have n9 : ∀ (l : Addr) (vs : List Value), s.heap.IsList l vs.toArray → l ≠ 149 := fun l vs h q => by
    obtain ⟨o2, e2, c2, _⟩ := h
    rw [q, (N _ (.head _)).1] at e2; cases e2; cases c2
  have nr9 := n9 _ _ hpre.1
  have nh : ∀ q ∈ [(149, tabObj ps), (al, listOf #[] 0)], NotRec q.2 := by
    intro q hq
    rcases (mc hq).imp_right mc1 with rfl | rfl
    · exact notRec_tab hpre.2.2
    · exact notRec_list _ _
  have nN := fun q hq => (N q hq).1
  k_dflt (refine' enterE (binds := [(Str.ofString "a", .ref l), (Str.ofString "x", .bool true), (Str.ofString "lo", .int 0 229), (Str.ofString "hi", .none), (Str.ofString "key", .ref kf)]) ?k1 ?k2 ?k3 ?k4 ?k5 ?kA ?kF ?kK ?k6 ?k7 ?k8 ?k9 ?kB ?_ ?c2 ?c3 ?c4 ?c5; (case kA => exact rfl); (case kF => exact rfl); (case kK => assumption); (case k1 => k_asm); (case k2 => k_asm); (case k3 => k_asm); (case k4 => k_asm); (case k5 => k_asm); (case k6 => k_is); (case k7 => k_is); (case k8 => ktr_room); (case k9 => refine' binds_df (by k_in) rfl (by k_is) rfl rfl rfl); (case c5 => decide); (case kB => exact locs rfl); (case c2 => exact rfl); (case c3 => exact rfl); (case c4 => exact rfl); k_whole; intro g' L' h' tk' hg' kh' ht' F' N' B' X' T'; (try dsimp only); (try k_lift B'); (try k_fold); refine let_fold3 (P := fun (M : Model) (A : Around) (en : Env) => wpAny M A (execs _ en) _ _ _) _ _ _ ?_; intro M9 A9 en9; show wpAny M9 A9 (execs _ en9) _ _ _)
  have hl0 : g'.IsList l cv.toArray := list_hide hpre.1 (by simp; exact ⟨nr9, hla⟩) hg'
  have hP0 : P g' := hK.mono _ _ (fun b o h1 h2 e => hg' b o (by simp; exact ⟨h1, h2⟩) e) hpre.2.1
  have hTB : TabL g' gqual ps [] := tab_hide2 hpre.2.2 nN nh hg'
  k_steps
  refine len_of (hl0.at fun o e => Fr.keep (by assumption) _ _ e) rfl (by (first | (law_clear; lia) | lia | omega)) ?_
  k_steps
  unfold Halt
  with_unfolding_all refine' ksw_while (fun c => (149, tabObj c.2.2.2.2.1) :: (al, listOf c.2.2.2.2.2.1.toArray c.2.2.2.2.2.2.1) :: c.2.2.2.2.2.2.2) (fun (c : Int × Tok × Int × Tok × Array Value × List Value × Nat × List (Addr × Obj)) => [(Str.ofString "a", Value.ref l), (Str.ofString "key", .ref kf), (Str.ofString "x", .bool true), (Str.ofString "lo", Value.int c.1 c.2.1), (Str.ofString "hi", Value.int c.2.2.1 c.2.2.2.1)]) (fun _ => True) [Str.ofString "mid"] (fun c => BisP (fun i => !f i) cv.length (c.1, c.2.1, c.2.2.1, c.2.2.2.1) ∧ TabL g' gqual c.2.2.2.2.1 c.2.2.2.2.2.2.2 ∧ AskI cv.length (c.2.2.1 - c.1).toNat c.2.2.2.2.2.1.length) (fun c => (c.2.2.1 - c.1).toNat) (0, 229, (cv.length : Int), _, ps, [], 0, []) (by assumption) (by assumption) trivial ?kk ⟨bis_zero, hTB, by simpa using ask_zero cv.length⟩ ?_
  case kk => kst_all
  rintro ⟨lo, tlo, hi', thi, ps2, av, an, ex2⟩ u h tk hf hP F9 N9
  dsimp only at F9 N9
  obtain ⟨⟨p1, p2, p3, p4, p5⟩, hT2, hA2⟩ := hP
  dsimp only at p1 p2 p3 p4 p5 hT2 hA2
  have hav : av.length < 2 ^ 20 := ask_small hA2 hlen
  have fd := Int.fdiv_eq_ediv_of_nonneg (lo + hi') (show (0 : Int) ≤ 2 by decide)
  k_steps
  · unfold Halt
    (rename Fr _ _ _ _ => F5)
    (rename News _ _ _ _ => N5)
    refine ESpec.useA (A₀ := _) (hK.spec _ v8 ps2 av an e8 hav) (by k_asm) (by k_asm) (by k_asm) (two_sub) (by assumption) (by k_asm) (by exact rfl) (by exact rfl) (by (try dsimp +zetaDelta only [ktrTop, Around.deeper]); first | (first | (law_clear; lia) | lia | omega) | decide) (by (try dsimp +zetaDelta only [ktrTop, Around.deeper]); first | (first | (law_clear; lia) | lia | omega) | decide) (⟨hK.kp (Fr.keep F5) hP0, tab_close F5 N5 hT2 fun q hq => .tail _ (.tail _ hq)⟩) ?_; intro v9 h9 tk9 F9 N9 kp9 ht9 hz9 hp9; (try dsimp only at hp9 ht9 hz9 kp9)
    obtain ⟨rfl, ⟨ps3, hg3, ht3⟩, hga⟩ := hp9
    obtain ⟨ex3, hT3, Nx3⟩ := tab_open F9 ht3
    have N7 : News g' L' h9 ((149, tabObj ps3) :: (al, listOf (av ++ [v8]).toArray (an + 1)) :: ex3) := (N9 [(149, tabObj ps3), (al, listOf (av ++ [v8]).toArray (an + 1))] (by
      intro q hq
      refine .inr ?_
      rcases (mc hq).imp_right mc1 with h | h <;> rw [h]
      · exact ⟨.head _, hg3⟩
      · exact ⟨.tail _ (.head _), hga⟩)).append Nx3
    clear N5 N9 Nx3 F5
    have hA3 : ∀ d', d' ≤ (hi' - lo).toNat / 2 → AskI cv.length d' (av ++ [v8]).length := fun d' hd => by
      rw [List.length_append]; exact ask_next hA2 (by (first | (law_clear; lia) | lia | omega)) hd
    k_steps
    · refine ksw_end ⟨_, _, _, _, _, _, _, _⟩ (by assumption) (by assumption) (fun _ h => h) trivial (by kst_all) (by intro z h2 h3; (simp only [List.forall_mem_cons, List.not_mem_nil, false_implies, implies_true, and_true, ne_eq] at h2); (simp only [List.contains_cons, List.contains_nil, Bool.or_false, Bool.or_eq_false_iff, beq_eq_false_iff_ne, ne_eq] at h3); simp [kstB, h2, h3]) ?_ ?_
      · exact ⟨bis_up p1 p2 p3 p4 p5 hD (by assumption) (b2_up (by assumption)), hT3, hA3 _ (by dsimp only; (first | (law_clear; lia) | lia | omega))⟩
      · dsimp only; (first | (law_clear; lia) | lia | omega)
    · refine ksw_end ⟨_, _, _, _, _, _, _, _⟩ (by assumption) (by assumption) (fun _ h => h) trivial (by kst_all) (by intro z h2 h3; (simp only [List.forall_mem_cons, List.not_mem_nil, false_implies, implies_true, and_true, ne_eq] at h2); (simp only [List.contains_cons, List.contains_nil, Bool.or_false, Bool.or_eq_false_iff, beq_eq_false_iff_ne, ne_eq] at h3); simp [kstB, h2, h3]) ?_ ?_
      · exact ⟨bis_dn p1 p2 p3 p4 p5 hD (by assumption) (b2_dn (by assumption)), hT3, hA3 _ (by dsimp only; (first | (law_clear; lia) | lia | omega))⟩
      · dsimp only; (first | (law_clear; lia) | lia | omega)
  · obtain ⟨r, rfl, hc⟩ := bis_cut p1 p2 p3 p4 p5 (by assumption)
    have e0 : (hi' - (r : Int)).toNat = 0 := by (first | (law_clear; lia) | lia | omega)
    rw [e0] at hA2
    (rename Fr _ _ _ _ => F5)
    (rename News _ _ _ _ => N5)
    (try dsimp only)
    exact PLeave.intro F5 fun kp ht hz => hret _ _ _ (fun b o hb e => kp b o (hg' b o hb e)) ht hz ⟨r, _, av, an, rfl, hc, hA2, (N5 (al, listOf av.toArray an) (.tail _ (.head _))).1, ps2, (N5 (149, tabObj ps2) (.head _)).1⟩
theorem bisR_eff (kf : Addr) (k : Nat) (al : Addr) (cv : List Value) (f : Nat → Bool) (P : Heap → Prop) (hK : KeyEff kf k al cv f P) (l : Addr) (ps : Array Value) (hlen : cv.length < 2 ^ 18) (hla : l ≠ al) (hal : al ≠ 149) (hD : Down (fun i => !f i) cv.length) :
    ESpec hd54.heap_1 (k + 1) 32 [.ref l, .bool false] [(Str.ofString "key", .ref kf)] [(149, tabObj ps), (al, listOf #[] 0)] (fun h _ => h.IsList l cv.toArray ∧ P h ∧ TabL h gqual ps []) (fun v h' _ _ => ∃ (r : Nat) (t : Tok) (av : List Value) (an : Nat), v = .int (r : Int) t ∧ Cut (fun i => !f i) cv.length r ∧ AskI cv.length 0 av.length ∧ h'.get? al = some (listOf av.toArray an) ∧ ∃ ps', h'.get? 149 = some (tabObj ps')) := by
  unfold ESpec; intro prog w p loose mean mg mb dp un gd cn cs a ccd cl outer A₀ base h₀ L m s Q E B F N X T hk hd9 hu9 hpre hret; refine wpAny_both ?_
  have n9 : ∀ (l : Addr) (vs : List Value), s.heap.IsList l vs.toArray → l ≠ 149 := fun l vs h q => by
    obtain ⟨o2, e2, c2, _⟩ := h
    rw [q, (N _ (.head _)).1] at e2; cases e2; cases c2
  have nr9 := n9 _ _ hpre.1
  have nh : ∀ q ∈ [(149, tabObj ps), (al, listOf #[] 0)], NotRec q.2 := by
    intro q hq
    rcases (mc hq).imp_right mc1 with rfl | rfl
    · exact notRec_tab hpre.2.2
    · exact notRec_list _ _
  have nN := fun q hq => (N q hq).1
  k_dflt (refine' enterE (binds := [(Str.ofString "a", .ref l), (Str.ofString "x", .bool false), (Str.ofString "lo", .int 0 202), (Str.ofString "hi", .none), (Str.ofString "key", .ref kf)]) ?k1 ?k2 ?k3 ?k4 ?k5 ?kA ?kF ?kK ?k6 ?k7 ?k8 ?k9 ?kB ?_ ?c2 ?c3 ?c4 ?c5; (case kA => exact rfl); (case kF => exact rfl); (case kK => assumption); (case k1 => k_asm); (case k2 => k_asm); (case k3 => k_asm); (case k4 => k_asm); (case k5 => k_asm); (case k6 => k_is); (case k7 => k_is); (case k8 => ktr_room); (case k9 => refine' binds_df (by k_in) rfl (by k_is) rfl rfl rfl); (case c5 => decide); (case kB => exact locs rfl); (case c2 => exact rfl); (case c3 => exact rfl); (case c4 => exact rfl); k_whole; intro g' L' h' tk' hg' kh' ht' F' N' B' X' T'; (try dsimp only); (try k_lift B'); (try k_fold); refine let_fold3 (P := fun (M : Model) (A : Around) (en : Env) => wpAny M A (execs _ en) _ _ _) _ _ _ ?_; intro M9 A9 en9; show wpAny M9 A9 (execs _ en9) _ _ _)
  have hl0 : g'.IsList l cv.toArray := list_hide hpre.1 (by simp; exact ⟨nr9, hla⟩) hg'
  have hP0 : P g' := hK.mono _ _ (fun b o h1 h2 e => hg' b o (by simp; exact ⟨h1, h2⟩) e) hpre.2.1
  have hTB : TabL g' gqual ps [] := tab_hide2 hpre.2.2 nN nh hg'
  k_steps
  refine len_of (hl0.at fun o e => Fr.keep (by assumption) _ _ e) rfl (by (first | (law_clear; lia) | lia | omega)) ?_
  k_steps
  unfold Halt
  with_unfolding_all refine' ksw_while (fun c => (149, tabObj c.2.2.2.2.1) :: (al, listOf c.2.2.2.2.2.1.toArray c.2.2.2.2.2.2.1) :: c.2.2.2.2.2.2.2) (fun (c : Int × Tok × Int × Tok × Array Value × List Value × Nat × List (Addr × Obj)) => [(Str.ofString "a", Value.ref l), (Str.ofString "key", .ref kf), (Str.ofString "x", .bool false), (Str.ofString "lo", Value.int c.1 c.2.1), (Str.ofString "hi", Value.int c.2.2.1 c.2.2.2.1)]) (fun _ => True) [Str.ofString "mid"] (fun c => BisP (fun i => !f i) cv.length (c.1, c.2.1, c.2.2.1, c.2.2.2.1) ∧ TabL g' gqual c.2.2.2.2.1 c.2.2.2.2.2.2.2 ∧ AskI cv.length (c.2.2.1 - c.1).toNat c.2.2.2.2.2.1.length) (fun c => (c.2.2.1 - c.1).toNat) (0, 202, (cv.length : Int), _, ps, [], 0, []) (by assumption) (by assumption) trivial ?kk ⟨bis_zero, hTB, by simpa using ask_zero cv.length⟩ ?_
  case kk => kst_all
  rintro ⟨lo, tlo, hi', thi, ps2, av, an, ex2⟩ u h tk hf hP F9 N9
  dsimp only at F9 N9
  obtain ⟨⟨p1, p2, p3, p4, p5⟩, hT2, hA2⟩ := hP
  dsimp only at p1 p2 p3 p4 p5 hT2 hA2
  have hav : av.length < 2 ^ 20 := ask_small hA2 hlen
  have fd := Int.fdiv_eq_ediv_of_nonneg (lo + hi') (show (0 : Int) ≤ 2 by decide)
  k_steps
  · unfold Halt
    (rename Fr _ _ _ _ => F5)
    (rename News _ _ _ _ => N5)
    refine ESpec.useA (A₀ := _) (hK.spec _ v8 ps2 av an e8 hav) (by k_asm) (by k_asm) (by k_asm) (two_sub) (by assumption) (by k_asm) (by exact rfl) (by exact rfl) (by (try dsimp +zetaDelta only [ktrTop, Around.deeper]); first | (first | (law_clear; lia) | lia | omega) | decide) (by (try dsimp +zetaDelta only [ktrTop, Around.deeper]); first | (first | (law_clear; lia) | lia | omega) | decide) (⟨hK.kp (Fr.keep F5) hP0, tab_close F5 N5 hT2 fun q hq => .tail _ (.tail _ hq)⟩) ?_; intro v9 h9 tk9 F9 N9 kp9 ht9 hz9 hp9; (try dsimp only at hp9 ht9 hz9 kp9)
    obtain ⟨rfl, ⟨ps3, hg3, ht3⟩, hga⟩ := hp9
    obtain ⟨ex3, hT3, Nx3⟩ := tab_open F9 ht3
    have N7 : News g' L' h9 ((149, tabObj ps3) :: (al, listOf (av ++ [v8]).toArray (an + 1)) :: ex3) := (N9 [(149, tabObj ps3), (al, listOf (av ++ [v8]).toArray (an + 1))] (by
      intro q hq
      refine .inr ?_
      rcases (mc hq).imp_right mc1 with h | h <;> rw [h]
      · exact ⟨.head _, hg3⟩
      · exact ⟨.tail _ (.head _), hga⟩)).append Nx3
    clear N5 N9 Nx3 F5
    have hA3 : ∀ d', d' ≤ (hi' - lo).toNat / 2 → AskI cv.length d' (av ++ [v8]).length := fun d' hd => by
      rw [List.length_append]; exact ask_next hA2 (by (first | (law_clear; lia) | lia | omega)) hd
    k_steps
    · refine ksw_end ⟨_, _, _, _, _, _, _, _⟩ (by assumption) (by assumption) (fun _ h => h) trivial (by kst_all) (by intro z h2 h3; (simp only [List.forall_mem_cons, List.not_mem_nil, false_implies, implies_true, and_true, ne_eq] at h2); (simp only [List.contains_cons, List.contains_nil, Bool.or_false, Bool.or_eq_false_iff, beq_eq_false_iff_ne, ne_eq] at h3); simp [kstB, h2, h3]) ?_ ?_
      · exact ⟨bis_dn p1 p2 p3 p4 p5 hD (by assumption) (b2_dn' (by assumption)), hT3, hA3 _ (by dsimp only; (first | (law_clear; lia) | lia | omega))⟩
      · dsimp only; (first | (law_clear; lia) | lia | omega)
    · refine ksw_end ⟨_, _, _, _, _, _, _, _⟩ (by assumption) (by assumption) (fun _ h => h) trivial (by kst_all) (by intro z h2 h3; (simp only [List.forall_mem_cons, List.not_mem_nil, false_implies, implies_true, and_true, ne_eq] at h2); (simp only [List.contains_cons, List.contains_nil, Bool.or_false, Bool.or_eq_false_iff, beq_eq_false_iff_ne, ne_eq] at h3); simp [kstB, h2, h3]) ?_ ?_
      · exact ⟨bis_up p1 p2 p3 p4 p5 hD (by assumption) (b2_up' (by assumption)), hT3, hA3 _ (by dsimp only; (first | (law_clear; lia) | lia | omega))⟩
      · dsimp only; (first | (law_clear; lia) | lia | omega)
  · obtain ⟨r, rfl, hc⟩ := bis_cut p1 p2 p3 p4 p5 (by assumption)
    have e0 : (hi' - (r : Int)).toNat = 0 := by (first | (law_clear; lia) | lia | omega)
    rw [e0] at hA2
    (rename Fr _ _ _ _ => F5)
    (rename News _ _ _ _ => N5)
    (try dsimp only)
    exact PLeave.intro F5 fun kp ht hz => hret _ _ _ (fun b o hb e => kp b o (hg' b o hb e)) ht hz ⟨r, _, av, an, rfl, hc, hA2, (N5 (al, listOf av.toArray an) (.tail _ (.head _))).1, ps2, (N5 (149, tabObj ps2) (.head _)).1⟩
end
section
theorem load_S2 : (fun (_ : OpenLaw) (_ : Params → Frag) => True) PySem.Challenge.rw_wb0054_01 hd54.heap_1 := by
  w_top off
  k_fill
  trivial
local macro_rules | `(tactic| walk_at "eval Lambda") => `(tactic| (k_here; k_dflt (refine' kla_eval ?d0 ?_; (case d0 => exact rfl)); (refine halt ?_)))
set_option hygiene false in
local macro_rules | `(tactic| walk_at "eval Name") => `(tactic| (k_here; k_dflt (refine' nameX_G2 (by assumption) ?ho ?hc ?_ ?a ?b; (case hc => exact rfl); (case ho => first | exact hx1 | exact hx2 | exact hx3); (case a => exact rfl); (case b => exact rfl); k_whole)))
local macro_rules | `(tactic| walk_at "call ref") => `(tactic| (refine halt ?_))
theorem step_e (lC rl al : Addr) (rv : List Value) (rn : List Int) (side : Nat) (ts : Tok) (ch : List (Addr × List Value × List Int)) (ps ps3 : Array Value) (hr : IntsAre rv rn) (hr5 : rn.length = 5) (hr9 : ∀ x ∈ rn, 0 ≤ x ∧ x ≤ 5) (hch : ∀ q ∈ ch, IntsAre q.2.1 q.2.2 ∧ Five q.2.2 ∧ q.1 ≠ al) (hs : side < 2) (hal : al ≠ 149) (ha3 : al ≠ 163) (har : rl ≠ al) (hac : lC ≠ al) (hlen : ch.length < 2 ^ 18)
    (hD : Down (fun i => !(galeF rn side (ch.getD i (0, [], [])).2.2 5).isNone) ch.length) :
    ESpec hd54.heap_1 10 168 [.ref lC, .ref rl, .int (side : Int) ts, .ref al] [] [(163, tabObj ps3), (149, tabObj ps), (al, listOf #[] 0)]
      (fun h _ => h.IsList lC (ch.map fun q => Value.ref q.1).toArray ∧ h.IsList rl rv.toArray ∧ (∀ q ∈ ch, h.IsList q.1 q.2.1.toArray) ∧ TabL h gqual ps [] ∧ TabL h squal ps3 [])
      (fun v h' _ _ => ∃ (r : Nat) (t : Tok) (av : List Value) (an : Nat), v = .int (r : Int) t ∧ Cut (fun i => !(galeF rn side (ch.getD i (0, [], [])).2.2 5).isNone) ch.length r ∧ AskI ch.length 0 av.length ∧ h'.get? al = some (listOf av.toArray an) ∧ (∃ ps', h'.get? 149 = some (tabObj ps')) ∧ ∃ ps', h'.get? 163 = some (tabObj ps')) := by
  unfold ESpec; intro prog w p loose mean mg mb dp un gd cn cs a ccd cl outer A₀ base h₀ L m s Q E B F N X T hk hd9 hu9 hpre hret; refine wpAny_both ?_
  have nh : ∀ q ∈ [(163, tabObj ps3), (149, tabObj ps), (al, listOf #[] 0)], NotRec q.2 := by
    intro q hq
    rcases (mc hq).imp_right fun h => (mc h).imp_right mc1 with rfl | rfl | rfl
    · exact notRec_tab hpre.2.2.2.2
    · exact notRec_tab hpre.2.2.2.1
    · exact notRec_list _ _
  have nN := fun q hq => (N q hq).1
  have n9 : ∀ (l : Addr) (vs : List Value), s.heap.IsList l vs.toArray → l ≠ al → l ∉ [(163, tabObj ps3), (149, tabObj ps), (al, listOf #[] 0)].map (·.1) := fun l vs h hl q => by
    obtain ⟨o2, e2, c2, _⟩ := h
    simp only [List.map_cons, List.map_nil, List.mem_cons, List.not_mem_nil, or_false] at q
    rcases q with q | q | q
    · rw [q, (N _ (.head _)).1] at e2; cases e2; cases c2
    · rw [q, (N _ (.tail _ (.head _))).1] at e2; cases e2; cases c2
    · exact hl q
  have n1 := n9 _ _ hpre.1 hac
  have n2 := n9 _ _ hpre.2.1 har
  have n3 := fun q hq => n9 _ _ (hpre.2.2.1 q hq) (hch q hq).2.2
  clear n9
  k_dflt (refine' enterEC (binds := [(Str.ofString "chain", .ref lC), (Str.ofString "rows", .ref rl), (Str.ofString "side", .int (side : Int) ts), (Str.ofString "asked", .ref al)]) ?k1 ?k2 ?k3 ?k4 ?k5 ?kA ?kF ?kK ?k6 ?k7 ?k8 ?k9 ?kB ?kN ?_ ?c2 ?c3 ?c4; (case kA => exact rfl); (case kF => exact rfl); (case kK => assumption); (case k1 => k_asm); (case k2 => k_asm); (case k3 => k_asm); (case k4 => k_asm); (case k5 => k_asm); (case k6 => k_is); (case k7 => k_is); (case k8 => ktr_room); (case k9 => exact BindsTo.of_eq rfl); (case kB => exact rfl); (case kN => decide); (case c2 => exact rfl); (case c3 => exact rfl); (case c4 => exact rfl); k_whole; intro g' L' h' tk' cells' hg' kh' ht' F' N' Y' lt' B' X' T'; (try k_lt lt'); k_cells Y'; (try simp only [List.cons_append, List.nil_append] at N'); (try dsimp only); (try k_lift B'); (try k_fold); refine let_fold3 (P := fun (M : Model) (A : Around) (en : Env) => wpAny M A (execs _ en) _ _ _) _ _ _ ?_; intro M9 A9 en9; show wpAny M9 A9 (execs _ en9) _ _ _)
  rename_i oA oS oR dA dS dR
  have dA : oA.data = .cell (some (.ref al)) := dA
  have dS : oS.data = .cell (some (.int (side : Int) ts)) := dS
  have dR : oR.data = .cell (some (.ref rl)) := dR
  have hC : CodeHd g' 167 163 := ⟨_, _, _, _, _, _, _, _, _, X' _ _ (by k_is), rfl, rfl, rfl, rfl, rfl, rfl, rfl, rfl, by decide⟩
  have hlC : g'.IsList lC (ch.map fun q => Value.ref q.1).toArray := list_hide hpre.1 n1 hg'
  have hrl : g'.IsList rl rv.toArray := list_hide hpre.2.1 n2 hg'
  have hq1 : ∀ q ∈ ch, g'.IsList q.1 q.2.1.toArray := fun q hq => list_hide (hpre.2.2.1 q hq) (n3 q hq) hg'
  have hTG : TabL g' gqual ps [] := tab_hide2 hpre.2.2.2.1 nN nh hg'
  have hTS : TabL g' squal ps3 [] := tab_hide2 hpre.2.2.2.2 nN nh hg'
  k_steps
  · unfold Halt
    have hs0 : side = 0 := by (first | (law_clear; lia) | lia | omega)
    refine lam_any (qual := squal) F' N' T' hC rfl (ps := ps3) (ex := []) (.head _) hTS (fun q hq => by cases hq) rfl ?_
    intro f9 c9 ctv9 h9 tk9 ps9 ex9 oF9 eF9 F9 NB9 TB9 nP9 rec9 lt9 nw9 exl9 kp9 cc9
    have lf9 := ltN (lt9 (L' + 1, oR) (.tail _ (.tail _ (.tail _ (.tail _ (.tail _ (.head _)))))))
    dsimp only at lf9
    have N9 := NB9 ((149, tabObj ps) :: (al, listOf #[] 0) :: (f9, oF9) :: (L' + 1 + 1 + 1, oA) :: (L' + 1 + 1, oS) :: (L' + 1, oR) :: []) (by
      intro q hq
      rcases (mc hq).imp_right fun h => (mc h).imp_right fun h => (mc h).imp_right fun h => (mc h).imp_right fun h => (mc h).imp_right mc1 with rfl | rfl | rfl | rfl | rfl | rfl
      · exact .inl ⟨.tail _ (.head _), neN (by (try dsimp only); (first | (law_clear; lia) | lia | omega))⟩
      · exact .inl ⟨.tail _ (.tail _ (.head _)), ha3⟩
      · exact .inr (.inr (.inl rfl))
      · exact .inl ⟨.tail _ (.tail _ (.tail _ (.head _))), neN (by (try dsimp only); (first | (law_clear; lia) | lia | omega))⟩
      · exact .inl ⟨.tail _ (.tail _ (.tail _ (.tail _ (.head _)))), neN (by (try dsimp only); (first | (law_clear; lia) | lia | omega))⟩
      · exact .inl ⟨.tail _ (.tail _ (.tail _ (.tail _ (.tail _ (.head _))))), neN (by (try dsimp only); (first | (law_clear; lia) | lia | omega))⟩)
    have nal : @Ne Nat al f9 := by have := ltN lt'.2.2; (first | (law_clear; lia) | lia | omega)
    have hK : KeyEff f9 8 al (ch.map fun q => Value.ref q.1) (fun i => (galeF rn side (ch.getD i (0, [], [])).2.2 5).isNone) (KpB al h9) := by
      refine ⟨fun h h' k x b o h1 h2 e => k b o h1 h2 (x b o h1 h2 e), fun h x => ⟨_, _, _, _, eF9 ▸ x _ _ (neN (by (first | (law_clear; lia) | lia | omega))) (Ne.symm nal) (N9 (f9, oF9) (.tail _ (.tail _ (.head _)))).1⟩, fun i v ps av an hv hav => ?_⟩
      obtain ⟨q9, hq9, rfl⟩ : ∃ q, ch[i]? = some q ∧ v = Value.ref q.1 := by
        rw [List.getElem?_map] at hv
        cases e : ch[i]? with
        | none => rw [e] at hv; cases hv
        | some q => rw [e] at hv; cases hv; exact ⟨q, rfl, rfl⟩
      have hqm : q9 ∈ ch := List.mem_of_getElem? hq9
      have hqd : ch.getD i (0, [], []) = q9 := by simp [List.getD, hq9]
      obtain ⟨c1, c2, c3⟩ := hch q9 hqm
      subst eF9
      unfold ESpec; intro prog w p loose mean mg mb dp un gd cn cs a ccd cl outer A₀ base h₀ L m s Q E B F N X T hk hd9 hu9 hpre hret; refine wpAny_both ?_
      have hN2 : ∀ q ∈ [(149, tabObj ps), (al, listOf av.toArray an)], NotRec q.2 := by
        intro q hq
        rcases (mc hq).imp_right mc1 with rfl | rfl
        · exact notRec_tab hpre.2
        · exact notRec_list _ _
      have hu : ∀ b o, b ≠ 149 → b ≠ al → h9.get? b = some o → s.heap.get? b = some o := hpre.1
      have recs : s.heap.CodeRec (.ref c9) squal := by
        obtain ⟨c2', o2, vs2, t2, e1, e2, e3, e4⟩ := rec9
        cases e1
        refine ⟨c9, o2, vs2, t2, rfl, hu _ _ (fun q => ?_) (fun q => ?_) e2, e3, e4⟩
        · rw [q, (N9 _ (.head _)).1] at e2; cases e2; exact notRec_tab hTG ⟨vs2, squal, t2, e3, e4⟩
        · rw [q, (N9 _ (.tail _ (.head _))).1] at e2; cases e2; cases e3
      k_dflt (refine' enterEL ?k1 ?k2 ?k3 ?k4 ?k5 ?kA ?kF ?kK ?k6 ?k7 ?k8 ?k9 ?kB ?_ ?c2 ?c3 ?c4 ?c5; (case kA => exact rfl); (case kF => exact rfl); (case kK => assumption); (case k1 => k_asm); (case k2 => k_asm); (case k3 => k_asm); (case k4 => k_asm); (case k5 => k_asm); (case k6 => exact hu _ _ (neN (by (first | (law_clear; lia) | lia | omega))) (Ne.symm nal) (N9 _ (.tail _ (.tail _ (.head _)))).1); (case k7 => exact recs); (case k8 => ktr_room); (case k9 => exact rfl); (case c5 => decide); (case kB => exact locs rfl); (case c2 => exact rfl); (case c3 => exact rfl); (case c4 => exact rfl); k_whole; intro g8 L8 h8 tk8 eg8 kh8 ht8 F8 N8 B8 X8 T8; (try dsimp only); (try k_lift B8); (try k_fold))
      have up : ∀ b o, b ≠ 149 → b ≠ al → h9.get? b = some o → g8.get? b = some o := fun b o h1 h2 e => eg8 b o (by simp; exact ⟨h1, h2⟩) (hu b o h1 h2 e)
      have la := ltN lt'.2.2
      have hx1 : ∃ o, g8.get? (L' + 1 + 1 + 1) = some o ∧ o.data = .cell (some (.ref al)) := ⟨oA, up _ _ (neN (by (first | (law_clear; lia) | lia | omega))) (neN (by (first | (law_clear; lia) | lia | omega))) (N9 (L' + 1 + 1 + 1, oA) (.tail _ (.tail _ (.tail _ (.head _))))).1, dA⟩
      have hx2 : ∃ o, g8.get? (L' + 1 + 1) = some o ∧ o.data = .cell (some (.int (side : Int) ts)) := ⟨oS, up _ _ (neN (by (first | (law_clear; lia) | lia | omega))) (neN (by (first | (law_clear; lia) | lia | omega))) (N9 (L' + 1 + 1, oS) (.tail _ (.tail _ (.tail _ (.tail _ (.head _)))))).1, dS⟩
      have hx3 : ∃ o, g8.get? (L' + 1) = some o ∧ o.data = .cell (some (.ref rl)) := ⟨oR, up _ _ (neN (by (first | (law_clear; lia) | lia | omega))) (neN (by (first | (law_clear; lia) | lia | omega))) (N9 (L' + 1, oR) (.tail _ (.tail _ (.tail _ (.tail _ (.tail _ (.head _))))))).1, dR⟩
      have hr8 : g8.IsList rl rv.toArray := hrl.at fun o e => up _ _ (fun q => n2 (by simp [q])) har (F9.keep _ _ e)
      have hw8 : g8.IsList q9.1 q9.2.1.toArray := (hq1 q9 hqm).at fun o e => up _ _ (fun q => n3 q9 hqm (by simp [q])) c3 (F9.keep _ _ e)
      have hT8 : TabL g8 gqual ps [] := tab_hide2 hpre.2 (fun q hq => (N q hq).1) hN2 eg8
      k_steps
      unfold Halt
      (rename Fr g8 _ _ _ => F7)
      refine ESpec.useA (A₀ := _) (refused_e rl q9.1 al rv q9.2.1 av an rn q9.2.2 side ts ps hr c1 hr5 hr9 c2 hs hal har c3 hav) (by k_asm) (by k_asm) (by k_asm) (fun q hq => hq) (by assumption) (by k_asm) (by exact rfl) (by exact rfl) (by (try dsimp +zetaDelta only [ktrTop, Around.deeper]); first | (first | (law_clear; lia) | lia | omega) | decide) (by (try dsimp +zetaDelta only [ktrTop, Around.deeper]); first | (first | (law_clear; lia) | lia | omega) | decide) (⟨hr8.at fun o e => F7.keep _ _ e, hw8.at fun o e => F7.keep _ _ e, tab_up hT8 F7.keep⟩) ?_; intro v9 h9 tk9 F9 N9 kp9 ht9 hz9 hp9; (try dsimp only at hp9 ht9 hz9 kp9)
      obtain ⟨rfl, hpt, hga⟩ := hp9
      (rename Fr g8 _ _ _ => F6)
      k_steps
      (try dsimp only)
      exact PLeave.intro F6 fun kp ht hz => hret _ _ _ (fun b o hb e => kp b o (eg8 b o hb e)) ht hz ⟨by rw [hqd], hpt, hga⟩
    k_steps
    unfold Halt
    show wpAny _ _ (call (.ref 50) [.ref lC, .bool true] [(Str.ofString "key", .ref f9)]) _ _ _
    refine ESpec.useA (bisL_eff f9 8 al _ _ _ hK lC ps (by simpa using hlen) hac hal (by simpa using hD)) B' F9 N9 two_sub X' T' rfl rfl (by (try dsimp +zetaDelta only [ktrTop, Around.deeper]); (first | (law_clear; lia) | lia | omega)) (by (try dsimp +zetaDelta only [ktrTop, Around.deeper]); (first | (law_clear; lia) | lia | omega)) ⟨hlC.at fun o e => F9.keep _ _ e, fun b o _ _ e => e, tab_up hTG F9.keep⟩ ?_
    intro v8 h8 tk8 F8 NB8 kp8 ht8 hz8 hp8
    obtain ⟨r, t, av, an, rfl, hc, ha, hga, h149⟩ := hp8
    have h163 : h8.get? 163 = some (tabObj ps9) := kp8 _ _ (by simp only [List.map_cons, List.map_nil, List.mem_cons, List.not_mem_nil, or_false, not_or]; exact ⟨neN (by decide), Ne.symm ha3⟩) (NB9 [(163, tabObj ps9)] (fun q hq => .inr (.inl (List.mem_singleton.mp hq))) _ (.head _)).1
    rw [List.length_map] at hc ha
    k_steps
    (try dsimp only)
    exact PLeave.intro F8 fun kp ht hz => hret _ _ _ (fun b o hb e => kp b o (hg' b o hb e)) ht hz ⟨r, t, av, an, rfl, hc, ha, hga, h149, ps9, h163⟩
  · unfold Halt
    have hs0 : side = 1 := by (first | (law_clear; lia) | lia | omega)
    refine lam_any (qual := squal) F' N' T' hC rfl (ps := ps3) (ex := []) (.head _) hTS (fun q hq => by cases hq) rfl ?_
    intro f9 c9 ctv9 h9 tk9 ps9 ex9 oF9 eF9 F9 NB9 TB9 nP9 rec9 lt9 nw9 exl9 kp9 cc9
    have lf9 := ltN (lt9 (L' + 1, oR) (.tail _ (.tail _ (.tail _ (.tail _ (.tail _ (.head _)))))))
    dsimp only at lf9
    have N9 := NB9 ((149, tabObj ps) :: (al, listOf #[] 0) :: (f9, oF9) :: (L' + 1 + 1 + 1, oA) :: (L' + 1 + 1, oS) :: (L' + 1, oR) :: []) (by
      intro q hq
      rcases (mc hq).imp_right fun h => (mc h).imp_right fun h => (mc h).imp_right fun h => (mc h).imp_right fun h => (mc h).imp_right mc1 with rfl | rfl | rfl | rfl | rfl | rfl
      · exact .inl ⟨.tail _ (.head _), neN (by (try dsimp only); (first | (law_clear; lia) | lia | omega))⟩
      · exact .inl ⟨.tail _ (.tail _ (.head _)), ha3⟩
      · exact .inr (.inr (.inl rfl))
      · exact .inl ⟨.tail _ (.tail _ (.tail _ (.head _))), neN (by (try dsimp only); (first | (law_clear; lia) | lia | omega))⟩
      · exact .inl ⟨.tail _ (.tail _ (.tail _ (.tail _ (.head _)))), neN (by (try dsimp only); (first | (law_clear; lia) | lia | omega))⟩
      · exact .inl ⟨.tail _ (.tail _ (.tail _ (.tail _ (.tail _ (.head _))))), neN (by (try dsimp only); (first | (law_clear; lia) | lia | omega))⟩)
    have nal : @Ne Nat al f9 := by have := ltN lt'.2.2; (first | (law_clear; lia) | lia | omega)
    have hK : KeyEff f9 8 al (ch.map fun q => Value.ref q.1) (fun i => (galeF rn side (ch.getD i (0, [], [])).2.2 5).isNone) (KpB al h9) := by
      refine ⟨fun h h' k x b o h1 h2 e => k b o h1 h2 (x b o h1 h2 e), fun h x => ⟨_, _, _, _, eF9 ▸ x _ _ (neN (by (first | (law_clear; lia) | lia | omega))) (Ne.symm nal) (N9 (f9, oF9) (.tail _ (.tail _ (.head _)))).1⟩, fun i v ps av an hv hav => ?_⟩
      obtain ⟨q9, hq9, rfl⟩ : ∃ q, ch[i]? = some q ∧ v = Value.ref q.1 := by
        rw [List.getElem?_map] at hv
        cases e : ch[i]? with
        | none => rw [e] at hv; cases hv
        | some q => rw [e] at hv; cases hv; exact ⟨q, rfl, rfl⟩
      have hqm : q9 ∈ ch := List.mem_of_getElem? hq9
      have hqd : ch.getD i (0, [], []) = q9 := by simp [List.getD, hq9]
      obtain ⟨c1, c2, c3⟩ := hch q9 hqm
      subst eF9
      unfold ESpec; intro prog w p loose mean mg mb dp un gd cn cs a ccd cl outer A₀ base h₀ L m s Q E B F N X T hk hd9 hu9 hpre hret; refine wpAny_both ?_
      have hN2 : ∀ q ∈ [(149, tabObj ps), (al, listOf av.toArray an)], NotRec q.2 := by
        intro q hq
        rcases (mc hq).imp_right mc1 with rfl | rfl
        · exact notRec_tab hpre.2
        · exact notRec_list _ _
      have hu : ∀ b o, b ≠ 149 → b ≠ al → h9.get? b = some o → s.heap.get? b = some o := hpre.1
      have recs : s.heap.CodeRec (.ref c9) squal := by
        obtain ⟨c2', o2, vs2, t2, e1, e2, e3, e4⟩ := rec9
        cases e1
        refine ⟨c9, o2, vs2, t2, rfl, hu _ _ (fun q => ?_) (fun q => ?_) e2, e3, e4⟩
        · rw [q, (N9 _ (.head _)).1] at e2; cases e2; exact notRec_tab hTG ⟨vs2, squal, t2, e3, e4⟩
        · rw [q, (N9 _ (.tail _ (.head _))).1] at e2; cases e2; cases e3
      k_dflt (refine' enterEL ?k1 ?k2 ?k3 ?k4 ?k5 ?kA ?kF ?kK ?k6 ?k7 ?k8 ?k9 ?kB ?_ ?c2 ?c3 ?c4 ?c5; (case kA => exact rfl); (case kF => exact rfl); (case kK => assumption); (case k1 => k_asm); (case k2 => k_asm); (case k3 => k_asm); (case k4 => k_asm); (case k5 => k_asm); (case k6 => exact hu _ _ (neN (by (first | (law_clear; lia) | lia | omega))) (Ne.symm nal) (N9 _ (.tail _ (.tail _ (.head _)))).1); (case k7 => exact recs); (case k8 => ktr_room); (case k9 => exact rfl); (case c5 => decide); (case kB => exact locs rfl); (case c2 => exact rfl); (case c3 => exact rfl); (case c4 => exact rfl); k_whole; intro g8 L8 h8 tk8 eg8 kh8 ht8 F8 N8 B8 X8 T8; (try dsimp only); (try k_lift B8); (try k_fold))
      have up : ∀ b o, b ≠ 149 → b ≠ al → h9.get? b = some o → g8.get? b = some o := fun b o h1 h2 e => eg8 b o (by simp; exact ⟨h1, h2⟩) (hu b o h1 h2 e)
      have la := ltN lt'.2.2
      have hx1 : ∃ o, g8.get? (L' + 1 + 1 + 1) = some o ∧ o.data = .cell (some (.ref al)) := ⟨oA, up _ _ (neN (by (first | (law_clear; lia) | lia | omega))) (neN (by (first | (law_clear; lia) | lia | omega))) (N9 (L' + 1 + 1 + 1, oA) (.tail _ (.tail _ (.tail _ (.head _))))).1, dA⟩
      have hx2 : ∃ o, g8.get? (L' + 1 + 1) = some o ∧ o.data = .cell (some (.int (side : Int) ts)) := ⟨oS, up _ _ (neN (by (first | (law_clear; lia) | lia | omega))) (neN (by (first | (law_clear; lia) | lia | omega))) (N9 (L' + 1 + 1, oS) (.tail _ (.tail _ (.tail _ (.tail _ (.head _)))))).1, dS⟩
      have hx3 : ∃ o, g8.get? (L' + 1) = some o ∧ o.data = .cell (some (.ref rl)) := ⟨oR, up _ _ (neN (by (first | (law_clear; lia) | lia | omega))) (neN (by (first | (law_clear; lia) | lia | omega))) (N9 (L' + 1, oR) (.tail _ (.tail _ (.tail _ (.tail _ (.tail _ (.head _))))))).1, dR⟩
      have hr8 : g8.IsList rl rv.toArray := hrl.at fun o e => up _ _ (fun q => n2 (by simp [q])) har (F9.keep _ _ e)
      have hw8 : g8.IsList q9.1 q9.2.1.toArray := (hq1 q9 hqm).at fun o e => up _ _ (fun q => n3 q9 hqm (by simp [q])) c3 (F9.keep _ _ e)
      have hT8 : TabL g8 gqual ps [] := tab_hide2 hpre.2 (fun q hq => (N q hq).1) hN2 eg8
      k_steps
      unfold Halt
      (rename Fr g8 _ _ _ => F7)
      refine ESpec.useA (A₀ := _) (refused_e rl q9.1 al rv q9.2.1 av an rn q9.2.2 side ts ps hr c1 hr5 hr9 c2 hs hal har c3 hav) (by k_asm) (by k_asm) (by k_asm) (fun q hq => hq) (by assumption) (by k_asm) (by exact rfl) (by exact rfl) (by (try dsimp +zetaDelta only [ktrTop, Around.deeper]); first | (first | (law_clear; lia) | lia | omega) | decide) (by (try dsimp +zetaDelta only [ktrTop, Around.deeper]); first | (first | (law_clear; lia) | lia | omega) | decide) (⟨hr8.at fun o e => F7.keep _ _ e, hw8.at fun o e => F7.keep _ _ e, tab_up hT8 F7.keep⟩) ?_; intro v9 h9 tk9 F9 N9 kp9 ht9 hz9 hp9; (try dsimp only at hp9 ht9 hz9 kp9)
      obtain ⟨rfl, hpt, hga⟩ := hp9
      (rename Fr g8 _ _ _ => F6)
      k_steps
      (try dsimp only)
      exact PLeave.intro F6 fun kp ht hz => hret _ _ _ (fun b o hb e => kp b o (eg8 b o hb e)) ht hz ⟨by rw [hqd], hpt, hga⟩
    k_steps
    unfold Halt
    show wpAny _ _ (call (.ref 32) [.ref lC, .bool false] [(Str.ofString "key", .ref f9)]) _ _ _
    refine ESpec.useA (bisR_eff f9 8 al _ _ _ hK lC ps (by simpa using hlen) hac hal (by simpa using hD)) B' F9 N9 two_sub X' T' rfl rfl (by (try dsimp +zetaDelta only [ktrTop, Around.deeper]); (first | (law_clear; lia) | lia | omega)) (by (try dsimp +zetaDelta only [ktrTop, Around.deeper]); (first | (law_clear; lia) | lia | omega)) ⟨hlC.at fun o e => F9.keep _ _ e, fun b o _ _ e => e, tab_up hTG F9.keep⟩ ?_
    intro v8 h8 tk8 F8 NB8 kp8 ht8 hz8 hp8
    obtain ⟨r, t, av, an, rfl, hc, ha, hga, h149⟩ := hp8
    have h163 : h8.get? 163 = some (tabObj ps9) := kp8 _ _ (by simp only [List.map_cons, List.map_nil, List.mem_cons, List.not_mem_nil, or_false, not_or]; exact ⟨neN (by decide), Ne.symm ha3⟩) (NB9 [(163, tabObj ps9)] (fun q hq => .inr (.inl (List.mem_singleton.mp hq))) _ (.head _)).1
    rw [List.length_map] at hc ha
    k_steps
    (try dsimp only)
    exact PLeave.intro F8 fun kp ht hz => hret _ _ _ (fun b o hb e => kp b o (hg' b o hb e)) ht hz ⟨r, t, av, an, rfl, hc, ha, hga, h149, ps9, h163⟩
end
section
theorem or_split (a b : Nat) : a ||| b = (a ^^^ b) + (a &&& b) := by
  induction a using Nat.strongRecOn generalizing b with
  | _ a ih =>
    by_cases h0 : a = 0
    · subst h0; simp
    · have h := ih (a / 2) (by (first | lia | omega)) (b / 2)
      have d1 : (a ||| b) / 2 = a / 2 ||| b / 2 := Nat.or_div_two
      have d2 : (a ^^^ b) / 2 = a / 2 ^^^ b / 2 := Nat.xor_div_two
      have d3 : (a &&& b) / 2 = a / 2 &&& b / 2 := Nat.and_div_two
      have m1 : (a ||| b) % 2 = a % 2 ||| b % 2 := Nat.or_mod_two_pow (n := 1)
      have m2 : (a ^^^ b) % 2 = a % 2 ^^^ b % 2 := Nat.xor_mod_two_pow (n := 1)
      have m3 : (a &&& b) % 2 = a % 2 &&& b % 2 := Nat.and_mod_two_pow (n := 1)
      have e : a % 2 ||| b % 2 = (a % 2 ^^^ b % 2) + (a % 2 &&& b % 2) := by
        rcases Nat.mod_two_eq_zero_or_one a with x | x <;> rcases Nat.mod_two_eq_zero_or_one b with y | y <;> rw [x, y] <;> rfl
      (first | lia | omega)
theorem bAnd (a b : Nat) : Builtin.bitAnd (a : Int) (b : Int) = ((a &&& b : Nat) : Int) := by
  unfold Builtin.bitAnd
  simp
theorem bNot (a : Int) : Builtin.bitNot a = -a - 1 := by unfold Builtin.bitNot; (first | lia | omega)
theorem bOr (a b : Nat) : Builtin.bitOr (a : Int) (b : Int) = ((a ||| b : Nat) : Int) := by
  unfold Builtin.bitOr Builtin.bitAnd
  rw [bNot a, bNot b]
  have h1 : decide (0 ≤ -(a : Int) - 1) = false := by simp; (first | lia | omega)
  have h2 : decide (0 ≤ -(b : Int) - 1) = false := by simp; (first | lia | omega)
  rw [h1, h2]
  simp only [bNot]
  have e1 : (-(-(a : Int) - 1) - 1).toNat = a := by (first | lia | omega)
  have e2 : (-(-(b : Int) - 1) - 1).toNat = b := by (first | lia | omega)
  rw [e1, e2]
  (first | lia | omega)
theorem bXor (a b : Nat) : Builtin.bitXor (a : Int) (b : Int) = ((a ^^^ b : Nat) : Int) := by
  unfold Builtin.bitXor
  rw [bOr, bAnd, or_split]
  (first | lia | omega)
/-- x & ~y -/
theorem bAndNot (a b : Nat) : Builtin.bitAnd (a : Int) (Builtin.bitNot (b : Int)) = ((a ^^^ (a &&& b) : Nat) : Int) := by
  rw [bNot]
  unfold Builtin.bitAnd
  have h2 : decide (0 ≤ -(b : Int) - 1) = false := by simp; (first | lia | omega)
  rw [h2]
  simp only [Int.natCast_nonneg, decide_true, bNot, Int.toNat_natCast]
  have e2 : (-(-(b : Int) - 1) - 1).toNat = b := by (first | lia | omega)
  rw [e2]
  have h := or_split a (a &&& b)
  have e3 : a ||| (a &&& b) = a := by
    apply Nat.eq_of_testBit_eq; intro k; rw [Nat.testBit_or, Nat.testBit_and]; cases a.testBit k <;> simp
  have e4 : a &&& (a &&& b) = a &&& b := by
    apply Nat.eq_of_testBit_eq; intro k; rw [Nat.testBit_and, Nat.testBit_and]; cases a.testBit k <;> simp
  rw [e3, e4] at h
  (first | lia | omega)
end
section
open Builtin Builtin.Str
theorem numbered_ge : ∀ (tk : Nat) (xs : List PySem.Str), ∀ p ∈ numbered tk xs, tk ≤ p.2
  | _, [], _, h => by cases h
  | tk, x :: r, p, h => by
    rcases List.mem_cons.mp h with rfl | h
    · exact Nat.le_refl _
    · exact Nat.le_of_succ_le (numbered_ge (tk + 1) r p h)
theorem numbered_lt : ∀ (tk : Nat) (xs : List PySem.Str), ∀ p ∈ numbered tk xs, p.2 < tk + xs.length
  | _, [], _, h => by cases h
  | tk, x :: r, p, h => by
    rcases List.mem_cons.mp h with rfl | h
    · simp
    · have := numbered_lt (tk + 1) r p h
      show p.2 < tk + (r.length + 1)
      exact Nat.lt_of_lt_of_eq this (by (first | lia | omega))
section
variable {prog : Program} {w : World} {A : Around} {E : Value → Shared → Prop} {s : Shared} {h₀ : Heap} {L D : Addr} {m : PySem.Str → Option Value} {news : List (Addr × Obj)} {x y : PySem.Str} {t u : Tok} {Q : Value → Shared → Prop}
/-- sep.join(l), with the token: that of the only part, or a new one -/
theorem join_tok {l : List (PySem.Str × Tok)} (hl : s.heap.IsList D (strValues l).toArray) (hsep : x.length ≤ 16) (hw : ((l.map (·.1)).map (·.length)).sum + (l.map (·.1)).length ≤ 1048576)
    (h : ∀ t' k, (s.toks ≤ k ∧ ((s.toks ≤ t' ∧ t' < k) ∨ ∃ p ∈ l, t' = p.2)) → Q (.str (Txt.join x (l.map (·.1))) t') { s with toks := k }) : wpAny (model prog w) A (call (.builtin "str.join") [.str x t, .ref D]) Q E s := by
  have hok := joinOk_of (total_of_weight (ys := l.map (·.1)) (x := x) hw hsep)
  unfold JoinOk at hok
  rw [Bool.not_eq_true'] at hok
  have hfit := joinFit_length hok
  refine call_meets F.slot_str_join (typeIs_str _ _ _) F.entry_str_join (F.args_str_join_2 _ _) (meets_str_join_list x t D l hok) ⟨hl, ?_⟩
  match l, h, hfit with
  | [], h, hfit => exact ⟨hfit, h _ _ ⟨Nat.le_succ _, .inl ⟨Nat.le_refl _, Nat.lt_succ_self _⟩⟩⟩
  | [p], h, hfit => exact h _ _ ⟨Nat.le_refl _, .inr ⟨p, .head _, rfl⟩⟩
  | p :: q :: r, h, hfit => exact ⟨hfit, h _ _ ⟨Nat.le_succ _, .inl ⟨Nat.le_refl _, Nat.lt_succ_self _⟩⟩⟩
/-- x.split(y), with the tokens: that of x, or new ones -/
theorem split_tok (hF : Fr h₀ L s.heap m) (hN : News h₀ L s.heap news) (hy : (y.length == 0) = false)
    (h : ∀ D l h' k, l.map (·.1) = Txt.split x y → s.toks ≤ k → (∀ p ∈ l, (s.toks ≤ p.2 ∧ p.2 < k) ∨ p.2 = t) → Fr h₀ L h' m → News h₀ L h' ((D, listOf (strValues l).toArray 0) :: news) → (∀ p ∈ news, p.1 < D) → Q (.ref D) { s with heap := h', toks := k })
    (hsz : x.length + 2 ≤ sizeLine) : wpAny (model prog w) A (call (.builtin "str.split") [.str x t, .str y u]) Q E s := by
  have hn : (partsBetween x (occurrences x y 0 x.length (x.length + 1)) y.length).length ≤ sizeLine := by
    have e1 := StrLaws.occ_length_le x y 0 x.length (x.length + 1)
    rw [length_partsBetween]; (first | lia | omega)
  have hlt : ∀ p ∈ news, p.1 < s.heap.objs.size := fun p hp => Heap.lt_size (hN p hp).1
  have one : ∀ p ∈ [(x, t)], (s.toks ≤ p.2 ∧ p.2 < s.toks) ∨ p.2 = t := fun p hp => by rw [List.mem_singleton.mp hp]; exact .inr rfl
  cases h1 : (decide (x.length < y.length) || decide (strKind x < strKind y))
  · cases hf : (occurrences x y 0 x.length (x.length + 1)).isEmpty
    · refine call_meets F.slot_str_split (typeIs_str _ _ _) F.entry_str_split (F.args_str_split_2 _ _) (meets_str_split_sep x y t u h1 hy hf (by (first | lia | omega)) hn) ?_
      show wants Q E _ { s with toks := _, heap := s.heap.push { cls := .type "list", data := .seq (strsFrom s.toks (partsBetween x (occurrences x y 0 x.length (x.length + 1)) y.length)).toArray } }
      rw [strsFrom_eq]
      exact h _ (numbered s.toks _) _ _ ((numbered_texts _ _).trans ((if_neg (ne_true_of_eq_false h1)).trans (if_neg (ne_true_of_eq_false hf))).symm) (Nat.le_add_right _ _) (fun p hp => .inl ⟨numbered_ge _ _ p hp, numbered_lt _ _ p hp⟩) (Fr.pushS hF _) (News.push hF hN _) hlt
    · exact call_meets F.slot_str_split (typeIs_str _ _ _) F.entry_str_split (F.args_str_split_2 _ _) (meets_str_split_not_found x y t u h1 hy hf)
        (h _ [(x, t)] _ s.toks ((if_neg (ne_true_of_eq_false h1)).trans (if_pos hf)).symm (Nat.le_refl _) one (Fr.pushS hF _) (News.push hF hN _) hlt)
  · exact call_meets F.slot_str_split (typeIs_str _ _ _) F.entry_str_split (F.args_str_split_2 _ _) (meets_str_split_cannot_occur x y t u h1)
      (h _ [(x, t)] _ s.toks (if_pos h1).symm (Nat.le_refl _) one (Fr.pushS hF _) (News.push hF hN _) hlt)
end
/-! splitting what was joined -/
open StrLaws in
theorem at_iff (x : PySem.Str) (c d i : Nat) : At x ⟨#[c, d]⟩ x.length i ↔ x.cps.toList[i]? = some c ∧ x.cps.toList[i + 1]? = some d := by
  unfold At
  rw [subAt_eq]
  have hl : (⟨#[c, d]⟩ : PySem.Str).length = 2 := rfl
  have hn : x.cps.toList.length = x.length := by simp [Str.length]
  rw [hl]
  have e : ((x.cps.toList.drop i).take 2 == ([c, d] : List Nat)) = true ↔ x.cps.toList[i]? = some c ∧ x.cps.toList[i + 1]? = some d := by
    rw [beq_iff_eq, ← List.getElem?_drop (i := i) (j := 1), show x.cps.toList[i]? = (x.cps.toList.drop i)[0]? by rw [List.getElem?_drop]; rfl]
    cases x.cps.toList.drop i with
    | nil => simp
    | cons a r =>
      cases r with
      | nil => simp
      | cons b r => simp
  show i + 2 ≤ x.length ∧ ((x.cps.toList.drop i).take 2 == ([c, d] : List Nat)) = true ↔ _
  rw [e]
  constructor
  · exact fun h => h.2
  · intro h
    refine ⟨?_, h⟩
    have := (List.getElem?_eq_some_iff.mp h.2).1
    (first | lia | omega)
open StrLaws in
theorem parts_words (x : PySem.Str) (c d : Nat) : ∀ (ws : List PySem.Str) (a f : Nat) (cuts : List Nat), ws ≠ [] → (∀ p ∈ ws, c ∉ p.cps.toList) → ChainG x ⟨#[c, d]⟩ x.length a cuts f → (∀ k, f ≤ k → ¬ At x ⟨#[c, d]⟩ x.length k) →
    x.cps.toList.drop a = (Str.join ⟨#[c, d]⟩ ws).cps.toList → partsFrom x 2 a cuts = ws
  | [], _, _, _, h, _, _, _, _ => absurd rfl h
  | [p], a, f, cuts, _, hw, hG, hn, e => by
    have e' : x.cps.toList.drop a = p.cps.toList := e
    cases cuts with
    | nil =>
      show [strSub x a x.length] = [p]
      congr 1
      apply Str.ext'
      apply Array.toList_inj.mp
      rw [strSub_toList, List.take_of_length_le (by simp [Str.length]), e']
    | cons b r =>
      have hA := (at_iff x c d b).mp hG.2.1
      refine absurd ?_ (hw p (.head _))
      rw [← e']
      have : (x.cps.toList.drop a)[b - a]? = some c := by rw [List.getElem?_drop, show a + (b - a) = b by have := hG.1; (first | lia | omega)]; exact hA.1
      exact List.mem_of_getElem? this
  | p :: q :: r, a, f, cuts, _, hw, hG, hn, e => by
    have e' : x.cps.toList.drop a = p.cps.toList ++ (c :: d :: (Str.join ⟨#[c, d]⟩ (q :: r)).cps.toList) := by
      rw [e]
      show (p ++ (⟨#[c, d]⟩ : PySem.Str) ++ Str.join ⟨#[c, d]⟩ (q :: r)).cps.toList = _
      simp only [Str.cps_append, Array.toList_append, List.append_assoc]
      rfl
    have hA : At x ⟨#[c, d]⟩ x.length (a + p.cps.toList.length) := by
      rw [at_iff]
      constructor
      · rw [← List.getElem?_drop, e', List.getElem?_append_right (Nat.le_refl _)]; simp
      · rw [Nat.add_assoc, ← List.getElem?_drop, e', List.getElem?_append_right (by (first | lia | omega))]; simp
    cases cuts with
    | nil =>
      have ef : f = a := hG
      exact absurd hA (hn _ (by (first | lia | omega)))
    | cons b r' =>
      obtain ⟨g1, g2, g3, g4⟩ := hG
      have hb : b = a + p.cps.toList.length := by
        rcases Nat.lt_trichotomy b (a + p.cps.toList.length) with h | h | h
        · have := ((at_iff x c d b).mp g2).1
          rw [show b = a + (b - a) by (first | lia | omega), ← List.getElem?_drop, e', List.getElem?_append_left (by (first | lia | omega))] at this
          exact absurd (List.mem_of_getElem? this) (hw p (.head _))
        · exact h
        · exact absurd hA (g3 _ (by (first | lia | omega)) h)
      show strSub x a b :: partsFrom x 2 (b + 2) r' = p :: q :: r
      congr 1
      · apply Str.ext'
        apply Array.toList_inj.mp
        rw [strSub_toList, e', hb, show a + p.cps.toList.length - a = p.cps.toList.length by (first | lia | omega), List.take_left]
      · refine parts_words x c d (q :: r) (b + 2) f r' (by simp) (fun z hz => hw z (.tail _ hz)) g4 hn ?_
        have : x.cps.toList.drop (b + 2) = (x.cps.toList.drop a).drop (p.cps.toList.length + 2) := by rw [List.drop_drop]; congr 1; (first | lia | omega)
        rw [this, e', List.drop_append, List.drop_of_length_le (by (first | lia | omega)), show p.cps.toList.length + 2 - p.cps.toList.length = 2 by (first | lia | omega)]
        rfl
open StrLaws in
theorem split_join (c d : Nat) (hc : c < 256) (hd : d < 256) (ws : List PySem.Str) (h0 : ws ≠ []) (hw : ∀ p ∈ ws, c ∉ p.cps.toList) : Txt.split (Str.join ⟨#[c, d]⟩ ws) ⟨#[c, d]⟩ = ws := by
  obtain ⟨f, hG, hn⟩ := occ_tight (Str.join ⟨#[c, d]⟩ ws) ⟨#[c, d]⟩ (by show 1 ≤ 2; decide)
  have key := parts_words (Str.join ⟨#[c, d]⟩ ws) c d ws 0 f _ h0 hw hG hn (by simp)
  unfold Txt.split
  split
  · rename_i h1
    match ws, h0, h1 with
    | [p], _, _ => rfl
    | p :: q :: r, _, h1 =>
      rw [Bool.or_eq_true, decide_eq_true_eq, decide_eq_true_eq] at h1
      exfalso
      rcases h1 with h | h
      · have e : (Str.join ⟨#[c, d]⟩ (p :: q :: r)).length = (p ++ (⟨#[c, d]⟩ : PySem.Str) ++ Str.join ⟨#[c, d]⟩ (q :: r)).length := rfl
        rw [e, Str.length_append, Str.length_append] at h
        (first | lia | omega)
      · have : strKind ⟨#[c, d]⟩ = 1 := by unfold Builtin.Str.strKind; simp [hc, hd]
        rw [this] at h
        unfold Builtin.Str.strKind at h
        split at h
        · (first | lia | omega)
        · split at h <;> (first | lia | omega)
  · split
    · rename_i h2
      rw [List.isEmpty_iff.mp h2] at key
      rw [← key]
      show [_] = [strSub _ 0 _]
      rw [sub_whole, key]
    · rw [partsBetween_eq]
      exact key
end
section
open Builtin Builtin.Str
def flagNames : List PySem.Str := ["OPTIMIZED", "NEWLOCALS", "VARARGS", "VARKEYWORDS", "NESTED", "GENERATOR", "NOFREE", "COROUTINE", "ITERABLE_COROUTINE", "ASYNC_GENERATOR"].map PySem.Str.ofString
/-- the word for the binary place k -/
def flagW (k : Nat) : PySem.Str := if k < 10 then flagNames.getD k Str.empty else baseText "0x" 16 ((2 ^ k : Nat) : Int)
def wordsTo (n i : Nat) : List PySem.Str := ((List.range i).filter n.testBit).map flagW
/-- the words of pretty_flags -/
def flagWords (n : Nat) : List PySem.Str := if n = 0 then [baseText "0x" 16 0] else wordsTo n 32
theorem wordsTo_succ (n i : Nat) : wordsTo n (i + 1) = wordsTo n i ++ if n.testBit i then [flagW i] else [] := by
  unfold wordsTo
  rw [List.range_succ, List.filter_append, List.map_append]
  congr 1
  simp only [List.filter_cons, List.filter_nil]
  split <;> simp
theorem wordsTo_all {n i : Nat} (h : n < 2 ^ i) : ∀ k, wordsTo n (i + k) = wordsTo n i
  | 0 => rfl
  | k + 1 => by
    rw [← Nat.add_assoc, wordsTo_succ, wordsTo_all h k]
    have : n.testBit (i + k) = false := Nat.testBit_lt_two_pow (Nat.lt_of_lt_of_le h (Nat.pow_le_pow_right (by decide) (by (first | lia | omega))))
    rw [this]
    simp
/-- what is left of n when the places below i are done -/
def curN (n i : Nat) : Nat := n / 2 ^ i * 2 ^ i
theorem cur_bit (n i k : Nat) : (curN n i).testBit k = (decide (i ≤ k) && n.testBit k) := by
  unfold curN
  rw [Nat.mul_comm, Nat.testBit_two_pow_mul, Nat.testBit_div_two_pow]
  by_cases h : i ≤ k
  · simp [h]
  · simp [h]
theorem cur_and (n i : Nat) : curN n i &&& 2 ^ i = if n.testBit i then 2 ^ i else 0 := by
  apply Nat.eq_of_testBit_eq
  intro k
  rw [Nat.testBit_and, cur_bit, Nat.testBit_two_pow]
  split
  · rename_i h
    rw [Nat.testBit_two_pow]
    by_cases e : i = k
    · subst e; simp [h]
    · simp [e]
  · rename_i h
    rw [Nat.zero_testBit]
    by_cases e : i = k
    · subst e; simp [h]
    · simp [e]
theorem cur_xor {n i : Nat} (h : n.testBit i = true) : curN n i ^^^ 2 ^ i = curN n (i + 1) := by
  apply Nat.eq_of_testBit_eq
  intro k
  rw [Nat.testBit_xor, cur_bit, cur_bit, Nat.testBit_two_pow]
  by_cases e : i = k
  · subst e; simp [h]
  · by_cases l : i ≤ k
    · have : i + 1 ≤ k := by (first | lia | omega)
      simp [e, l, this]
    · have : ¬ i + 1 ≤ k := by (first | lia | omega)
      simp [e, l, this]
theorem cur_skip {n i : Nat} (h : n.testBit i = false) : curN n i = curN n (i + 1) := by
  apply Nat.eq_of_testBit_eq
  intro k
  rw [cur_bit, cur_bit]
  by_cases e : i = k
  · subst e; simp [h]
  · by_cases l : i ≤ k
    · have : i + 1 ≤ k := by (first | lia | omega)
      simp [l, this]
    · have : ¬ i + 1 ≤ k := by (first | lia | omega)
      simp [l, this]
theorem cur_zero {n i : Nat} (h : curN n i = 0) : n < 2 ^ i := by
  unfold curN at h
  have hp : 0 < 2 ^ i := Nat.pow_pos (by decide)
  rcases Nat.mul_eq_zero.mp h with h | h
  · exact (Nat.div_eq_zero_iff.mp h).resolve_left (by (first | lia | omega))
  · (first | lia | omega)
theorem cur_start (n : Nat) : curN n 0 = n := by simp [curN]
def flagKvs : List (Int × Value) := [(1, .str (Str.ofString "OPTIMIZED") 246), (2, .str (Str.ofString "NEWLOCALS") 248), (4, .str (Str.ofString "VARARGS") 250), (8, .str (Str.ofString "VARKEYWORDS") 252), (16, .str (Str.ofString "NESTED") 254), (32, .str (Str.ofString "GENERATOR") 256), (64, .str (Str.ofString "NOFREE") 258), (128, .str (Str.ofString "COROUTINE") 260), (256, .str (Str.ofString "ITERABLE_COROUTINE") 262), (512, .str (Str.ofString "ASYNC_GENERATOR") 264)]
theorem flag_lo : ∀ i, i < 10 → PySem.valueAt flagKvs ((2 ^ i : Nat) : Int) = some (.str (flagW i) (246 + 2 * i)) := by
  intro i hi
  rcases i with _ | _ | _ | _ | _ | _ | _ | _ | _ | _ | i <;> first | (first | lia | omega) | rfl
theorem flag_hi (i : Nat) (h : 10 ≤ i) : PySem.valueAt flagKvs ((2 ^ i : Nat) : Int) = none := by
  have h2 : 2 ^ 10 ≤ 2 ^ i := Nat.pow_le_pow_right (by decide) h
  unfold PySem.valueAt
  rw [List.find?_eq_none.mpr]
  · rfl
  · intro x hx
    have : x.1 ≤ 512 := by
      simp only [flagKvs, List.mem_cons, List.not_mem_nil, or_false] at hx
      rcases hx with rfl | rfl | rfl | rfl | rfl | rfl | rfl | rfl | rfl | rfl <;> decide
    simp only [decide_eq_true_eq]
    (first | lia | omega)
def zeroW : PySem.Str := baseText "0x" 16 0
def flagOk (k : Nat) : Bool := decide ((flagW k).length ≤ 32) && !((flagW k).cps.toList.contains 44) && !((flagW k).cps.toList == zeroW.cps.toList) && decide ((baseText "0x" 16 ((2 ^ k : Nat) : Int)).length ≤ 32)
theorem flag_ok : ((List.range 32).all flagOk) = true := by decide +kernel
theorem zero_ok : zeroW.length ≤ 32 ∧ 44 ∉ zeroW.cps.toList := by decide +kernel
theorem flag_inj_chk : ((List.range 32).all fun k => (List.range k).all fun j => !((flagW k).cps.toList == (flagW j).cps.toList)) = true := by decide +kernel
theorem flag_fact {k : Nat} (h : k < 32) : (flagW k).length ≤ 32 ∧ 44 ∉ (flagW k).cps.toList ∧ flagW k ≠ zeroW ∧ (baseText "0x" 16 ((2 ^ k : Nat) : Int)).length ≤ 32 := by
  have a := List.all_eq_true.mp flag_ok k (List.mem_range.mpr h)
  simp only [flagOk, Bool.and_eq_true, decide_eq_true_eq, Bool.not_eq_true', beq_eq_false_iff_ne, ne_eq] at a
  refine ⟨a.1.1.1, ?_, fun e => a.1.2 (by rw [e]), a.2⟩
  have := a.1.1.2
  simpa using this
theorem flag_inj {j k : Nat} (hj : j < 32) (hk : k < 32) (e : flagW j = flagW k) : j = k := by
  rcases Nat.lt_trichotomy j k with h | h | h
  · have a := List.all_eq_true.mp (List.all_eq_true.mp flag_inj_chk k (List.mem_range.mpr hk)) j (List.mem_range.mpr h)
    rw [e] at a; simp at a
  · exact h
  · have a := List.all_eq_true.mp (List.all_eq_true.mp flag_inj_chk j (List.mem_range.mpr hj)) k (List.mem_range.mpr h)
    rw [e] at a; simp at a
theorem words_len (n : Nat) : ∀ i, (wordsTo n i).length ≤ i
  | 0 => Nat.le_refl _
  | i + 1 => by
    rw [wordsTo_succ, List.length_append]
    have := words_len n i
    split <;> simp <;> (first | lia | omega)
theorem words_sum (n : Nat) : ∀ i, i ≤ 32 → ((wordsTo n i).map (·.length)).sum ≤ 32 * i
  | 0, _ => Nat.le_refl _
  | i + 1, h => by
    rw [wordsTo_succ, List.map_append, List.sum_append]
    have a := words_sum n i (by (first | lia | omega))
    have b := (flag_fact (k := i) (by (first | lia | omega))).1
    split <;> simp <;> (first | lia | omega)
theorem words_weight (n : Nat) {i : Nat} (h : i ≤ 32) : ((wordsTo n i).map (·.length)).sum + (wordsTo n i).length ≤ 1048576 := by
  have a := words_len n i
  have b := words_sum n i h
  (first | lia | omega)
theorem flagWords_ne (n : Nat) (hn : n < 2 ^ 32) : flagWords n ≠ [] := by
  unfold flagWords
  split
  · simp
  · rename_i h
    intro e
    unfold wordsTo at e
    rw [List.map_eq_nil_iff, List.filter_eq_nil_iff] at e
    apply h
    apply Nat.eq_of_testBit_eq
    intro k
    rw [Nat.zero_testBit]
    by_cases hk : k < 32
    · have := e k (List.mem_range.mpr hk); simpa using this
    · exact Nat.testBit_lt_two_pow (Nat.lt_of_lt_of_le hn (Nat.pow_le_pow_right (by decide) (by (first | lia | omega))))
theorem flagWords_free (n : Nat) : ∀ p ∈ flagWords n, 44 ∉ p.cps.toList ∧ p.length ≤ 32 := by
  intro p hp
  unfold flagWords at hp
  split at hp
  · rw [List.mem_singleton.mp hp]; exact ⟨zero_ok.2, zero_ok.1⟩
  · unfold wordsTo at hp
    obtain ⟨k, hk, rfl⟩ := List.mem_map.mp hp
    have := flag_fact (k := k) (List.mem_range.mp (List.mem_filter.mp hk).1)
    exact ⟨this.2.1, this.1⟩
theorem split_words {n : Nat} (hn : n < 2 ^ 32) : Txt.split (Txt.join ", " (flagWords n)) ", " = flagWords n := by
  have e : (", " : PySem.Str) = ⟨#[44, 32]⟩ := by decide +kernel
  have e2 : Txt.join ", " (flagWords n) = Str.join ⟨#[44, 32]⟩ (flagWords n) := by rw [← e]; exact StrLaws.glued_eq_join _ _
  rw [e2, e]
  exact split_join 44 32 (by decide) (by decide) _ (flagWords_ne n hn) fun p hp => (flagWords_free n p hp).1
theorem sum_le {l : List PySem.Str} {b : Nat} (h : ∀ p ∈ l, p.length ≤ b) : (l.map (·.length)).sum ≤ l.length * b := by
  induction l with
  | nil => simp
  | cons p l ih =>
    have a := ih fun q hq => h q (.tail _ hq)
    have c := h p (.head _)
    simp only [List.map_cons, List.sum_cons, List.length_cons, Nat.succ_mul]
    (first | lia | omega)
theorem flagWords_len (n : Nat) : (flagWords n).length ≤ 32 := by
  unfold flagWords
  split
  · simp
  · exact words_len n 32
theorem words_join_len (n : Nat) : (Txt.join ", " (flagWords n)).length + 2 ≤ sizeLine := by
  have e2 : Txt.join ", " (flagWords n) = Str.join ", " (flagWords n) := StrLaws.glued_eq_join _ _
  rw [e2]
  have a := StrLaws.join_length_le ", " (flagWords n)
  have b := sum_le fun p hp => (flagWords_free n p hp).2
  have c := flagWords_len n
  have d : (", " : PySem.Str).length = 2 := by decide +kernel
  rw [d] at a
  rw [sizeLine_eq]
  have : (flagWords n).length * 32 ≤ 32 * 32 := Nat.mul_le_mul_right _ c
  (first | lia | omega)
end
section
theorem load_P1 : (fun (_ : OpenLaw) (_ : Params → Frag) => True) PySem.Challenge.rw_wb0054_01 hd54.heap_1 := by
  w_top off
  k_fill
  trivial
local macro_rules | `(tactic| walk_at $s:str) => if ("|call builtin:dict.get|call builtin:hex|call builtin:list.append|call builtin:str.join|".splitOn ("|" ++ s.getString ++ "|")).length > 1 then `(tactic| (refine halt ?_)) else Lean.Macro.throwUnsupported
theorem for_ruleT {prog : Program} {w : World} {A : Around} {env : Env} {target iter : Expr} {body orelse : List Stmt} {pos : Pos} {Q : Flow → Shared → Prop} {E : Value → Shared → Prop} {s : Shared}
    (h : wpAny (model prog w) A (eval iter env) (fun xv s₁ => s.toks ≤ s₁.toks → Halt (ForGo prog w A env target body orelse Q xv s₁)) E s)
    (hs : ∀ x, foldedSetIterable iter env x = pure x := by intro _; rfl) : wpAny (model prog w) A (exec (.For target iter body orelse pos) env) Q E s := for_rule (wpAny_toks (wpAny_mono h (fun _ _ x => x) fun _ _ x _ => x)) hs
theorem upd_app {d : Addr} {o o' : Obj} {r : List (Addr × Obj)} (hr : ∀ q ∈ r, q.1 ≠ d) : ∀ {own : List (Addr × Obj)}, (∀ q ∈ own, q.1 ≠ d) → Upd d o o' (own ++ (d, o) :: r) (own ++ (d, o') :: r)
  | [], _ => .head hr
  | q :: own, h => .tail (h q (.head _)) (upd_app hr fun z hz => h z (.tail _ hz))
local macro_rules | `(tactic| walk_at "exec For") => `(tactic| (refine for_ruleT ?_))
theorem flag_tab {prog : Program} {w : World} {h : Heap} (X : (hd54.heap_1 w.params).In h) : h.DictOf (PySem.intKind prog w) 51 flagKvs := by
  refine ⟨_, _, _, X _ _ (by k_is), ⟨rfl, rfl, rfl⟩, rfl, ?_, ?_, by decide⟩
  · intro e he
    simp only [List.mem_toArray, List.mem_cons, List.not_mem_nil, or_false] at he
    rcases he with rfl | rfl | rfl | rfl | rfl | rfl | rfl | rfl | rfl | rfl <;> first | exact ⟨1, rfl, rfl⟩ | exact ⟨2, rfl, rfl⟩ | exact ⟨4, rfl, rfl⟩ | exact ⟨8, rfl, rfl⟩ | exact ⟨16, rfl, rfl⟩ | exact ⟨32, rfl, rfl⟩ | exact ⟨64, rfl, rfl⟩ | exact ⟨128, rfl, rfl⟩ | exact ⟨256, rfl, rfl⟩ | exact ⟨512, rfl, rfl⟩
  · repeat' (first | exact .nil | refine .cons rfl rfl ?_)
/-- a token that no later object has: one of the text's own, or a new one -/
def FlagTok (lo hi : Nat) (t : Nat) : Prop := t ≠ 0 ∧ t < hi ∧ (t < 450 ∨ lo ≤ t)
theorem FlagTok.up {lo hi hi' t : Nat} (h : FlagTok lo hi t) (l : hi ≤ hi') : FlagTok lo hi' t := ⟨h.1, Nat.lt_of_lt_of_le h.2.1 l, h.2.2⟩
theorem get_flag {prog : Program} {w : World} {A : Around} {E Q : Value → Shared → Prop} {s : Shared} (X : (hd54.heap_1 w.params).In s.heap) {i : Nat} {x : Int} (hx : x = ((2 ^ i : Nat) : Int)) {t td : Tok} {lo : Nat} (h1k : 450 ≤ s.toks) (htd : FlagTok lo s.toks td) (h : ∀ t', FlagTok lo s.toks t' → Q (.str (flagW i) t') { s with toks := s.toks + 1 }) :
    wpAny (model prog w) A (call (.builtin "dict.get") [.ref 51, .int x t, .str (baseText "0x" 16 x) td]) Q E s := by
  subst hx
  have hD := flag_tab (prog := prog) X
  refine call_meetsIn PySem.F.slot_dict_get hD.typeIs PySem.F.entry_dict_get (PySem.F.args_dict_get_3 _ _ _) (meets_dict_get_default (PySem.intKind prog w) 51 (PySem.intKind_is prog w _ _) (by decide) _) ⟨_, hD.mapOf, ?_⟩
  by_cases h10 : i < 10
  · rw [flag_lo i h10]
    exact h _ ⟨by (first | (law_clear; lia) | lia | omega), by (first | (law_clear; lia) | lia | omega), .inl (by (first | (law_clear; lia) | lia | omega))⟩
  · rw [flag_hi i (by (first | (law_clear; lia) | lia | omega))]
    have := h td htd
    unfold flagW at this
    rw [if_neg h10] at this
    exact this
theorem pretty_p (n : Nat) (tn : Tok) (hn : n < 2 ^ 32) :
    PSpec hd54.heap_1 2 58 [.int (n : Int) tn] [] (fun _ lo => 450 ≤ lo) (fun v _ lo hi => ∃ t, v = .str (Txt.join ", " (flagWords n)) t ∧ FlagTok lo hi t) := by
  unfold PSpec; intro prog w p loose mean mg mb dp un gd cn cs a ccd cl outer A₀ base h₀ L m s Q E B F X T hk hd9 hu9 hpre hret; refine wpAny_both ?_
  k_dflt (refine' enterP (binds := [(Str.ofString "flags", .int (n : Int) tn)]) ?k1 ?k2 ?k3 ?k5 ?kA ?kF ?kK ?k6 ?k7 ?k8 ?k9 ?kB ?_ ?c2 ?c3 ?c4 ?c5; (case kA => exact rfl); (case kF => exact rfl); (case kK => assumption); (case k1 => k_asm); (case k2 => k_asm); (case k3 => k_asm); (case k5 => k_asm); (case k6 => k_is); (case k7 => k_is); (case k8 => ktr_room); (case k9 => exact BindsTo.of_eq rfl); (case c5 => decide); (case kB => exact locs rfl); (case c2 => exact rfl); (case c3 => exact rfl); (case c4 => exact rfl); k_whole; intro g' L' h' tk' eg' ht' F' N' B' X' T'; (try dsimp only); (try k_lift B'); (try k_fold); refine let_fold3 (P := fun (M : Model) (A : Around) (en : Env) => wpAny M A (execs _ en) _ _ _) _ _ _ ?_; intro M9 A9 en9; show wpAny M9 A9 (execs _ en9) _ _ _)
  k_steps
  (rename _ ≤ _ => htR)
  (try dsimp only at htR)
  (rename Fr _ _ _ _ => F1)
  (rename News _ _ _ _ => N1)
  (rename IsRange _ _ _ _ _ _ _ _ => R1)
  obtain ⟨lN, eA⟩ := newsHead N1
  subst eA
  refine' ForGo.mk' (fun (c : List (Str × Tok) × Nat × Nat × Tok) => [(Str.ofString "flags", Value.int (c.2.2.1 : Int) c.2.2.2), (Str.ofString "names", Value.ref lN)])
    (fun c => [(lN, listOf (strValues c.1).toArray c.2.1)])
    (fun i c tk => c.1.map (·.1) = wordsTo n i ∧ (∀ p ∈ c.1, FlagTok s.toks tk p.2) ∧ c.2.2.1 = curN n i ∧ (n = 0 ∨ c.2.2.1 ≠ 0)) ([], 0, n, tn)
    (FSrcT.range (n := 32) rfl R1 (by decide) (by decide)) F1 N1 ?hps (Fr.ns F1).lt ?hlt ⟨rfl, (fun p hp => by cases hp), (cur_start n).symm, by dsimp only; (first | (law_clear; lia) | lia | omega)⟩ (fun _ _ _ _ q l => ⟨q.1, fun p hp => (q.2.1 p hp).up l, q.2.2⟩) ?step ?done
  case hps => kst_all
  case hlt => exact fun q hq => Heap.lt_size (N1 q hq).1
  case step =>
    rintro i ⟨lw, cap, cur, tc⟩ v m₁ h tk own wr hi hP hJ hT F2 N2 hw2 ho2 hb2
    obtain ⟨ti, rfl⟩ := hP
    obtain ⟨j1, j2, j3, j4⟩ := hJ
    dsimp only at F2 N2 j1 j2 j3 j4 hT
    have hl1 := Heap.lt_size (N1 _ (.head _)).1
    have bO : ∀ q ∈ own, q.1 ≠ lN := fun q hq => Nat.ne_of_gt (Nat.lt_of_lt_of_le hl1 (own_ge (hb2.2.1 q hq)))
    have ei : (1 : Int) * 2 ^ (0 + (i : Int)).toNat = ((2 ^ i : Nat) : Int) := by simp
    k_steps
    · unfold Halt
      refine P.hex_of_int ?_ (by rw [ei]; have := (flag_fact hi).2.2.2; rw [sizeLine_eq]; (first | (law_clear; lia) | lia | omega))
      k_steps
      unfold Halt
      (rename Fr _ _ _ _ => F3)
      refine get_flag (X'.keeps F3.keep) ei (lo := s.toks) (by (try dsimp only); (first | (law_clear; lia) | lia | omega)) ⟨by (try dsimp only); (first | (law_clear; lia) | lia | omega), by (try dsimp only); (first | (law_clear; lia) | lia | omega), .inr (by (try dsimp only); (first | (law_clear; lia) | lia | omega))⟩ fun t5 ht5 => ?_
      k_steps
      unfold Halt
      refine append_K (by k_asm) (by k_asm) (upd_app (fun q hq => by cases hq) bO) ?ap1 ?ap2
      case ap2 => (rw [sizeLine_eq, List.size_toArray]; have e1 := congrArg List.length j1; have e2 := words_len n i; simp only [strValues, List.length_map] at e1 ⊢; (first | (law_clear; lia) | lia | omega))
      intro h8 F8 N8
      rw [show (strValues lw).toArray.push (Value.str (flagW i) t5) = (strValues (lw ++ [(flagW i, t5)])).toArray by simp [strValues]] at N8
      (rename Builtin.bitAnd _ _ ≠ 0 => hA)
      have hbit : n.testBit i = true := by
        rw [ei, bAnd, j3, cur_and] at hA
        cases e : n.testBit i with
        | true => rfl
        | false => rw [e] at hA; exact absurd rfl hA
      have exor : Builtin.bitXor (cur : Int) (1 * 2 ^ (0 + (i : Int)).toNat) = ((curN n (i + 1) : Nat) : Int) := by rw [ei, bXor, j3, cur_xor hbit]
      have jw : (lw ++ [(flagW i, t5)]).map (·.1) = wordsTo n (i + 1) := by rw [List.map_append, j1, wordsTo_succ, if_pos hbit]; rfl
      have jt : ∀ tk', tk ≤ tk' → t5 < tk' → ∀ p ∈ lw ++ [(flagW i, t5)], FlagTok s.toks tk' p.2 := fun tk' l1 l2 p hp => (List.mem_append.mp hp).elim (fun h => (j2 p h).up l1) fun hp => by rw [List.mem_singleton.mp hp]; exact ⟨ht5.1, l2, ht5.2.2⟩
      have ht5' := ht5.2.1
      dsimp only at ht5'
      k_steps
      · unfold Halt
        (rename Builtin.bitXor _ _ ≠ 0 => hX)
        (rename Fr _ _ _ _ => Fz)
        rw [exor] at hX Fz
        refine FEnd.intro (lw ++ [(flagW i, t5)], cap + 1, curN n (i + 1), _) Fz (by assumption) (fun q hq => mem_l hq) ?_ (by kst_all) fun _ => ⟨jw, jt _ (by (first | (law_clear; lia) | lia | omega)) (by (first | (law_clear; lia) | lia | omega)), rfl, .inr fun e => hX (by dsimp only at e; rw [e]; rfl)⟩
        intro q hq
        rw [List.mem_singleton.mp hq]
        exact ⟨mem_r (.head _), hw2 (lN, listOf (strValues lw).toArray cap) (.head _)⟩
      · unfold Halt
        (rename Builtin.bitXor _ _ = 0 => hX)
        rw [exor] at hX
        have hz := cur_zero (n := n) (i := i + 1) (by (first | (law_clear; lia) | lia | omega))
        have hn0 : n ≠ 0 := fun e => by rw [e, Nat.zero_testBit] at hbit; cases hbit
        have hall : flagWords n = (lw ++ [(flagW i, t5)]).map (·.1) := by
          rw [jw]
          unfold flagWords
          rw [if_neg hn0]
          have := wordsTo_all hz (32 - (i + 1))
          rwa [show i + 1 + (32 - (i + 1)) = 32 by (first | (law_clear; lia) | lia | omega)] at this
        (rename News _ _ _ _ => Nz)
        (rename Fr _ _ _ _ => Fz)
        refine join_tok ⟨_, (Nz (lN, listOf (strValues (lw ++ [(flagW i, t5)])).toArray (cap + 1)) (mem_r (.head _))).1, rfl, _, rfl⟩ (by decide) (by rw [jw]; exact words_weight n (by (first | (law_clear; lia) | lia | omega))) fun t' k' ht9 => ?_
        k_steps
        (try dsimp only)
        refine PLeave.intro Fz fun kp ht hz => hret _ _ _ (eg' ▸ kp) ht hz ⟨t', by rw [hall], ?_⟩
        obtain ⟨hk9, ht9⟩ := ht9
        dsimp only at hk9 ht9
        rcases ht9 with h | ⟨p, hp, rfl⟩
        · exact ⟨by (first | (law_clear; lia) | lia | omega), by (first | (law_clear; lia) | lia | omega), .inr (by (first | (law_clear; lia) | lia | omega))⟩
        · exact jt _ (by (first | (law_clear; lia) | lia | omega)) (by (first | (law_clear; lia) | lia | omega)) p hp
    · unfold Halt
      (rename Builtin.bitAnd _ _ = 0 => hA)
      have hbit : n.testBit i = false := by
        rw [ei, bAnd, j3, cur_and] at hA
        cases e : n.testBit i with
        | false => rfl
        | true => rw [e, if_pos rfl] at hA; have := Nat.pow_pos (n := i) (show 0 < 2 by decide); (first | (law_clear; lia) | lia | omega)
      refine FEnd.intro (lw, cap, cur, tc) (by assumption) (by assumption) (fun q hq => mem_l hq) ?_ (by kst_all) fun _ => ⟨by rw [j1, wordsTo_succ, hbit]; simp, fun p hp => (j2 p hp).up (by (first | (law_clear; lia) | lia | omega)), j3.trans (cur_skip hbit), j4⟩
      intro q hq
      rw [List.mem_singleton.mp hq]
      exact ⟨mem_r (.head _), hw2 (lN, listOf (strValues lw).toArray cap) (.head _)⟩
  case done =>
    rintro ⟨lw, cap, cur, tc⟩ m₁ h tk hJ hT F2 N2
    obtain ⟨j1, j2, j3, j4⟩ := hJ
    dsimp only at F2 N2 j1 j2 j3 j4 hT
    have hc0 : cur = 0 := by rw [j3]; unfold curN; rw [Nat.div_eq_of_lt hn]
    have hn0 : n = 0 := j4.resolve_right (fun h => h hc0)
    subst hn0
    subst hc0
    have hlw : lw = [] := by
      have : wordsTo 0 32 = [] := by simp [wordsTo]
      rw [this] at j1
      exact List.map_eq_nil_iff.mp j1
    subst hlw
    k_steps
    unfold Halt
    refine P.hex_of_int ?_ (by have := zero_ok.1; show zeroW.length ≤ sizeLine; rw [sizeLine_eq]; (first | (law_clear; lia) | lia | omega))
    k_steps
    unfold Halt
    refine append_K (by k_asm) (by k_asm) (.head fun q hq => by cases hq) ?bp1 ?bp2
    case bp2 => (rw [sizeLine_eq]; simp [strValues])
    intro h8 F8 N8
    rw [show (strValues []).toArray.push (Value.str (baseText "0x" 16 ((0 : Nat) : Int)) tk) = (strValues [(zeroW, tk)]).toArray from rfl] at N8
    k_steps
    unfold Halt
    (rename News _ _ _ _ => Nz)
    (rename Fr _ _ _ _ => Fz)
    refine join_tok ⟨_, (Nz _ (.head _)).1, rfl, _, rfl⟩ (by decide) (by have := zero_ok.1; simp; (first | (law_clear; lia) | lia | omega)) fun t' k' ht9 => ?_
    k_steps
    (try dsimp only)
    refine PLeave.intro Fz fun kp ht hz => hret _ _ _ (eg' ▸ kp) ht hz ⟨t', rfl, ?_⟩
    obtain ⟨hk9, ht9⟩ := ht9
    dsimp only at hk9 ht9
    rcases ht9 with h | ⟨p, hp, rfl⟩
    · exact ⟨by (first | (law_clear; lia) | lia | omega), by (first | (law_clear; lia) | lia | omega), .inr (by (first | (law_clear; lia) | lia | omega))⟩
    · rw [List.mem_singleton.mp hp]; exact ⟨by dsimp only; (first | (law_clear; lia) | lia | omega), by dsimp only; (first | (law_clear; lia) | lia | omega), .inr (by dsimp only; (first | (law_clear; lia) | lia | omega))⟩
end
section
theorem pick_upto1 (l : List Value) : kms_pick l none (some 1) = l.take 1 := by
  unfold kms_pick kms_lo kms_hi
  cases l with
  | nil => rfl
  | cons a r => simp
theorem pick_from (l : List Value) (k : Nat) : kms_pick l (some (k : Int)) none = l.drop k := by
  unfold kms_pick kms_lo kms_hi
  have h : ¬ ((k : Int) < 0) := by (first | lia | omega)
  simp only [if_neg h, Int.toNat_natCast]
  rw [kmk_drop_min]
  exact List.take_of_length_le (by rw [List.length_drop]; (first | lia | omega))
theorem vals_take (l : List (Str × Tok)) (k : Nat) : (strValues l).take k = strValues (l.take k) := by unfold strValues; rw [List.map_take]
theorem vals_drop (l : List (Str × Tok)) (k : Nat) : (strValues l).drop k = strValues (l.drop k) := by unfold strValues; rw [List.map_drop]
theorem apart_of {l : List (Str × Tok)} {u : Nat} (h : ∀ p ∈ l, p.2 ≠ 0 ∧ p.2 ≠ u) : ApartS (strValues l) (l.map (·.1)) u := by
  refine ⟨by simp [strValues], fun i v e => ?_⟩
  unfold strValues at e
  rw [List.getElem?_map] at e
  cases hp : l[i]? with
  | none => rw [hp] at e; cases e
  | some p =>
    rw [hp] at e
    cases e
    have := h p (List.mem_of_getElem? hp)
    exact ⟨p.2, by simp [List.getD, hp], this.1, this.2⟩
/-- the words without a first one that is nought -/
theorem words_cut (n : Nat) (hn : n < 2 ^ 32) : (flagWords n).drop (((flagWords n).take 1).count zeroW) = wordsTo n 32 := by
  unfold flagWords
  split
  · rename_i h
    subst h
    have : wordsTo 0 32 = [] := by simp [wordsTo]
    rw [this]
    show [zeroW].drop (([zeroW].take 1).count zeroW) = []
    simp
  · have : ((wordsTo n 32).take 1).count zeroW = 0 := by
      rw [List.count_eq_zero]
      intro hm
      have hm := List.mem_of_mem_take hm
      unfold wordsTo at hm
      obtain ⟨k, hk, e⟩ := List.mem_map.mp hm
      exact (flag_fact (List.mem_range.mp (List.mem_filter.mp hk).1)).2.2.1 e
    rw [this]
    rfl
theorem zero_lit : Str.ofString "0x0" = zeroW := by decide +kernel
def bitsTo (n i : Nat) : List Nat := (List.range i).filter n.testBit
theorem words_bits (n i : Nat) : wordsTo n i = (bitsTo n i).map flagW := rfl
/-- ints, with their tokens between lo and hi -/
def IntsTok (vs : List Value) (ns : List Int) (lo hi : Nat) : Prop := vs.length = ns.length ∧ ∀ i v, vs[i]? = some v → ∃ t : Nat, v = Value.int (ns.getD i 0) t ∧ lo ≤ t ∧ t < hi
theorem IntsTok.snoc {vs : List Value} {ns : List Int} {lo hi hi' : Nat} {x : Int} {t : Nat} (h : IntsTok vs ns lo hi) (l : hi ≤ hi') (h1 : lo ≤ t) (h2 : t < hi') : IntsTok (vs ++ [.int x t]) (ns ++ [x]) lo hi' := by
  refine ⟨by rw [List.length_append, List.length_append, h.1]; rfl, fun i v e => ?_⟩
  by_cases hi : i < vs.length
  · rw [List.getElem?_append_left hi] at e
    obtain ⟨t', rfl, a, b⟩ := h.2 i v e
    refine ⟨t', ?_, a, by (first | lia | omega)⟩
    have : i < ns.length := h.1 ▸ hi
    simp [List.getD, List.getElem?_append_left this]
  · have hl := (List.getElem?_eq_some_iff.mp e).1
    rw [List.length_append, List.length_singleton] at hl
    have ei : i = vs.length := by (first | lia | omega)
    subst ei
    simp at e
    subst e
    exact ⟨t, by simp [List.getD, h.1], h1, h2⟩
theorem IntsTok.up {vs : List Value} {ns : List Int} {lo hi hi' : Nat} (h : IntsTok vs ns lo hi) (l : hi ≤ hi') : IntsTok vs ns lo hi' := ⟨h.1, fun i v e => by obtain ⟨t, a, b, c⟩ := h.2 i v e; exact ⟨t, a, b, by (first | lia | omega)⟩⟩
theorem IntsTok.ints {lo hi : Nat} : ∀ {vs : List Value} {ns : List Int}, IntsTok vs ns lo hi → IntsAre vs ns
  | [], [], _ => .nil
  | [], _ :: _, h => by have := h.1; simp at this
  | _ :: _, [], h => by have := h.1; simp at this
  | v :: vs, n :: ns, h => by
    obtain ⟨t, e, _⟩ := h.2 0 v rfl
    simp at e
    subst e
    exact .cons n t (IntsTok.ints ⟨by have := h.1; simpa using this, fun i w e => by have := h.2 (i + 1) w (by simpa using e); simpa using this⟩)
theorem IntsTok.apart {vs : List Value} {ns : List Int} {lo hi u : Nat} (h : IntsTok vs ns lo hi) (h0 : 0 < lo) (hu : hi ≤ u) : ApartI vs ns u := ⟨h.1, fun i v e => by obtain ⟨t, a, b, c⟩ := h.2 i v e; exact ⟨t, a, by (first | lia | omega), by (first | lia | omega)⟩⟩
theorem tok_far {a k t2 p tk : Nat} (h : (a ≤ p ∧ p < k) ∨ p = t2) (ha : 0 < a) (h2 : t2 ≠ 0) (h3 : t2 < k) (hk : k ≤ tk) : p ≠ 0 ∧ p ≠ tk := by (first | lia | omega)
theorem idx_flag {k : Nat} (hk : k < 32) : ((List.range 32).map flagW).idxOf (flagW k) = k := by
  refine idxOf_at (d := Str.empty) (fun j hj => ?_) ?_ (by simpa using hk)
  · rw [show ((List.range 32).map flagW).getD j Str.empty = flagW j by simp [List.getD, show j < 32 by (first | lia | omega)]]
    exact fun e => by have := flag_inj (by (first | lia | omega)) hk e; (first | lia | omega)
  · simp [List.getD, hk]
theorem tok_apart {a k t2 p q N0 lo2 : Nat} (h : (a ≤ p ∧ p < k) ∨ p = t2) (ha : N0 ≤ a) (h1 : 450 ≤ N0) (h2 : t2 ≠ 0) (h3 : t2 < 450 ∨ lo2 ≤ t2) (hlo : N0 ≤ lo2) (hq : 450 ≤ q ∧ q < N0) : q ≠ 0 ∧ q ≠ p := by (first | lia | omega)
theorem bits_lt {n i k : Nat} (h : k ∈ bitsTo n i) : k < i := List.mem_range.mp (List.mem_filter.mp h).1
theorem bits_take {n i : Nat} (h : i < (bitsTo n 32).length) (f : Nat → Int) : ((bitsTo n 32).take (i + 1)).map f = ((bitsTo n 32).take i).map f ++ [f (bitsTo n 32)[i]] := by
  rw [List.take_succ_eq_append_getElem h, List.map_append]
  rfl
theorem ints_snoc {vs : List Value} {ns : List Int} (h : IntsAre vs ns) (x : Int) (t : Tok) : IntsAre (vs ++ [.int x t]) (ns ++ [x]) := by
  induction h with
  | nil => exact .cons x t .nil
  | cons i u _ ih => exact .cons i u ih
theorem plain_news {h₀ h h₁ : Heap} {L D : Addr} {m : Str → Option Value} {a : Array Value} {news : List (Addr × Obj)} (N : News h₀ L h news) (F : Fr h₀ L h₁ m) (hk : Kp h₁ h) (hD : h.PlainList D a) (hge : h₁.objs.size ≤ D) : ∃ n, News h₀ L h ((D, listOf a n) :: news) := by
  obtain ⟨n, e⟩ := hD
  refine ⟨n, fun q hq => ?_⟩
  rcases List.mem_cons.mp hq with rfl | hq
  · exact ⟨e, Nat.ne_of_gt (Nat.lt_of_lt_of_le F.ns.lt hge), Heap.get?_none_of_le (Nat.le_trans F.above (Nat.le_trans (Nat.le_of_lt F.ns.lt) hge))⟩
  · exact N q hq
theorem ints_at_map {vs : List Value} {ns : List Int} (h : IntsAre vs ns) {i : Nat} {v : Value} (e : vs[i]? = some v) : ∃ (hi : i < ns.length) (t : Tok), v = .int ns[i] t := by
  have hl := (List.getElem?_eq_some_iff.mp e).1
  have hi : i < ns.length := by have := h.length; (first | lia | omega)
  obtain ⟨t, ht⟩ := ints_get h hi
  rw [ht] at e
  exact ⟨hi, t, (Option.some.inj e).symm⟩
theorem take_map_succ {α β : Type} {l : List α} {i : Nat} (h : i < l.length) (f : α → β) : (l.take (i + 1)).map f = (l.take i).map f ++ [f l[i]] := by
  rw [List.take_succ_eq_append_getElem h, List.map_append]
  rfl
theorem bits_sorted (n i : Nat) : (bitsTo n i).Pairwise (· < ·) := List.Pairwise.filter _ List.pairwise_lt_range
theorem zs_sorted (n i b : Nat) : ((bitsTo n i).map fun k => ((k : Nat) : Int) - (b : Int)).Pairwise (· ≤ ·) := by
  rw [List.pairwise_map]
  exact (bits_sorted n i).imp fun h => by (first | lia | omega)
theorem zs_down {zs : List Int} (h : zs.Pairwise (· ≤ ·)) (x : Int) : Down (fun i => decide (zs.getD i 0 < x)) zs.length := Down.ints h (fun z => decide (z < x)) fun a b hab hb => by simp at hb ⊢; (first | lia | omega)
theorem zs_count {zs : List Int} {x : Int} {r : Nat} (h : Cut (fun i => decide (zs.getD i 0 < x)) zs.length r) : zs.countP (fun z => decide (z < x)) = r := cut_count (q := fun z => decide (z < x)) h
/-- how many places of zs are the row i's -/
def rowC (zs : List Int) (i : Nat) : Int := (zs.countP (fun y => decide (y < 5 * (0 + (i : Int)) + 5)) : Int) - (zs.countP (fun y => decide (y < 5 * (0 + (i : Int)))) : Int)
def colC (zs : List Int) (c : Nat) : Int := ((zs.map fun (z : Int) => z.fmod 5).count (0 + (c : Int)) : Int)
theorem range_snoc (f : Nat → Int) (i : Nat) : (List.range (i + 1)).map f = (List.range i).map f ++ [f i] := by rw [List.range_succ, List.map_append]; rfl
section
variable {prog : Program} {w : World} {A : Around} {E : Value → Shared → Prop} {s : Shared} {env : Env}
theorem compq_evalT {elt iter : PySem.Expr} {x : Str} {px : Pos} {ifs : List PySem.Expr} {scope : Scope} {cl : List (Str × Addr)} {pos : Pos} {Q : Value → Shared → Prop}
    (hclos : closureFor scope env = pure cl) (hcell : ∀ y ∈ scope.names, y.2 ≠ .cell) (hkind : scope.kind = .function)
    (hnames : ∀ y ∈ scope.names, y.2 = .local → scope.names.lookup y.1 = some .local) (hx : scope.names.lookup x = some .local)
    (h : wpAny (model prog w) A (eval iter env) (fun xv s₁ => s.toks ≤ s₁.toks → Halt (CGo prog w A xv s₁ (fun J i v ys h tk => ∀ C m₂, h.Ns C m₂ → m₂ x = some v → s₁.heap.get? C = none → CStep prog w A (compEnvC scope cl C env) elt ifs s₁ (J (i + 1)) ys h tk) Q)) E s)
    (hs : ∀ x, foldedSetIterable iter env x = pure x := by intro _; rfl) :
    wpAny (model prog w) A (eval (.ListComp elt [⟨.Name x px, iter, ifs, 0⟩] scope pos) env) Q E s :=
  compq_eval hclos hcell hkind hnames hx (wpAny_toks (wpAny_mono h (fun _ _ x => x) fun _ _ x _ => x)) hs
end
theorem plain_news2 {h₀ h h₁ : Heap} {L D : Addr} {m : Str → Option Value} {a : Array Value} {news : List (Addr × Obj)} (N : News h₀ L h₁ news) (F : Fr h₀ L h₁ m) (hk : ∀ b o, b ≠ L → h₁.get? b = some o → h.get? b = some o) (hD : h.PlainList D a) (hge : h₁.objs.size ≤ D) : ∃ n, News h₀ L h ((D, listOf a n) :: news) := by
  obtain ⟨n, e⟩ := hD
  refine ⟨n, fun q hq => ?_⟩
  rcases List.mem_cons.mp hq with rfl | hq
  · exact ⟨e, Nat.ne_of_gt (Nat.lt_of_lt_of_le F.ns.lt hge), Heap.get?_none_of_le (Nat.le_trans F.above (Nat.le_trans (Nat.le_of_lt F.ns.lt) hge))⟩
  · exact ⟨hk _ _ (N q hq).2.1 (N q hq).1, (N q hq).2⟩
theorem compq_assignT {prog : Program} {w : World} {A : Around} {E : Value → Shared → Prop} {s : Shared} {env : Env} {elt iter : PySem.Expr} {x y : Str} {px py : Pos} {ifs : List PySem.Expr} {scope : Scope} {cl : List (Str × Addr)} {pos spos : Pos} {Q : Flow → Shared → Prop}
    (hsw : swapsWith (.ListComp elt [⟨.Name x px, iter, ifs, 0⟩] scope pos) (some (.Name y py)) spos.line env = pure true)
    (hclos : closureFor scope env = pure cl) (hcell : ∀ z ∈ scope.names, z.2 ≠ .cell) (hkind : scope.kind = .function)
    (hnames : ∀ z ∈ scope.names, z.2 = .local → scope.names.lookup z.1 = some .local) (hx : scope.names.lookup x = some .local)
    (hy : env.kindOf y = some .local) (hp : (env.scope.kind == .class || (env.scope.kind == .module && env.locals != env.globals)) = false)
    (h : wpAny (model prog w) A (eval iter env) (fun xv s₁ => s.toks ≤ s₁.toks → Halt (CGoA prog w A xv s₁ env.locals y (fun J i v ys h tk => ∀ C m₂, h.Ns C m₂ → m₂ x = some v → s₁.heap.get? C = none → CStep prog w A (compEnvC scope cl C env) elt ifs s₁ (J (i + 1)) ys h tk) Q)) E s)
    (hs : ∀ x, foldedSetIterable iter env x = pure x := by intro _; rfl) :
    wpAny (model prog w) A (exec (.Assign [.Name y py] (.ListComp elt [⟨.Name x px, iter, ifs, 0⟩] scope pos) spos) env) Q E s :=
  compq_assign hsw hclos hcell hkind hnames hx hy hp (wpAny_toks (wpAny_mono h (fun _ _ x => x) fun _ _ x _ => x)) hs
/-- what _law_told gives: a tuple of the places zs, the rows' and the columns' sums, all of them new -/
def ToldPost (hp : Heap) (zs : List Int) (v : Value) (h : Heap) : Prop := ∃ (tup pl rl cl : Addr) (pv rv cv : List Value) (np nr nc : Nat), v = .ref tup ∧ h.get? tup = some { cls := .type "tuple", data := .seq #[.ref pl, .ref rl, .ref cl] } ∧ h.get? pl = some (listOf pv.toArray np) ∧ h.get? rl = some (listOf rv.toArray nr) ∧ h.get? cl = some (listOf cv.toArray nc) ∧
  IntsAre pv zs ∧ IntsAre rv ((List.range 5).map (rowC zs)) ∧ IntsAre cv ((List.range 5).map (colC zs)) ∧ hp.get? tup = none ∧ hp.get? pl = none ∧ hp.get? rl = none ∧ hp.get? cl = none
theorem bits_cut {t : Nat} (h : t < 2 ^ 25) : ∀ k, bitsTo t (25 + k) = bitsTo t 25
  | 0 => rfl
  | k + 1 => by
    rw [← Nat.add_assoc]
    unfold bitsTo
    rw [List.range_succ, List.filter_append]
    have e := bits_cut h k
    unfold bitsTo at e
    rw [e]
    have : t.testBit (25 + k) = false := Nat.testBit_lt_two_pow (Nat.lt_of_lt_of_le h (Nat.pow_le_pow_right (by decide) (by (first | lia | omega))))
    simp [this]
theorem zs_told {t b : Nat} (ht : t < 2 ^ 25) (hb : b < 8) : ((bitsTo (t * 2 ^ b) 32).map fun k => ((k : Nat) : Int) - (b : Int)) = (bitsTo t 25).map fun k => ((k : Nat) : Int) := by
  have e1 : List.range 32 = List.range b ++ (List.range (32 - b)).map (b + ·) := by rw [← List.range_add]; congr 1; (first | lia | omega)
  have e2 : bitsTo (t * 2 ^ b) 32 = (bitsTo t (32 - b)).map (b + ·) := by
    unfold bitsTo
    rw [e1, List.filter_append, List.filter_map]
    have f1 : (List.range b).filter (t * 2 ^ b).testBit = [] := by
      rw [List.filter_eq_nil_iff]
      intro k hk
      have := List.mem_range.mp hk
      rw [Nat.mul_comm, Nat.testBit_two_pow_mul]
      simp; (first | lia | omega)
    rw [f1, List.nil_append]
    congr 1
    apply List.filter_congr
    intro k _
    show (t * 2 ^ b).testBit (b + k) = _
    rw [Nat.mul_comm, Nat.testBit_two_pow_mul]
    simp
  rw [e2, List.map_map]
  have e3 := bits_cut ht (32 - b - 25)
  rw [show 25 + (32 - b - 25) = 32 - b by (first | lia | omega)] at e3
  rw [e3]
  apply List.map_congr_left
  intro k _
  show ((b + k : Nat) : Int) - (b : Int) = (k : Int)
  (first | lia | omega)
end
section
theorem load_T1 : (fun (_ : OpenLaw) (_ : Params → Frag) => True) PySem.Challenge.rw_wb0054_01 hd54.heap_1 := by
  w_top off
  k_fill
  trivial
local macro_rules | `(tactic| walk_at "zz pad0") => `(tactic| skip)
local macro_rules | `(tactic| walk_at "exec Assign cons ListComp") => `(tactic| (k_here; k_dflt (refine' compq_assignT ?r1 ?r2 ?r3 ?r4 ?r5 ?r6 ?r7 ?r8 ?_; (case r1 => exact rfl); (case r2 => exact rfl); (case r3 => decide); (case r4 => rfl); (case r5 => decide); (case r6 => rfl); (case r7 => rfl); (case r8 => rfl))))
local macro_rules | `(tactic| walk_at $s:str) => if ("|call builtin:str.split|call ref|subscriptTail Name Slice ref ref|eval ListComp|".splitOn ("|" ++ s.getString ++ "|")).length > 1 then `(tactic| (refine halt ?_)) else Lean.Macro.throwUnsupported
theorem told_p (tN bN : Nat) (tt tb : Tok) (nl : Addr) (hp : Heap) (nm : List (Str × Tok)) (N0 : Nat) (hnm : nm.map (·.1) = (List.range 32).map flagW) (hnt : ∀ p ∈ nm, 450 ≤ p.2 ∧ p.2 < N0) (hT : tN < 2 ^ 25) (hb : bN < 8) (hN0 : 450 ≤ N0) :
    PSpec hd54.heap_1 4 147 [.int (tN : Int) tt, .int (bN : Int) tb, .ref nl] [] (fun h lo => h.IsList nl (strValues nm).toArray ∧ N0 ≤ lo ∧ h = hp) (fun v h' _ _ => ToldPost hp ((bitsTo tN 25).map fun k => ((k : Nat) : Int)) v h') := by
  unfold PSpec; intro prog w p loose mean mg mb dp un gd cn cs a ccd cl outer A₀ base h₀ L m s Q E B F X T hk hd9 hu9 hpre hret; refine wpAny_both ?_
  k_dflt (refine' enterPC (binds := [(Str.ofString "table", .int (tN : Int) tt), (Str.ofString "base", .int (bN : Int) tb), (Str.ofString "names", .ref nl)]) ?k1 ?k2 ?k3 ?k5 ?kA ?kF ?kK ?k6 ?k7 ?k8 ?k9 ?kB ?kN ?_ ?c2 ?c3 ?c4; (case kA => exact rfl); (case kF => exact rfl); (case kK => assumption); (case k1 => k_asm); (case k2 => k_asm); (case k3 => k_asm); (case k5 => k_asm); (case k6 => k_is); (case k7 => k_is); (case k8 => ktr_room); (case k9 => exact BindsTo.of_eq rfl); (case kB => exact rfl); (case kN => decide); (case c2 => exact rfl); (case c3 => exact rfl); (case c4 => exact rfl); k_whole; intro g' L' h' tk' cells' eg' ht' F' N' Y' B' X' T'; k_cells Y'; (try simp only [List.cons_append, List.nil_append] at N'); (try dsimp only); (try k_lift B'); (try k_fold))
  refine let_fold3 (P := fun (M : Model) (A : Around) (en : Env) => wpAny M A (execs _ en) _ _ _) _ _ _ ?_; intro M9 A9 en9; show wpAny M9 A9 (execs _ en9) _ _ _
  k_steps
  unfold Halt
  (try k_fold)
  refine PSpec.useA (A₀ := _) (lshift_p _ _ _ _ (by (first | (law_clear; lia) | lia | omega)) (by (first | (law_clear; lia) | lia | omega)) (by (first | (law_clear; lia) | lia | omega)) (by (first | (law_clear; lia) | lia | omega))) (by k_asm) (by k_asm) (by k_asm) (by assumption) (by k_asm) (by exact rfl) (by exact rfl) (by (try dsimp +zetaDelta only [ktrTop, Around.deeper]); first | (first | (law_clear; lia) | lia | omega) | decide) (by (try dsimp +zetaDelta only [ktrTop, Around.deeper]); first | (first | (law_clear; lia) | lia | omega) | decide) (trivial) ?_; intro v9 h9 tk9 F9 N9 kp9 ht9 hz9 hp9; (try dsimp only at hp9 ht9 hz9 kp9)
  obtain ⟨t1, rfl, _, _⟩ := hp9
  k_steps
  unfold Halt
  (try k_fold)
  have eN : (tN : Int) * 2 ^ ((bN : Int)).toNat = ((tN * 2 ^ bN : Nat) : Int) := by simp
  obtain ⟨nN, enN⟩ : ∃ nN, nN = tN * 2 ^ bN := ⟨_, rfl⟩
  have hnN : nN < 2 ^ 32 := by
    have h1 : 2 ^ bN ≤ 2 ^ 7 := Nat.pow_le_pow_right (by decide) (by (first | (law_clear; lia) | lia | omega))
    have h2 : tN * 2 ^ bN ≤ tN * 2 ^ 7 := Nat.mul_le_mul_left _ h1
    (first | (law_clear; lia) | lia | omega)
  rw [eN, ← enN]
  refine PSpec.useA (A₀ := _) (pretty_p nN _ hnN) (by k_asm) (by k_asm) (by k_asm) (by assumption) (by k_asm) (by exact rfl) (by exact rfl) (by (try dsimp +zetaDelta only [ktrTop, Around.deeper]); first | (first | (law_clear; lia) | lia | omega) | decide) (by (try dsimp +zetaDelta only [ktrTop, Around.deeper]); first | (first | (law_clear; lia) | lia | omega) | decide) (by (try dsimp only); (first | (law_clear; lia) | lia | omega)) ?_; intro v9 h9 tk9 F9 N9 kp9 ht9 hz9 hp9; (try dsimp only at hp9 ht9 hz9 kp9)
  obtain ⟨t2, rfl, hft⟩ := hp9
  have ht2a := hft.1
  have ht2b := hft.2.1
  k_steps
  unfold Halt
  (try k_fold)
  (rename Fr _ _ _ _ => F5)
  (rename News _ _ _ _ => N5)
  refine split_tok F5 N5 (by decide) ?_ (words_join_len nN)
  intro D6 lw h6 k6 hlw hk6 htw F6 N6 lD6
  (try dsimp only at hk6 htw)
  rw [split_words hnN] at hlw
  k_steps
  unfold Halt
  (try k_fold)
  k_dflt (refine' compq_eval ?q1 ?q2 ?q3 ?q4 ?q5 ?_; (case q1 => exact rfl); (case q2 => decide); (case q3 => rfl); (case q4 => decide); (case q5 => rfl))
  k_steps
  unfold Halt
  (try k_fold)
  refine' kms_slice_lit ?u1 ?u2 ?u3 ?u4 ?u5 (pick_upto1 _) ?_ ?u6 ?u7 ?u8
  case u1 => k_asm
  case u2 => k_asm
  case u3 => kmk_list
  case u4 => kmk_part
  case u5 => kmk_part
  case u6 => with_unfolding_all rfl
  case u7 => kmk_pure
  case u8 => (rw [sizeLine_eq, List.size_toArray]; have e1 := congrArg List.length hlw; have e2 := flagWords_len nN; simp only [strValues, List.length_map] at e1 ⊢; (first | (law_clear; lia) | lia | omega))
  intro D7 h7 F7 N7 lD7
  (try dsimp only at N7)
  rw [vals_take] at N7
  k_steps
  unfold Halt
  (try k_fold)
  have htw7 : ∀ tk, k6 ≤ tk → ∀ p ∈ lw, p.2 ≠ 0 ∧ p.2 ≠ tk := fun tk hk p hp => tok_far (htw p hp) (by (first | (law_clear; lia) | lia | omega)) ht2a (by (first | (law_clear; lia) | lia | omega)) hk
  refine PSpec.useA (A₀ := _) (countOf_strs D7 (strValues (lw.take 1)) ((lw.take 1).map (·.1)) _ _ (apart_of fun p hp => htw7 _ (by (first | (law_clear; lia) | lia | omega)) p (List.mem_of_mem_take hp)) (by (first | (law_clear; lia) | lia | omega))) (by k_asm) (by k_asm) (by k_asm) (by assumption) (by k_asm) (by exact rfl) (by exact rfl) (by (try dsimp +zetaDelta only [ktrTop, Around.deeper]); first | (first | (law_clear; lia) | lia | omega) | decide) (by (try dsimp +zetaDelta only [ktrTop, Around.deeper]); first | (first | (law_clear; lia) | lia | omega) | decide) (⟨_, (N7 _ (.head _)).1, rfl, _, rfl⟩) ?_; intro v9 h9 tk9 F9 N9 kp9 ht9 hz9 hp9; (try dsimp only at hp9 ht9 hz9 kp9)
  obtain ⟨t3, rfl⟩ := hp9
  k_steps
  unfold Halt
  (try k_fold)
  have hcut : ((lw.drop ((((lw.take 1).map (·.1)).count (Str.ofString "0x0")))).map (·.1)) = wordsTo nN 32 := by
    rw [zero_lit, List.map_drop, List.map_take, hlw]
    exact words_cut nN hnN
  refine' kms_slice_lit (s := { heap := h9, gens := s.gens, drawn := s.drawn, toks := tk9, os := s.os }) ?v1 ?v2 ?v3 ?v4 ?v5 (pick_from _ _) ?_ ?v6 ?v7 ?v8
  case v1 => k_asm
  case v2 => k_asm
  case v3 => kmk_list
  case v4 => kmk_part
  case v5 => kmk_part
  case v6 => with_unfolding_all rfl
  case v7 => kmk_pure
  case v8 => (rw [sizeLine_eq, List.size_toArray]; have e1 := congrArg List.length hlw; have e2 := flagWords_len nN; simp only [strValues, List.length_map] at e1 ⊢; (first | (law_clear; lia) | lia | omega))
  intro D8 h8 F8 N8 lD8
  (try dsimp only at N8)
  rw [vals_drop] at N8
  obtain ⟨l8, el8⟩ : ∃ l8, l8 = lw.drop ((((lw.take 1).map (·.1)).count (Str.ofString "0x0"))) := ⟨_, rfl⟩
  rw [← el8] at hcut N8
  k_steps
  clear N7 F7
  have hl8 : l8.length = (bitsTo nN 32).length := by have e := congrArg List.length hcut; rw [words_bits, List.length_map, List.length_map] at e; exact e
  have hap8 : ∀ p ∈ l8, p.2 ≠ 0 ∧ ∀ q ∈ nm, q.2 ≠ 0 ∧ q.2 ≠ p.2 := fun p hp => by
    rw [el8] at hp
    have hp' := List.mem_of_mem_drop hp
    exact ⟨(htw7 k6 (Nat.le_refl _) p hp').1, fun q hq => tok_apart (htw p hp') (by (first | (law_clear; lia) | lia | omega)) hN0 ht2a hft.2.2 (by (first | (law_clear; lia) | lia | omega)) (hnt q hq)⟩
  have hn8 : ∀ i v, (strValues l8)[i]? = some v → ∃ (h : i < (bitsTo nN 32).length) (p : Str × Tok), p ∈ l8 ∧ v = .str (flagW (bitsTo nN 32)[i]) p.2 := by
    intro i v e
    unfold strValues at e
    rw [List.getElem?_map] at e
    cases hp : l8[i]? with
    | none => rw [hp] at e; cases e
    | some p =>
      rw [hp] at e
      cases e
      have hi : i < (bitsTo nN 32).length := hl8 ▸ (List.getElem?_eq_some_iff.mp hp).1
      refine ⟨hi, p, List.mem_of_getElem? hp, ?_⟩
      have e1 : (l8.map (·.1))[i]? = some p.1 := by rw [List.getElem?_map, hp]; rfl
      rw [hcut, words_bits, List.getElem?_map, List.getElem?_eq_getElem hi] at e1
      show Value.str p.1 p.2 = _
      rw [← Option.some.inj e1]
  refine CGo.intro ⟨(strValues l8).length, (fun i v => (strValues l8)[i]? = some v), (fun i ys tk => IntsAre ys (((bitsTo nN 32).take i).map fun k => ((k : Nat) : Int) - (bN : Int))), ?g1, SrcT.list rfl ⟨_, (N8 _ (.head _)).1, rfl, _, rfl⟩, (fun _ _ _ _ q _ => q), .nil, ?g3, ?g4⟩
  case g1 => rw [sizeLine_eq]; have := words_len nN 32; rw [words_bits, List.length_map] at this; simp only [strValues, List.length_map]; (first | (law_clear; lia) | lia | omega)
  case g3 =>
    intro i v ys h tk hi hP hJ hT hk C m₂ hC hm₂ hCn
    refine CStep.nil ?_
    have F9' := F8.keeps hk
    have N9' := N8.grown hk
    clear F8 N8
    obtain ⟨hi9, p9, hp9, rfl⟩ := hn8 i v hP
    have hb9 := bits_lt (List.getElem_mem hi9)
    obtain ⟨ha9, hq9⟩ := hap8 p9 hp9
    k_steps
    unfold Halt
    (try k_fold)
    refine PSpec.useA (A₀ := _) (indexOf_strs nl (strValues nm) (nm.map (·.1)) (flagW (bitsTo nN 32)[i]) p9.2 (apart_of hq9) ha9 (by rw [hnm]; exact List.mem_map_of_mem (List.mem_range.mpr hb9))) (by k_asm) (by k_asm) (by k_asm) (by assumption) (by k_asm) (by exact rfl) (by exact rfl) (by (try dsimp +zetaDelta only [ktrTop, Around.deeper]); first | (first | (law_clear; lia) | lia | omega) | decide) (by (try dsimp +zetaDelta only [ktrTop, Around.deeper]); first | (first | (law_clear; lia) | lia | omega) | decide) ((hpre.1.at fun o e => Fr.keep (by assumption) _ _ (eg' ▸ e))) ?_; intro v9 h9 tk9 F9 N9 kp9 ht9 hz9 hp9; (try dsimp only at hp9 ht9 hz9 kp9)
    obtain ⟨t5, rfl⟩ := hp9
    have kpa := kp9
    rw [hnm, idx_flag hb9]
    k_steps
    unfold Halt
    (try k_fold)
    refine PSpec.useA (A₀ := _) (sub_p _ _ _ _) (by k_asm) (by k_asm) (by k_asm) (by assumption) (by k_asm) (by exact rfl) (by exact rfl) (by (try dsimp +zetaDelta only [ktrTop, Around.deeper]); first | (first | (law_clear; lia) | lia | omega) | decide) (by (try dsimp +zetaDelta only [ktrTop, Around.deeper]); first | (first | (law_clear; lia) | lia | omega) | decide) (trivial) ?_; intro v9 h9 tk9 F9 N9 kp9 ht9 hz9 hp9; (try dsimp only at hp9 ht9 hz9 kp9)
    obtain ⟨t4, rfl, _, _⟩ := hp9
    k_steps
    exact ⟨h9, tk9, rfl, Kp.trans kpa kp9, fun _ => by rw [bits_take hi9]; exact ints_snoc hJ _ _⟩
  case g4 =>
    intro D1 ys1 h1 tk1 hJ1 hT1 hD1 hge1 hk1
    (try dsimp only at hT1)
    have F1 := F8.keeps hk1
    obtain ⟨nn1, N1⟩ := plain_news (N8.grown hk1) F8 hk1 hD1 hge1
    have lD1 := fun p hp => Nat.lt_of_lt_of_le (Heap.lt_size (N8 p (.tail _ (.tail _ (.tail _ hp)))).1) hge1
    replace N1 := newsSub N1 fun q hq => (List.mem_cons.mp hq).elim (fun h => h ▸ .head _) fun h => .tail _ (.tail _ (.tail _ (.tail _ h)))
    (try k_lt lD1)
    have hi1 : IntsAre ys1 ((bitsTo nN 32).map fun k => ((k : Nat) : Int) - (bN : Int)) := by
      rw [show (strValues l8).length = (bitsTo nN 32).length by rw [← hl8]; simp [strValues], List.take_length] at hJ1
      exact hJ1
    clear F8 N8
    obtain ⟨zs, ezs⟩ : ∃ zs : List Int, zs = (bitsTo nN 32).map fun k => ((k : Nat) : Int) - (bN : Int) := ⟨_, rfl⟩
    rw [← ezs] at hi1
    have hzl : zs.length ≤ 32 := by rw [ezs, List.length_map]; have := words_len nN 32; rwa [words_bits, List.length_map] at this
    rw [show tk1 = tk1 + 0 from rfl]
    k_steps
    unfold Halt
    (try k_fold)
    k_dflt (refine' compq_eval ?r1 ?r2 ?r3 ?r4 ?r5 ?_; (case r1 => exact rfl); (case r2 => decide); (case r3 => rfl); (case r4 => decide); (case r5 => rfl))
    k_steps
    unfold Halt
    (try k_fold)
    (rename Fr _ _ _ _ => F2)
    (rename News _ _ _ _ => N2)
    refine CGo.intro ⟨ys1.length, (fun i v => ys1[i]? = some v), (fun i ys tk => IntsTok ys ((zs.take i).map fun (z : Int) => z.fmod 5) 1 tk), ?g5, SrcT.list rfl ⟨_, (N2 _ (.head _)).1, rfl, _, rfl⟩, (fun _ _ _ _ q l => IntsTok.up (by exact q) l), ⟨rfl, fun i v e => by simp at e⟩, ?g6, ?g7⟩
    case g5 => rw [hi1.length, sizeLine_eq]; (first | (law_clear; lia) | lia | omega)
    case g6 =>
      intro i v ys h tk hi hP hJ hT hk C m₂ hC hm₂ hCn
      refine CStep.nil ?_
      have F9' := F2.keeps hk
      have N9' := N2.grown hk
      clear F2 N2
      obtain ⟨hi9, t9, rfl⟩ := ints_at_map hi1 hP
      k_steps
      unfold Halt
      (try k_fold)
      refine PSpec.useA (A₀ := _) (mod_p _ _ _ _ (by (first | (law_clear; lia) | lia | omega))) (by k_asm) (by k_asm) (by k_asm) (by assumption) (by k_asm) (by exact rfl) (by exact rfl) (by (try dsimp +zetaDelta only [ktrTop, Around.deeper]); first | (first | (law_clear; lia) | lia | omega) | decide) (by (try dsimp +zetaDelta only [ktrTop, Around.deeper]); first | (first | (law_clear; lia) | lia | omega) | decide) (trivial) ?_; intro v9 h9 tk9 F9 N9 kp9 ht9 hz9 hp9; (try dsimp only at hp9 ht9 hz9 kp9)
      obtain ⟨t4, rfl, ht4a, ht4b⟩ := hp9
      k_steps
      exact ⟨h9, tk9, rfl, kp9, fun _ => by rw [take_map_succ hi9]; exact hJ.snoc (by (first | (law_clear; lia) | lia | omega)) (by (first | (law_clear; lia) | lia | omega)) (by (first | (law_clear; lia) | lia | omega))⟩
    case g7 =>
      intro D2 ys2 h2 tk2 hJ2 hT2 hD2 hge2 hk2
      have F3 := F2.keeps hk2
      obtain ⟨nn2, N3⟩ := plain_news (N2.grown hk2) F2 hk2 hD2 hge2
      (try dsimp only at hT2)
      have lD2 := fun p hp => Nat.lt_of_lt_of_le (Heap.lt_size (N2 p hp).1) hge2
      (try k_lt lD2)
      rw [hi1.length, List.take_length] at hJ2
      clear F2 N2
      k_steps
      unfold Halt
      (try k_fold)
      have hzs : zs.Pairwise (· ≤ ·) := by rw [ezs]; exact zs_sorted _ _ _
      (rename _ ≤ _ => htR3)
      (try dsimp only at htR3)
      (rename Fr _ _ _ _ => F4)
      (rename News _ _ _ _ => N4)
      (rename IsRange _ _ _ _ _ _ _ _ => R4)
      refine CGoA.intro ⟨5, (fun i v => ∃ t, v = .int (0 + (i : Int)) t ∧ _ ≤ t), (fun i ys _ => IntsAre ys ((List.range i).map (rowC zs))), _, _, F4, (by rw [sizeLine_eq]; (first | (law_clear; lia) | lia | omega)), SrcT.range rfl R4 (by decide) (by decide), (fun _ _ _ _ q _ => q), .nil, ?g8, ?g9⟩
      case g8 =>
        rintro i v ys h tk hi ⟨ti, rfl, hti⟩ hJ hT hk C m₂ hC hm₂ hCn
        refine CStep.nil ?_
        have F9' := F4.keeps hk
        have N9' := N4.grown hk
        clear F4 N4
        k_steps
        unfold Halt
        (try k_fold)
        refine PSpec.useA (A₀ := _) (bisL_ints _ _ D1 ys1 zs hi1 (by (first | (law_clear; lia) | lia | omega)) hzs) (by k_asm) (by k_asm) (by k_asm) (by assumption) (by k_asm) (by exact rfl) (by exact rfl) (by (try dsimp +zetaDelta only [ktrTop, Around.deeper]); first | (first | (law_clear; lia) | lia | omega) | decide) (by (try dsimp +zetaDelta only [ktrTop, Around.deeper]); first | (first | (law_clear; lia) | lia | omega) | decide) (⟨_, (N9' (D1, _) (.tail _ (.head _))).1, rfl, _, rfl⟩) ?_; intro v9 h9 tk9 F9 N9 kp9 ht9 hz9 hp9; (try dsimp only at hp9 ht9 hz9 kp9)
        obtain ⟨t4, rfl⟩ := hp9
        have kpa := kp9
        have N8' := N9
        have hC := hC.at' fun o e => kpa _ _ e
        clear N9'
        k_steps
        unfold Halt
        (try k_fold)
        refine PSpec.useA (A₀ := _) (bisL_ints _ _ D1 ys1 zs hi1 (by (first | (law_clear; lia) | lia | omega)) hzs) (by k_asm) (by k_asm) (by k_asm) (by assumption) (by k_asm) (by exact rfl) (by exact rfl) (by (try dsimp +zetaDelta only [ktrTop, Around.deeper]); first | (first | (law_clear; lia) | lia | omega) | decide) (by (try dsimp +zetaDelta only [ktrTop, Around.deeper]); first | (first | (law_clear; lia) | lia | omega) | decide) (⟨_, (N8' (D1, _) (.tail _ (.head _))).1, rfl, _, rfl⟩) ?_; intro v9 h9 tk9 F9 N9 kp9 ht9 hz9 hp9; (try dsimp only at hp9 ht9 hz9 kp9)
        obtain ⟨t5, rfl⟩ := hp9
        have kpb := kp9
        have hC := hC.at' fun o e => kpb _ _ e
        clear N8'
        k_steps
        unfold Halt
        (try k_fold)
        refine PSpec.useA (A₀ := _) (sub_p _ _ _ _) (by k_asm) (by k_asm) (by k_asm) (by assumption) (by k_asm) (by exact rfl) (by exact rfl) (by (try dsimp +zetaDelta only [ktrTop, Around.deeper]); first | (first | (law_clear; lia) | lia | omega) | decide) (by (try dsimp +zetaDelta only [ktrTop, Around.deeper]); first | (first | (law_clear; lia) | lia | omega) | decide) (trivial) ?_; intro v9 h9 tk9 F9 N9 kp9 ht9 hz9 hp9; (try dsimp only at hp9 ht9 hz9 kp9)
        obtain ⟨t6, rfl, _, _⟩ := hp9
        k_steps
        exact ⟨h9, tk9, rfl, Kp.trans kpa (Kp.trans kpb kp9), fun _ => by rw [range_snoc]; exact ints_snoc hJ _ _⟩
      case g9 =>
        intro D3 ys3 h3 tk3 hJ3 hT3 hD3 hge3 F5 hk3
        (try dsimp only at hT3)
        obtain ⟨nn3, N5⟩ := plain_news2 N4 F4 hk3 hD3 hge3
        have lD3 := fun p hp => Nat.lt_of_lt_of_le (Heap.lt_size (N4 p hp).1) hge3
        (try k_lt lD3)
        clear F4 N4
        k_steps
        unfold Halt
        (try k_fold)
        k_dflt (refine' compq_evalT ?w1 ?w2 ?w3 ?w4 ?w5 ?_; (case w1 => exact rfl); (case w2 => decide); (case w3 => rfl); (case w4 => decide); (case w5 => rfl))
        k_steps
        unfold Halt
        (try k_fold)
        (rename _ ≤ _ => htR)
        (try dsimp only at htR)
        (rename Fr _ _ _ _ => F6)
        (rename News _ _ _ _ => N6)
        (rename IsRange _ _ _ _ _ _ _ _ => R6)
        refine CGo.intro ⟨5, (fun i v => ∃ t, v = .int (0 + (i : Int)) t ∧ _ ≤ t), (fun i ys _ => IntsAre ys ((List.range i).map (colC zs))), (by rw [sizeLine_eq]; (first | (law_clear; lia) | lia | omega)), SrcT.range rfl R6 (by decide) (by decide), (fun _ _ _ _ q _ => q), .nil, ?g10, ?g11⟩
        case g10 =>
          rintro i v ys h tk hi ⟨ti, rfl, hti⟩ hJ hT hk C m₂ hC hm₂ hCn
          refine CStep.nil ?_
          have F9' := F6.keeps hk
          have N9' := N6.grown hk
          clear F6 N6
          (try dsimp only at hti hT)
          have hti2 : tk2 ≤ ti := Nat.le_trans (by (first | (law_clear; lia) | lia | omega)) hti
          have hti0 : (0 : Nat) < ti := Nat.lt_of_lt_of_le (by (first | (law_clear; lia) | lia | omega)) hti2
          k_steps
          unfold Halt
          (try k_fold)
          refine PSpec.useA (A₀ := _) (countOf_ints D2 ys2 _ _ ti (hJ2.apart (by (first | (law_clear; lia) | lia | omega)) hti2) (Nat.ne_of_gt hti0)) (by k_asm) (by k_asm) (by k_asm) (by assumption) (by k_asm) (by exact rfl) (by exact rfl) (by (try dsimp +zetaDelta only [ktrTop, Around.deeper]); first | (first | (law_clear; lia) | lia | omega) | decide) (by (try dsimp +zetaDelta only [ktrTop, Around.deeper]); first | (first | (law_clear; lia) | lia | omega) | decide) (⟨_, (N9' (D2, _) (.tail _ (.head _))).1, rfl, _, rfl⟩) ?_; intro v9 h9 tk9 F9 N9 kp9 ht9 hz9 hp9; (try dsimp only at hp9 ht9 hz9 kp9)
          obtain ⟨t4, rfl⟩ := hp9
          k_steps
          exact ⟨h9, tk9, rfl, kp9, fun _ => by rw [range_snoc]; exact ints_snoc hJ _ _⟩
        case g11 =>
          intro D4 ys4 h4 tk4 hJ4 hT4 hD4 hge4 hk4
          have F7 := F6.keeps hk4
          obtain ⟨nn4, N7⟩ := plain_news (N6.grown hk4) F6 hk4 hD4 hge4
          have lD4 := fun p hp => Nat.lt_of_lt_of_le (Heap.lt_size (N6 p hp).1) hge4
          (try k_lt lD4)
          clear F6 N6
          k_steps
          (rename Fr _ _ _ _ => F8)
          (rename News _ _ _ _ => N8)
          rw [enN, zs_told hT hb] at ezs
          rw [← ezs] at hret
          have ehp : g' = hp := eg'.trans hpre.2.2
          exact PLeave.intro F8 fun kp ht hz => hret _ _ _ (eg' ▸ kp) ht hz ⟨_, D1, D3, D4, ys1, ys3, ys4, nn1, nn3, nn4, rfl, (N8 _ (.head _)).1, (N8 (D1, _) (.tail _ (.tail _ (.tail _ (.tail _ (.head _)))))).1, (N8 (D3, _) (.tail _ (.tail _ (.head _)))).1, (N8 (D4, _) (.tail _ (.head _))).1, hi1, hJ3, hJ4,
            ehp ▸ (N8 _ (.head _)).2.2, ehp ▸ (N8 (D1, _) (.tail _ (.tail _ (.tail _ (.tail _ (.head _)))))).2.2, ehp ▸ (N8 (D3, _) (.tail _ (.tail _ (.head _)))).2.2, ehp ▸ (N8 (D4, _) (.tail _ (.head _))).2.2⟩
end
section
def rowM (i : Nat) : Nat := 31 * 2 ^ (5 * i)
/-- the lowest one of x -/
def lowB (x : Nat) : Nat := (Builtin.bitAnd (x : Int) (-(x : Int))).toNat
def butB (x y : Nat) : Nat := x ^^^ (x &&& y)
def pairB (has due : Nat) : Nat := lowB (butB has due) ||| lowB (butB due has)
def belowL (T i pair : Nat) : List Nat := (List.range (4 - i)).map fun j => (T / 2 ^ (5 * (1 + j))) &&& pair
/-- one turn of _law_led at row i; none: no row below serves -/
def turnF (T G i : Nat) : Option Nat :=
  if T &&& rowM i = G &&& rowM i then some T else
  if lowB (butB (G &&& rowM i) (T &&& rowM i)) ∈ belowL T i (pairB (T &&& rowM i) (G &&& rowM i)) then
    some (T ^^^ (pairB (T &&& rowM i) (G &&& rowM i) ||| pairB (T &&& rowM i) (G &&& rowM i) * 2 ^ (5 * (belowL T i (pairB (T &&& rowM i) (G &&& rowM i))).idxOf (lowB (butB (G &&& rowM i) (T &&& rowM i))) + 5)))
  else none
def turnsF (T G i : Nat) : Nat → Option Nat
  | 0 => some T
  | k + 1 => (turnsF T G i k).bind fun T' => turnF T' G i
def ledF (T G : Nat) : Nat → Option Nat
  | 0 => some T
  | i + 1 => (ledF T G i).bind fun T' => turnsF T' G i 2
theorem and_nonneg (x : Nat) (y : Int) : 0 ≤ Builtin.bitAnd (x : Int) y ∧ Builtin.bitAnd (x : Int) y ≤ x := by
  unfold Builtin.bitAnd
  have h1 : decide (0 ≤ (x : Int)) = true := by simp
  rw [h1]
  cases decide (0 ≤ y) with
  | true =>
    dsimp only
    have : x &&& y.toNat ≤ x := Nat.and_le_left
    simp only [Int.toNat_natCast]
    (first | lia | omega)
  | false =>
    dsimp only
    have : x &&& (Builtin.bitNot y).toNat ≤ x := Nat.and_le_left
    simp only [Int.toNat_natCast]
    (first | lia | omega)
theorem low_int (x : Nat) : Builtin.bitAnd (x : Int) (-(x : Int)) = ((lowB x : Nat) : Int) := by
  unfold lowB
  have := (and_nonneg x (-(x : Int))).1
  (first | lia | omega)
theorem low_le (x : Nat) : lowB x ≤ x := by
  unfold lowB
  have := and_nonneg x (-(x : Int))
  (first | lia | omega)
theorem but_le (x y : Nat) : butB x y ≤ x := by
  unfold butB
  apply Nat.le_of_testBit
  intro i h
  rw [Nat.testBit_xor, Nat.testBit_and] at h
  cases e : x.testBit i
  · rw [e] at h; simp at h
  · rfl
theorem row_lt {i : Nat} (hi : i < 5) : rowM i < 2 ^ 25 := by
  unfold rowM
  have : 2 ^ (5 * i) ≤ 2 ^ 20 := Nat.pow_le_pow_right (by decide) (by (first | lia | omega))
  (first | lia | omega)
theorem pair_lt {T G i : Nat} (hi : i < 5) : pairB (T &&& rowM i) (G &&& rowM i) < 2 ^ 25 := by
  unfold pairB
  have hr := row_lt hi
  have h1 : T &&& rowM i ≤ rowM i := Nat.and_le_right
  have h2 : G &&& rowM i ≤ rowM i := Nat.and_le_right
  have a := Nat.le_trans (low_le _) (but_le (T &&& rowM i) (G &&& rowM i))
  have b := Nat.le_trans (low_le _) (but_le (G &&& rowM i) (T &&& rowM i))
  exact Nat.or_lt_two_pow (by (first | lia | omega)) (by (first | lia | omega))
theorem fdiv_nat (T k : Nat) : (T : Int).fdiv (2 ^ k) = ((T / 2 ^ k : Nat) : Int) := by
  rw [show ((2 : Int) ^ k) = ((2 ^ k : Nat) : Int) by simp, Int.fdiv_eq_ediv_of_nonneg _ (Int.natCast_nonneg _)]
  simp
theorem turns_stop {T G i c : Nat} {k : Nat} (h : turnsF T G i k = some c) (e : c &&& rowM i = G &&& rowM i) : ∀ j, turnsF T G i (k + j) = some c
  | 0 => h
  | j + 1 => by
    show (turnsF T G i (k + j)).bind _ = _
    rw [turns_stop h e j]
    show turnF c G i = some c
    unfold turnF
    rw [if_pos e]
theorem ledF_none {T G k : Nat} (h : ledF T G k = none) : ∀ n, k ≤ n → ledF T G n = none
  | 0, hn => by have : k = 0 := by (first | lia | omega)
                subst this; exact h
  | n + 1, hn => by
    by_cases e : k = n + 1
    · subst e; exact h
    · show (ledF T G n).bind _ = none
      rw [ledF_none h n (by (first | lia | omega))]; rfl
theorem turns_none {T G i k : Nat} (h : turnsF T G i k = none) : ∀ n, k ≤ n → turnsF T G i n = none
  | 0, hn => by have : k = 0 := by (first | lia | omega)
                subst this; exact h
  | n + 1, hn => by
    by_cases e : k = n + 1
    · subst e; exact h
    · show (turnsF T G i n).bind _ = none
      rw [turns_none h n (by (first | lia | omega))]; rfl
theorem idx_cast (x : Nat) : ∀ l : List Nat, (l.map fun (k : Nat) => (k : Int)).idxOf (x : Int) = l.idxOf x
  | [] => rfl
  | a :: l => by
    rw [List.map_cons, List.idxOf_cons, List.idxOf_cons, idx_cast x l]
    have : ((a : Int) == (x : Int)) = (a == x) := by rw [Bool.eq_iff_iff, beq_iff_eq, beq_iff_eq]; (first | lia | omega)
    rw [this]
theorem not_before {α : Type} [BEq α] [LawfulBEq α] (x : α) : ∀ l : List α, x ∉ l.take (l.idxOf x)
  | [] => by simp
  | a :: l => by
    rw [List.idxOf_cons]
    cases e : a == x with
    | true => simp
    | false =>
      simp only [cond_false, List.take_succ_cons, List.mem_cons, not_or]
      exact ⟨fun q => by rw [q] at e; simp at e, not_before x l⟩
theorem ints_kf {vs : List Value} {ns : List Int} (h : IntsAre vs ns) : kf_ints vs = true := by
  induction h with
  | nil => rfl
  | cons i u _ ih => exact ih
theorem any_not {ns : List Int} {x : Int} (h : x ∉ ns) : ns.any (· == x) = false := by
  rw [List.any_eq_false]
  intro y hy
  simp only [beq_iff_eq]
  exact fun q => h (q ▸ hy)
theorem rng_small {i : Nat} (h : i < 4) : Builtin.Range.small 1 (5 - (0 + (i : Int))) 1 = true ∧ Builtin.Range.rangeSize 1 (5 - (0 + (i : Int))) 1 = ((4 - i : Nat) : Int) := by
  rcases i with _ | _ | _ | _ | i <;> first | (first | lia | omega) | decide
theorem belowL_len (T i p : Nat) : (belowL T i p).length = 4 - i := by simp [belowL]
end
section
theorem load_D1 : (fun (_ : OpenLaw) (_ : Params → Frag) => True) PySem.Challenge.rw_wb0054_01 hd54.heap_1 := by
  w_top off
  k_fill
  trivial
local macro_rules | `(tactic| walk_at "zz pad0") => `(tactic| skip)
local macro_rules | `(tactic| walk_at "exec Assign cons ListComp") => `(tactic| (k_here; k_dflt (refine' compq_assignT ?r1 ?r2 ?r3 ?r4 ?r5 ?r6 ?r7 ?r8 ?_; (case r1 => exact rfl); (case r2 => exact rfl); (case r3 => decide); (case r4 => rfl); (case r5 => decide); (case r6 => rfl); (case r7 => rfl); (case r8 => rfl))))
local macro_rules | `(tactic| walk_at $s:str) => if ("|call ref|eval ListComp|subscriptTail Name Slice ref ref|compareOp In int ref|".splitOn ("|" ++ s.getString ++ "|")).length > 1 then `(tactic| (refine halt ?_)) else Lean.Macro.throwUnsupported
theorem updF_app {d : Addr} {o : Obj} {r : List (Addr × Obj)} {g : Obj → List (Addr × Obj)} : ∀ {own : List (Addr × Obj)}, (∀ q ∈ own, q.1 ≠ d) → UpdF d o r g → UpdF d o (own ++ r) (fun x => own ++ g x)
  | [], _, U => U
  | q :: own, h, U => .tail (h q (.head _)) (updF_app (fun z hz => h z (.tail _ hz)) U)
set_option hygiene false in
local macro_rules | `(tactic| walk_at "storeName") => `(tactic| (k_here; k_dflt (refine' storeX_C ?F ?N ?c ?U ?d ?_ ?a ?b; (case a => rfl); (case b => rfl); (case F => k_asm); (case N => k_asm); (case c => rfl); (case U => (first | exact updF_app nP4 (.head nPr) | exact updF_app nT4 (.tail (neN (by (first | (law_clear; lia) | lia | omega))) (.head nTr)))); (case d => k_asm); k_whole); intro h' o' F' N' d'; (try dsimp only at N')))
theorem led_p (tN gN R : Nat) (tt tg : Tok) (hR : ledF tN gN 4 = some R) :
    PSpec hd54.heap_1 3 173 [.int (tN : Int) tt, .int (gN : Int) tg] [] (fun h lo => True) (fun v h' _ _ => ∃ t, v = .int (R : Int) t) := by
  unfold PSpec; intro prog w p loose mean mg mb dp un gd cn cs a ccd cl outer A₀ base h₀ L m s Q E B F X T hk hd9 hu9 hpre hret; refine wpAny_both ?_
  k_dflt (refine' enterPC (binds := [(Str.ofString "table", .int (tN : Int) tt), (Str.ofString "goal", .int (gN : Int) tg)]) ?k1 ?k2 ?k3 ?k5 ?kA ?kF ?kK ?k6 ?k7 ?k8 ?k9 ?kB ?kN ?_ ?c2 ?c3 ?c4; (case kA => exact rfl); (case kF => exact rfl); (case kK => assumption); (case k1 => k_asm); (case k2 => k_asm); (case k3 => k_asm); (case k5 => k_asm); (case k6 => k_is); (case k7 => k_is); (case k8 => ktr_room); (case k9 => exact BindsTo.of_eq rfl); (case kB => exact rfl); (case kN => decide); (case c2 => exact rfl); (case c3 => exact rfl); (case c4 => exact rfl); k_whole; intro g' L' h' tk' cells' eg' ht' F' N' Y' B' X' T'; k_cells Y'; (try simp only [List.cons_append, List.nil_append] at N'); (try dsimp only); (try k_lift B'); (try k_fold))
  refine let_fold3 (P := fun (M : Model) (A : Around) (en : Env) => wpAny M A (execs _ en) _ _ _) _ _ _ ?_; intro M9 A9 en9; show wpAny M9 A9 (execs _ en9) _ _ _
  rename_i oP0 oT0 dP0 dT0
  have dT0 : oT0.data = .cell (some (.int (tN : Int) tt)) := dT0
  have dP0 : oP0.data = .cell none := dP0
  k_steps
  (rename Fr _ _ _ _ => F1)
  (rename News _ _ _ _ => N1)
  (rename IsRange _ _ _ _ _ _ _ _ => R1)
  have hL1 := ltN (Heap.lt_size (N1 _ (.head _)).1)
  dsimp only at hL1
  refine' ForGo.mk' (fun (_ : Nat × Tok × Obj × Obj) => [(Str.ofString "goal", Value.int (gN : Int) tg)])
    (fun c => [(L' + 1 + 1, c.2.2.2), (L' + 1, c.2.2.1)])
    (fun i c _ => ledF tN gN i = some c.1 ∧ c.2.2.1.data = .cell (some (.int (c.1 : Int) c.2.1)) ∧ ∃ v, c.2.2.2.data = .cell v) (tN, tt, oT0, oP0)
    (FSrcT.range (n := 4) rfl R1 (by decide) (by decide)) F1 N1 ?hps (Fr.ns F1).lt ?hlt ⟨rfl, dT0, _, dP0⟩ (fun _ _ _ _ q _ => q) ?step ?done
  case hps => kst_all
  case hlt => exact fun q hq => Heap.lt_size (N1 q hq).1
  case step =>
    rintro i ⟨T1, tt1, oT1, oP1⟩ v m₁ h tk own wr hi hP hJ hT F2 N2 hw2 ho2 hb2
    obtain ⟨ti, rfl⟩ := hP
    obtain ⟨j1, j2, vP1, j3⟩ := hJ
    dsimp only at F2 N2 j1 j2 j3 hT
    obtain ⟨R2, hR2⟩ : ∃ R2, turnsF T1 gN i 2 = some R2 := by
      have : ledF tN gN (i + 1) ≠ none := fun q => by
        have := ledF_none q 4 (by (first | (law_clear; lia) | lia | omega))
        rw [hR] at this; cases this
      have e : ledF tN gN (i + 1) = turnsF T1 gN i 2 := by show (ledF tN gN i).bind _ = _; rw [j1]; rfl
      rw [e] at this
      exact Option.ne_none_iff_exists'.mp this
    have hled : ledF tN gN (i + 1) = some R2 := by show (ledF tN gN i).bind _ = _; rw [j1]; exact hR2
    k_steps
    (rename Fr _ _ _ _ => F3)
    (rename News _ _ _ _ => N3)
    (rename IsRange _ _ _ _ _ _ _ _ => R3)
    have hL3 := ltN (Heap.lt_size (N3 (L' + 1 + 1, oP1) (mem_r (.head _))).1)
    dsimp only at hL3
    refine' ForGo.mk' (fun (_ : Nat × Tok × Obj × Obj) => [(Str.ofString "goal", Value.int (gN : Int) tg), (Str.ofString "i", Value.int (0 + (i : Int)) ti)])
      (fun c => [(L' + 1 + 1, c.2.2.2), (L' + 1, c.2.2.1)] ++ own)
      (fun k c _ => turnsF T1 gN i k = some c.1 ∧ c.2.2.1.data = .cell (some (.int (c.1 : Int) c.2.1)) ∧ ∃ v, c.2.2.2.data = .cell v) (T1, tt1, oT1, oP1)
      (FSrcT.range (n := 2) rfl R3 (by decide) (by decide)) F3 (newsSub N3 ?hsub2) ?hps2 (Fr.ns F3).lt ?hlt2 ⟨rfl, j2, _, j3⟩ (fun _ _ _ _ q _ => q) ?step2 ?done2
    case hsub2 => exact fun q hq => (List.mem_append.mp hq).elim (fun h => mem_r h) (fun h => mem_l h)
    case hps2 => kst_all
    case hlt2 => exact fun q hq => Heap.lt_size (N3 q ((List.mem_append.mp hq).elim (fun h => mem_r h) (fun h => mem_l h))).1
    case step2 =>
      rintro k ⟨T2, tt2, oT2, oP2⟩ v m₂ h4 tk4 own4 wr4 hi4 hP4 hJ4 hT4 F4 N4 hw4 ho4 hb4
      obtain ⟨t4, rfl⟩ := hP4
      obtain ⟨p1, p2, vP2, p3⟩ := hJ4
      dsimp only at F4 N4 p1 p2 p3 hT4
      clear F2 F3
      have nP : ∀ q ∈ own, q.1 ≠ L' + 1 + 1 := fun q hq => Nat.ne_of_gt (Nat.lt_of_lt_of_le hL1 (own_ge (hb2.2.1 q hq)))
      have nT : ∀ q ∈ own, q.1 ≠ L' + 1 := fun q hq => by have a := own_ge (hb2.2.1 q hq); dsimp only at a; exact neN (by (first | (law_clear; lia) | lia | omega))
      have nP4 : ∀ q ∈ own4, q.1 ≠ L' + 1 + 1 := fun q hq => Nat.ne_of_gt (Nat.lt_of_lt_of_le hL3 (own_ge (hb4.2.1 q hq)))
      have nT4 : ∀ q ∈ own4, q.1 ≠ L' + 1 := fun q hq => by have a := own_ge (hb4.2.1 q hq); dsimp only at a; exact neN (by (first | (law_clear; lia) | lia | omega))
      have nTr : ∀ q ∈ own, q.1 ≠ L' + 1 := nT
      have nPr : ∀ q ∈ (L' + 1, oT2) :: own, q.1 ≠ L' + 1 + 1 := fun q hq => (List.mem_cons.mp hq).elim (fun e => by rw [e]; exact neN (by dsimp only; (first | (law_clear; lia) | lia | omega))) (nP q)
      have eM : (31 : Int) * 2 ^ (5 * (0 + (i : Int))).toNat = ((rowM i : Nat) : Int) := by
        unfold rowM
        rw [show (5 * (0 + (i : Int))).toNat = 5 * i by (first | (law_clear; lia) | lia | omega)]
        simp
      k_steps; unfold Halt; (try k_fold); refine PSpec.useA (A₀ := _) (lshift_p _ _ _ _ (by (first | (law_clear; lia) | lia | omega)) (by (first | (law_clear; lia) | lia | omega)) (by (first | (law_clear; lia) | lia | omega)) (by (first | (law_clear; lia) | lia | omega))) (by k_asm) (by k_asm) (by k_asm) (by assumption) (by k_asm) (by exact rfl) (by exact rfl) (by (try dsimp +zetaDelta only [ktrTop, Around.deeper]); first | (first | (law_clear; lia) | lia | omega) | decide) (by (try dsimp +zetaDelta only [ktrTop, Around.deeper]); first | (first | (law_clear; lia) | lia | omega) | decide) (trivial) ?_; intro v9 h9 tk9 F9 N9 kp9 ht9 hz9 hp9; (try dsimp only at hp9 ht9 hz9 kp9); obtain ⟨t1, rfl, la1, lb1⟩ := hp9; rw [eM]
      k_steps; unfold Halt; (try k_fold); refine PSpec.useA (A₀ := _) (and__p _ _ _ _) (by k_asm) (by k_asm) (by k_asm) (by assumption) (by k_asm) (by exact rfl) (by exact rfl) (by (try dsimp +zetaDelta only [ktrTop, Around.deeper]); first | (first | (law_clear; lia) | lia | omega) | decide) (by (try dsimp +zetaDelta only [ktrTop, Around.deeper]); first | (first | (law_clear; lia) | lia | omega) | decide) (trivial) ?_; intro v9 h9 tk9 F9 N9 kp9 ht9 hz9 hp9; (try dsimp only at hp9 ht9 hz9 kp9); obtain ⟨t2, rfl, la2, lb2⟩ := hp9; rw [bAnd]
      k_steps; unfold Halt; (try k_fold); refine PSpec.useA (A₀ := _) (lshift_p _ _ _ _ (by (first | (law_clear; lia) | lia | omega)) (by (first | (law_clear; lia) | lia | omega)) (by (first | (law_clear; lia) | lia | omega)) (by (first | (law_clear; lia) | lia | omega))) (by k_asm) (by k_asm) (by k_asm) (by assumption) (by k_asm) (by exact rfl) (by exact rfl) (by (try dsimp +zetaDelta only [ktrTop, Around.deeper]); first | (first | (law_clear; lia) | lia | omega) | decide) (by (try dsimp +zetaDelta only [ktrTop, Around.deeper]); first | (first | (law_clear; lia) | lia | omega) | decide) (trivial) ?_; intro v9 h9 tk9 F9 N9 kp9 ht9 hz9 hp9; (try dsimp only at hp9 ht9 hz9 kp9); obtain ⟨t3, rfl, la3, lb3⟩ := hp9; rw [eM]
      k_steps; unfold Halt; (try k_fold); refine PSpec.useA (A₀ := _) (and__p _ _ _ _) (by k_asm) (by k_asm) (by k_asm) (by assumption) (by k_asm) (by exact rfl) (by exact rfl) (by (try dsimp +zetaDelta only [ktrTop, Around.deeper]); first | (first | (law_clear; lia) | lia | omega) | decide) (by (try dsimp +zetaDelta only [ktrTop, Around.deeper]); first | (first | (law_clear; lia) | lia | omega) | decide) (trivial) ?_; intro v9 h9 tk9 F9 N9 kp9 ht9 hz9 hp9; (try dsimp only at hp9 ht9 hz9 kp9); obtain ⟨t4, rfl, la4, lb4⟩ := hp9; rw [bAnd]
      have hR3 : turnsF T1 gN i (k + 1) = turnF T2 gN i := by show (turnsF T1 gN i k).bind _ = _; rw [p1]; rfl
      k_steps
      · unfold Halt
        (rename ((T2 &&& rowM i : Nat) : Int) = _ => hE)
        have hE' : T2 &&& rowM i = gN &&& rowM i := by (first | (law_clear; lia) | lia | omega)
        have hst := turns_stop p1 hE' (2 - k)
        rw [show k + (2 - k) = 2 by (first | (law_clear; lia) | lia | omega), hR2] at hst
        have hRT : R2 = T2 := Option.some.inj hst
        (rename News _ _ _ _ => Nz)
        replace Nz := newsSub (news' := own4 ++ ([(L' + 1 + 1, oP2), (L' + 1, oT2)] ++ own)) Nz fun q hq => (by first | exact hq | exact .tail _ hq | exact .tail _ (.tail _ hq))
        refine FEnd.intro (T2, tt2, oT2, oP2) (by assumption) Nz (fun q hq => mem_r (mem_r hq)) ?_ (by kst_all) fun _ => ⟨hRT ▸ hled, p2, _, p3⟩
        intro q hq
        rcases (mc hq).imp_right mc1 with rfl | rfl
        · exact ⟨mem_r (.head _), hw2 (L' + 1 + 1, oP1) (.head _)⟩
        · exact ⟨mem_r (.tail _ (.head _)), hw2 (L' + 1, oT1) (.tail _ (.head _))⟩
      · unfold Halt
        (rename ¬ ((T2 &&& rowM i : Nat) : Int) = _ => hE)
        have hE' : ¬ T2 &&& rowM i = gN &&& rowM i := fun q => hE (by rw [q])
        k_steps; unfold Halt; (try k_fold); refine PSpec.useA (A₀ := _) (inv_p _ _) (by k_asm) (by k_asm) (by k_asm) (by assumption) (by k_asm) (by exact rfl) (by exact rfl) (by (try dsimp +zetaDelta only [ktrTop, Around.deeper]); first | (first | (law_clear; lia) | lia | omega) | decide) (by (try dsimp +zetaDelta only [ktrTop, Around.deeper]); first | (first | (law_clear; lia) | lia | omega) | decide) (trivial) ?_; intro v9 h9 tk9 F9 N9 kp9 ht9 hz9 hp9; (try dsimp only at hp9 ht9 hz9 kp9); obtain ⟨t5, rfl, la5, lb5⟩ := hp9
        k_steps; unfold Halt; (try k_fold); refine PSpec.useA (A₀ := _) (and__p _ _ _ _) (by k_asm) (by k_asm) (by k_asm) (by assumption) (by k_asm) (by exact rfl) (by exact rfl) (by (try dsimp +zetaDelta only [ktrTop, Around.deeper]); first | (first | (law_clear; lia) | lia | omega) | decide) (by (try dsimp +zetaDelta only [ktrTop, Around.deeper]); first | (first | (law_clear; lia) | lia | omega) | decide) (trivial) ?_; intro v9 h9 tk9 F9 N9 kp9 ht9 hz9 hp9; (try dsimp only at hp9 ht9 hz9 kp9); obtain ⟨t6, rfl, la6, lb6⟩ := hp9; rw [bAndNot]
        k_steps; unfold Halt; (try k_fold); refine PSpec.useA (A₀ := _) (inv_p _ _) (by k_asm) (by k_asm) (by k_asm) (by assumption) (by k_asm) (by exact rfl) (by exact rfl) (by (try dsimp +zetaDelta only [ktrTop, Around.deeper]); first | (first | (law_clear; lia) | lia | omega) | decide) (by (try dsimp +zetaDelta only [ktrTop, Around.deeper]); first | (first | (law_clear; lia) | lia | omega) | decide) (trivial) ?_; intro v9 h9 tk9 F9 N9 kp9 ht9 hz9 hp9; (try dsimp only at hp9 ht9 hz9 kp9); obtain ⟨t7, rfl, la7, lb7⟩ := hp9
        k_steps; unfold Halt; (try k_fold); refine PSpec.useA (A₀ := _) (and__p _ _ _ _) (by k_asm) (by k_asm) (by k_asm) (by assumption) (by k_asm) (by exact rfl) (by exact rfl) (by (try dsimp +zetaDelta only [ktrTop, Around.deeper]); first | (first | (law_clear; lia) | lia | omega) | decide) (by (try dsimp +zetaDelta only [ktrTop, Around.deeper]); first | (first | (law_clear; lia) | lia | omega) | decide) (trivial) ?_; intro v9 h9 tk9 F9 N9 kp9 ht9 hz9 hp9; (try dsimp only at hp9 ht9 hz9 kp9); obtain ⟨t8, rfl, la8, lb8⟩ := hp9; rw [bAndNot]
        k_steps; unfold Halt; (try k_fold); refine PSpec.useA (A₀ := _) (neg_p _ _) (by k_asm) (by k_asm) (by k_asm) (by assumption) (by k_asm) (by exact rfl) (by exact rfl) (by (try dsimp +zetaDelta only [ktrTop, Around.deeper]); first | (first | (law_clear; lia) | lia | omega) | decide) (by (try dsimp +zetaDelta only [ktrTop, Around.deeper]); first | (first | (law_clear; lia) | lia | omega) | decide) (trivial) ?_; intro v9 h9 tk9 F9 N9 kp9 ht9 hz9 hp9; (try dsimp only at hp9 ht9 hz9 kp9); obtain ⟨t9, rfl, la9, lb9⟩ := hp9
        k_steps; unfold Halt; (try k_fold); refine PSpec.useA (A₀ := _) (and__p _ _ _ _) (by k_asm) (by k_asm) (by k_asm) (by assumption) (by k_asm) (by exact rfl) (by exact rfl) (by (try dsimp +zetaDelta only [ktrTop, Around.deeper]); first | (first | (law_clear; lia) | lia | omega) | decide) (by (try dsimp +zetaDelta only [ktrTop, Around.deeper]); first | (first | (law_clear; lia) | lia | omega) | decide) (trivial) ?_; intro v9 h9 tk9 F9 N9 kp9 ht9 hz9 hp9; (try dsimp only at hp9 ht9 hz9 kp9); obtain ⟨t10, rfl, la10, lb10⟩ := hp9; rw [low_int]
        k_steps; unfold Halt; (try k_fold); refine PSpec.useA (A₀ := _) (neg_p _ _) (by k_asm) (by k_asm) (by k_asm) (by assumption) (by k_asm) (by exact rfl) (by exact rfl) (by (try dsimp +zetaDelta only [ktrTop, Around.deeper]); first | (first | (law_clear; lia) | lia | omega) | decide) (by (try dsimp +zetaDelta only [ktrTop, Around.deeper]); first | (first | (law_clear; lia) | lia | omega) | decide) (trivial) ?_; intro v9 h9 tk9 F9 N9 kp9 ht9 hz9 hp9; (try dsimp only at hp9 ht9 hz9 kp9); obtain ⟨t11, rfl, la11, lb11⟩ := hp9
        k_steps; unfold Halt; (try k_fold); refine PSpec.useA (A₀ := _) (and__p _ _ _ _) (by k_asm) (by k_asm) (by k_asm) (by assumption) (by k_asm) (by exact rfl) (by exact rfl) (by (try dsimp +zetaDelta only [ktrTop, Around.deeper]); first | (first | (law_clear; lia) | lia | omega) | decide) (by (try dsimp +zetaDelta only [ktrTop, Around.deeper]); first | (first | (law_clear; lia) | lia | omega) | decide) (trivial) ?_; intro v9 h9 tk9 F9 N9 kp9 ht9 hz9 hp9; (try dsimp only at hp9 ht9 hz9 kp9); obtain ⟨t12, rfl, la12, lb12⟩ := hp9; rw [low_int]
        have ht12 : t12 ≠ 0 := by (first | (law_clear; lia) | lia | omega)
        k_steps; unfold Halt; (try k_fold); refine PSpec.useA (A₀ := _) (or__p _ _ _ _) (by k_asm) (by k_asm) (by k_asm) (by assumption) (by k_asm) (by exact rfl) (by exact rfl) (by (try dsimp +zetaDelta only [ktrTop, Around.deeper]); first | (first | (law_clear; lia) | lia | omega) | decide) (by (try dsimp +zetaDelta only [ktrTop, Around.deeper]); first | (first | (law_clear; lia) | lia | omega) | decide) (trivial) ?_; intro v9 h9 tk9 F9 N9 kp9 ht9 hz9 hp9; (try dsimp only at hp9 ht9 hz9 kp9); obtain ⟨t13, rfl, la13, lb13⟩ := hp9; rw [bOr]
        (rename News _ _ _ _ => Nz)
        replace Nz := newsSub (news' := own4 ++ ([(L' + 1 + 1, oP2), (L' + 1, oT2)] ++ own)) Nz fun q hq => (by first | exact hq | exact .tail _ hq | exact .tail _ (.tail _ hq) | exact .tail _ (.tail _ (.tail _ hq)))
        rw [show tk9 = tk9 + 0 from rfl]
        refine' storeX_C ?x1 Nz ?x3 (updF_app nP4 (.head nPr)) ?x5 ?_ ?x6 ?x7
        case x1 => k_asm
        case x3 => rfl
        case x5 => k_asm
        case x6 => rfl
        case x7 => rfl
        intro h5 oP5 F5 N5 d5
        obtain ⟨pr, epr⟩ : ∃ pr, pr = pairB (T2 &&& rowM i) (gN &&& rowM i) := ⟨_, rfl⟩
        have d5 : oP5.data = .cell (some (.int (pr : Int) t13)) := by rw [epr]; exact d5
        obtain ⟨cm, ecm⟩ : ∃ cm, cm = lowB (butB (gN &&& rowM i) (T2 &&& rowM i)) := ⟨_, rfl⟩
        have hpr : pr < 2 ^ 25 := by rw [epr]; exact pair_lt (by (first | (law_clear; lia) | lia | omega))
        have hmem : cm ∈ belowL T2 i pr := by
          have : turnF T2 gN i ≠ none := fun q => by
            have := turns_none (hR3.trans q) 2 (by (first | (law_clear; lia) | lia | omega))
            rw [hR2] at this; cases this
          unfold turnF at this
          rw [if_neg hE', ← epr, ← ecm] at this
          exact Decidable.byContradiction fun q => this (if_neg q)
        k_steps
        unfold Halt
        (try k_fold)
        (rename _ ≤ _ => htR3)
        (try dsimp only at htR3)
        (rename Fr _ _ _ _ => F6)
        (rename News _ _ _ _ => N6)
        (rename IsRange _ _ _ _ _ _ _ _ => R6)
        refine CGoA.intro ⟨4 - i, (fun j v => ∃ t, v = .int (1 + (j : Int)) t ∧ _ ≤ t), (fun j ys tk => IntsTok ys ((List.range j).map fun j => (((T2 / 2 ^ (5 * (1 + j))) &&& pr : Nat) : Int)) (t12 + 1) tk), _, _, F6, (by rw [sizeLine_eq]; (first | (law_clear; lia) | lia | omega)), SrcT.range rfl R6 (rng_small hi).1 (rng_small hi).2, (fun _ _ _ _ q l => IntsTok.up (by exact q) l), ⟨rfl, fun i v e => by simp at e⟩, ?g8, ?g9⟩
        case g8 =>
          rintro j v ys h tk hj ⟨tj, rfl, htj⟩ hJ hT hk C m₂ hC hm₂ hCn
          refine CStep.nil ?_
          have F9' := F6.keeps hk
          have N9' := N6.grown hk
          clear F6 N6
          have eR : (T2 : Int).fdiv (2 ^ (5 * (1 + (j : Int))).toNat) = ((T2 / 2 ^ (5 * (1 + j)) : Nat) : Int) := by
            rw [show (5 * (1 + (j : Int))).toNat = 5 * (1 + j) by (first | (law_clear; lia) | lia | omega)]
            exact fdiv_nat _ _
          k_steps; unfold Halt; (try k_fold); refine PSpec.useA (A₀ := _) (rshift_p _ _ _ _ (by (first | (law_clear; lia) | lia | omega)) (by (first | (law_clear; lia) | lia | omega))) (by k_asm) (by k_asm) (by k_asm) (by assumption) (by k_asm) (by exact rfl) (by exact rfl) (by (try dsimp +zetaDelta only [ktrTop, Around.deeper]); first | (first | (law_clear; lia) | lia | omega) | decide) (by (try dsimp +zetaDelta only [ktrTop, Around.deeper]); first | (first | (law_clear; lia) | lia | omega) | decide) (trivial) ?_; intro v9 h9 tk9 F9 N9 kp9 ht9 hz9 hp9; (try dsimp only at hp9 ht9 hz9 kp9); obtain ⟨t14, rfl, la14, lb14⟩ := hp9; rw [eR]
          have kpa := kp9
          have hC := hC.at' fun o e => kpa _ _ e
          k_steps; unfold Halt; (try k_fold); refine PSpec.useA (A₀ := _) (and__p _ _ _ _) (by k_asm) (by k_asm) (by k_asm) (by assumption) (by k_asm) (by exact rfl) (by exact rfl) (by (try dsimp +zetaDelta only [ktrTop, Around.deeper]); first | (first | (law_clear; lia) | lia | omega) | decide) (by (try dsimp +zetaDelta only [ktrTop, Around.deeper]); first | (first | (law_clear; lia) | lia | omega) | decide) (trivial) ?_; intro v9 h9 tk9 F9 N9 kp9 ht9 hz9 hp9; (try dsimp only at hp9 ht9 hz9 kp9); obtain ⟨t15, rfl, la15, lb15⟩ := hp9; rw [bAnd]
          k_steps
          (try dsimp only at hT)
          exact ⟨h9, tk9, rfl, Kp.trans kpa kp9, fun _ => by rw [range_snoc]; exact hJ.snoc (by (first | (law_clear; lia) | lia | omega)) (by (first | (law_clear; lia) | lia | omega)) (by (first | (law_clear; lia) | lia | omega))⟩
        case g9 =>
          intro D7 ys7 h7 tk7 hJ7 hT7 hD7 hge7 F7 hk7
          (try dsimp only at hT7)
          obtain ⟨nn7, N7⟩ := plain_news2 N6 F6 hk7 hD7 hge7
          have ebl : ((List.range (4 - i)).map fun j => (((T2 / 2 ^ (5 * (1 + j))) &&& pr : Nat) : Int)) = (belowL T2 i pr).map fun (k : Nat) => (k : Int) := by unfold belowL; rw [List.map_map]; rfl
          rw [ebl] at hJ7
          have hbl := belowL_len T2 i pr
          clear F6 N6
          k_steps
          unfold Halt
          (try k_fold)
          have hap7 : ApartI ys7 ((belowL T2 i pr).map fun (k : Nat) => (k : Int)) t12 := ⟨hJ7.1, fun i v e => by obtain ⟨t, a, b, c⟩ := hJ7.2 i v e; exact ⟨t, a, by (first | (law_clear; lia) | lia | omega), by (first | (law_clear; lia) | lia | omega)⟩⟩
          have hmem7 : (cm : Int) ∈ (belowL T2 i pr).map fun (k : Nat) => (k : Int) := List.mem_map_of_mem hmem
          refine PSpec.useA (A₀ := _) (indexOf_ints D7 ys7 _ _ t12 hap7 ht12 (ecm ▸ hmem7)) (by k_asm) (by k_asm) (by k_asm) (by assumption) (by k_asm) (by exact rfl) (by exact rfl) (by (try dsimp +zetaDelta only [ktrTop, Around.deeper]); first | (first | (law_clear; lia) | lia | omega) | decide) (by (try dsimp +zetaDelta only [ktrTop, Around.deeper]); first | (first | (law_clear; lia) | lia | omega) | decide) (⟨_, (N7 (D7, _) (.head _)).1, rfl, _, rfl⟩) ?_; intro v9 h9 tk9 F9 N9 kp9 ht9 hz9 hp9; (try dsimp only at hp9 ht9 hz9 kp9)
          obtain ⟨t16, rfl⟩ := hp9
          rw [idx_cast]
          have ecm' : lowB (gN &&& rowM i ^^^ gN &&& rowM i &&& (T2 &&& rowM i)) = cm := ecm.symm
          obtain ⟨fi, efi⟩ : ∃ fi, fi = (belowL T2 i pr).idxOf cm := ⟨_, rfl⟩
          have hfi : fi < 4 - i := by rw [efi, ← hbl]; exact List.idxOf_lt_length_of_mem hmem
          rw [ecm', ← efi]
          k_steps
          unfold Halt
          (try k_fold)
          have hi7 := hJ7.ints
          refine' kmk_slice_ints (ms := ((belowL T2 i pr).map fun (k : Nat) => (k : Int)).take ((fi : Int)).toNat) ?y1 ?y2 ?y3 ?y4 ?y5 hi7 (kmk_upto hi7 (Int.natCast_nonneg _)) rfl ?_ ?y6 ?y7 ?y8
          case y1 => k_asm
          case y2 => k_asm
          case y3 => kmk_list
          case y4 => kmk_part
          case y5 => kmk_part
          case y6 => with_unfolding_all rfl
          case y7 => kmk_pure
          case y8 => (rw [sizeLine_eq, List.size_toArray, hi7.length, List.length_map, hbl]; (first | (law_clear; lia) | lia | omega))
          intro D8 ws h8 F8 N8 lD8 hi8 _ _
          k_steps
          unfold Halt
          (try k_fold)
          refine kf_in (b := false) N8 (.head _) (ints_kf (by simpa using hi8)) ?_ ?_
          · rw [List.toList_toArray, any_isInt _ hi8]
            refine any_not ?_
            rw [ecm', Int.toNat_natCast, ← List.map_take, efi]
            intro q
            obtain ⟨x, hx, e⟩ := List.mem_map.mp q
            have : x = cm := by (first | (law_clear; lia) | lia | omega)
            exact not_before cm _ (this ▸ hx)
          replace N8 := newsSub (news' := own4 ++ ([(L' + 1 + 1, oP5), (L' + 1, oT2)] ++ own)) N8 fun q hq => .tail _ (.tail _ hq)
          have eL : (pr : Int) * 2 ^ (5 * (fi : Int) + 5).toNat = ((pr * 2 ^ (5 * fi + 5) : Nat) : Int) := by
            rw [show (5 * (fi : Int) + 5).toNat = 5 * fi + 5 by (first | (law_clear; lia) | lia | omega)]
            simp
          k_steps; unfold Halt; (try k_fold); refine PSpec.useA (A₀ := _) (lshift_p _ _ _ _ (by (first | (law_clear; lia) | lia | omega)) (by (first | (law_clear; lia) | lia | omega)) (by (first | (law_clear; lia) | lia | omega)) (by (first | (law_clear; lia) | lia | omega))) (by k_asm) (by k_asm) (by k_asm) (by assumption) (by k_asm) (by exact rfl) (by exact rfl) (by (try dsimp +zetaDelta only [ktrTop, Around.deeper]); first | (first | (law_clear; lia) | lia | omega) | decide) (by (try dsimp +zetaDelta only [ktrTop, Around.deeper]); first | (first | (law_clear; lia) | lia | omega) | decide) (trivial) ?_; intro v9 h9 tk9 F9 N9 kp9 ht9 hz9 hp9; (try dsimp only at hp9 ht9 hz9 kp9); obtain ⟨t17, rfl, la17, lb17⟩ := hp9; rw [eL]
          k_steps; unfold Halt; (try k_fold); refine PSpec.useA (A₀ := _) (or__p _ _ _ _) (by k_asm) (by k_asm) (by k_asm) (by assumption) (by k_asm) (by exact rfl) (by exact rfl) (by (try dsimp +zetaDelta only [ktrTop, Around.deeper]); first | (first | (law_clear; lia) | lia | omega) | decide) (by (try dsimp +zetaDelta only [ktrTop, Around.deeper]); first | (first | (law_clear; lia) | lia | omega) | decide) (trivial) ?_; intro v9 h9 tk9 F9 N9 kp9 ht9 hz9 hp9; (try dsimp only at hp9 ht9 hz9 kp9); obtain ⟨t18, rfl, la18, lb18⟩ := hp9; rw [bOr]
          k_steps; unfold Halt; (try k_fold); refine PSpec.useA (A₀ := _) (xor_p _ _ _ _) (by k_asm) (by k_asm) (by k_asm) (by assumption) (by k_asm) (by exact rfl) (by exact rfl) (by (try dsimp +zetaDelta only [ktrTop, Around.deeper]); first | (first | (law_clear; lia) | lia | omega) | decide) (by (try dsimp +zetaDelta only [ktrTop, Around.deeper]); first | (first | (law_clear; lia) | lia | omega) | decide) (trivial) ?_; intro v9 h9 tk9 F9 N9 kp9 ht9 hz9 hp9; (try dsimp only at hp9 ht9 hz9 kp9); obtain ⟨t19, rfl, la19, lb19⟩ := hp9; rw [bXor]
          (rename News _ _ _ _ => Nz)
          refine' storeX_C ?z1 Nz ?z3 (updF_app nT4 (.tail (neN (by (try dsimp only); (first | (law_clear; lia) | lia | omega))) (.head nTr))) ?z5 ?_ ?z6 ?z7
          case z1 => k_asm
          case z3 => rfl
          case z5 => k_asm
          case z6 => rfl
          case z7 => rfl
          intro h5 oT5 F5 N5 d6
          have hR4 : turnsF T1 gN i (k + 1) = some (T2 ^^^ (pr ||| pr * 2 ^ (5 * fi + 5))) := by
            rw [hR3]
            unfold turnF
            rw [if_neg hE', ← epr, ← ecm, if_pos hmem, efi]
          k_steps
          unfold Halt
          (try k_fold)
          refine FEnd.intro (T2 ^^^ (pr ||| pr * 2 ^ (5 * fi + 5)), t19, oT5, oP5) (by assumption) N5 (fun q hq => mem_l hq) ?_ (by kst_all) fun _ => ⟨hR4, d6, _, d5⟩
          intro q hq
          simp only [List.cons_append, List.nil_append, List.mem_cons] at hq
          rcases hq with rfl | rfl | hq
          · exact ⟨mem_r (.head _), hw4 (L' + 1 + 1, oP2) (.head _)⟩
          · exact ⟨mem_r (.tail _ (.head _)), hw4 (L' + 1, oT2) (.tail _ (.head _))⟩
          · exact ⟨mem_r (.tail _ (.tail _ hq)), hw4 q (.tail _ (.tail _ hq))⟩
    case done2 =>
      rintro ⟨T2, tt2, oT2, oP2⟩ m₂ h4 tk4 hJ4 hT4 F4 N4
      obtain ⟨p1, p2, vP2, p3⟩ := hJ4
      dsimp only at F4 N4 p1 p2 p3 hT4
      clear F2 F3
      have hRT : R2 = T2 := Option.some.inj (hR2.symm.trans p1)
      k_steps
      unfold Halt
      (try k_fold)
      refine FEnd.intro (T2, tt2, oT2, oP2) (by assumption) (by assumption) (fun q hq => mem_r hq) ?_ (by kst_all) fun _ => ⟨hRT ▸ hled, p2, _, p3⟩
      intro q hq
      rcases (mc hq).imp_right mc1 with rfl | rfl
      · exact ⟨mem_l (.head _), hw2 (L' + 1 + 1, oP1) (.head _)⟩
      · exact ⟨mem_l (.tail _ (.head _)), hw2 (L' + 1, oT1) (.tail _ (.head _))⟩
  case done =>
    rintro ⟨T1, tt1, oT1, oP1⟩ m₁ h tk hJ hT F2 N2
    obtain ⟨j1, j2, vP1, j3⟩ := hJ
    dsimp only at F2 N2 j1 j2 j3 hT
    have hRT : R = T1 := Option.some.inj (hR.symm.trans j1)
    k_steps
    (rename Fr _ _ _ _ => F8)
    (try dsimp only)
    exact PLeave.intro F8 fun kp ht hz => hret _ _ _ (eg' ▸ kp) ht hz ⟨_, by rw [hRT]⟩
end
section
def posL (w : List Int) : List Int := w.filter fun x => decide (0 < x)
def freeL (w : List Int) : List Int := w.filter fun x => decide (x < 5)
def minL (ns : List Int) : Int := ns.min?.getD 0
def maxL (ns : List Int) : Int := ns.max?.getD 0
theorem minL_eq {ns : List Int} {M : Int} (h : M ∈ ns) (h2 : ∀ a, a ∈ ns → M ≤ a) : minL ns = M := by
  have : ns.min? = some M := List.min?_eq_some_iff.mpr ⟨h, h2⟩
  unfold minL; rw [this]; rfl
theorem maxL_eq {ns : List Int} {M : Int} (h : M ∈ ns) (h2 : ∀ a, a ∈ ns → a ≤ M) : maxL ns = M := by
  have : ns.max? = some M := List.max?_eq_some_iff.mpr ⟨h, h2⟩
  unfold maxL; rw [this]; rfl
def giversL (w : List Int) : List Nat := (List.range 5).filter fun c => decide (w.getD c 0 = minL (posL w))
def takersL (w : List Int) : List Nat := (List.range 5).filter fun c => decide (w.getD c 0 = maxL (freeL w))
def giver (w : List Int) : Nat := (giversL w).getLast?.getD 0
def taker (w : List Int) : Nat := (takersL w).head?.getD 0
def moved (w : List Int) : List Int := (w.set (giver w) (w.getD (giver w) 0 - 1)).set (taker w) ((w.set (giver w) (w.getD (giver w) 0 - 1)).getD (taker w) 0 + 1)
def chainStep (w : List Int) : Option (List Int) := if posL w = [] ∨ freeL w = [] then none else if giver w = taker w ∨ w.getD (giver w) 0 > w.getD (taker w) 0 then none else some (moved w)
def lastL (c : List (List Int)) : List Int := c.getLast?.getD []
def chainTo (w : List Int) : Nat → List (List Int)
  | 0 => [w]
  | n + 1 => match chainStep (lastL (chainTo w n)) with
    | none => chainTo w n
    | some v => chainTo w n ++ [v]
theorem chain_stop {w : List Int} {n : Nat} (h : chainStep (lastL (chainTo w n)) = none) : ∀ k, chainTo w (n + k) = chainTo w n
  | 0 => rfl
  | k + 1 => by
    have ih := chain_stop h k
    show (match chainStep (lastL (chainTo w (n + k))) with | none => chainTo w (n + k) | some v => chainTo w (n + k) ++ [v]) = _
    rw [ih, h]
theorem chain_len (w : List Int) : ∀ n, (chainTo w n).length ≤ n + 1 ∧ 0 < (chainTo w n).length
  | 0 => ⟨Nat.le_refl _, Nat.one_pos⟩
  | n + 1 => by
    have ih := chain_len w n
    show (match chainStep (lastL (chainTo w n)) with | none => chainTo w n | some v => chainTo w n ++ [v]).length ≤ _ ∧ _ < (match chainStep (lastL (chainTo w n)) with | none => chainTo w n | some v => chainTo w n ++ [v]).length
    split
    · (first | lia | omega)
    · simp only [List.length_append, List.length_singleton]; (first | lia | omega)
theorem givers_ne {w : List Int} (h5 : Five w) (hp : posL w ≠ []) : giversL w ≠ [] := by
  obtain ⟨M, hM⟩ := List.exists_mem_of_ne_nil _ hp
  have hne : (posL w).min? ≠ none := by rw [Ne, List.min?_eq_none_iff]; exact hp
  obtain ⟨m, hm⟩ := Option.ne_none_iff_exists'.mp hne
  have hm2 := (List.min?_eq_some_iff.mp hm).1
  have e : minL (posL w) = m := by unfold minL; rw [hm]; rfl
  have hw := (List.mem_filter.mp hm2).1
  obtain ⟨i, hi, ei⟩ := List.getElem_of_mem hw
  refine List.ne_nil_of_mem (a := i) (List.mem_filter.mpr ⟨List.mem_range.mpr (by rw [← h5.1]; exact hi), ?_⟩)
  rw [e]
  exact decide_eq_true (by rw [← ei]; simp [List.getD, hi])
theorem takers_ne {w : List Int} (h5 : Five w) (hp : freeL w ≠ []) : takersL w ≠ [] := by
  have hne : (freeL w).max? ≠ none := by rw [Ne, List.max?_eq_none_iff]; exact hp
  obtain ⟨m, hm⟩ := Option.ne_none_iff_exists'.mp hne
  have hm2 := (List.max?_eq_some_iff.mp hm).1
  have e : maxL (freeL w) = m := by unfold maxL; rw [hm]; rfl
  have hw := (List.mem_filter.mp hm2).1
  obtain ⟨i, hi, ei⟩ := List.getElem_of_mem hw
  refine List.ne_nil_of_mem (a := i) (List.mem_filter.mpr ⟨List.mem_range.mpr (by rw [← h5.1]; exact hi), ?_⟩)
  rw [e]
  exact decide_eq_true (by rw [← ei]; simp [List.getD, hi])
section
variable {prog : Program} {w : World} {A : Around} {E : Value → Shared → Prop} {s : Shared} {l : Addr} {vs : List Value} {ns : List Int}
theorem min_kp {Q : Value → Shared → Prop} (hh : A.handled = none) (hl : s.heap.IsList l vs.toArray) (hi : IntsAre vs ns) (hne : ns ≠ [])
    (h : ∀ h' (t : Tok) tk, Kp s.heap h' → Q (.int (minL ns) t) { s with heap := h', toks := tk }) : wpAny (model prog w) A (call (.builtin "min") [.ref l]) Q E s := by
  obtain ⟨xs, e⟩ := hi.allInts.items
  have hns : ns = xs.toList.map (·.1) := by rw [← hi.numsOf, ← nums_intItems, ← e]
  have hne' : 0 < ns.length := List.length_pos_iff.mpr hne
  have hsz : 0 < xs.size := by
    have h3 := hne'; rw [hns, List.length_map, Array.length_toList] at h3; exact h3
  rw [e] at hl
  refine min_intList hh hl hsz fun v h' tk hv hk => ?_
  obtain ⟨t, rfl⟩ := intItems_at hv
  obtain ⟨h1, h2⟩ := argBest_lt (numAt xs) (xs.size - 1)
  have e9 : minL ns = numAt xs (argBest (fun i j => decide (numAt xs i < numAt xs j)) (xs.size - 1)) := minL_eq (by rw [hns, numAt_eq]; exact Mine.getD_mem (by rw [List.length_map, Array.length_toList]; (first | lia | omega))) (fun a ha => by
    rw [hns] at ha
    obtain ⟨j, hj, rfl⟩ := mem_getD ha
    rw [List.length_map, Array.length_toList] at hj
    rw [← numAt_eq]; exact h2 j (by (first | lia | omega)))
  have := h h' t tk hk
  rw [e9] at this
  exact this
theorem max_kp {Q : Value → Shared → Prop} (hh : A.handled = none) (hl : s.heap.IsList l vs.toArray) (hi : IntsAre vs ns) (hne : ns ≠ [])
    (h : ∀ h' (t : Tok) tk, Kp s.heap h' → Q (.int (maxL ns) t) { s with heap := h', toks := tk }) : wpAny (model prog w) A (call (.builtin "max") [.ref l]) Q E s := by
  obtain ⟨xs, e⟩ := hi.allInts.items
  have hns : ns = xs.toList.map (·.1) := by rw [← hi.numsOf, ← nums_intItems, ← e]
  have hne' : 0 < ns.length := List.length_pos_iff.mpr hne
  have hsz : 0 < xs.size := by
    have h3 := hne'; rw [hns, List.length_map, Array.length_toList] at h3; exact h3
  rw [e] at hl
  refine max_intList hh hl hsz fun v h' tk hv hk => ?_
  obtain ⟨t, rfl⟩ := intItems_at hv
  obtain ⟨h1, h2⟩ := argBest_gt (numAt xs) (xs.size - 1)
  have e9 : maxL ns = numAt xs (argBest (fun i j => decide (numAt xs i > numAt xs j)) (xs.size - 1)) := maxL_eq (by rw [hns, numAt_eq]; exact Mine.getD_mem (by rw [List.length_map, Array.length_toList]; (first | lia | omega))) (fun a ha => by
    rw [hns] at ha
    obtain ⟨j, hj, rfl⟩ := mem_getD ha
    rw [List.length_map, Array.length_toList] at hj
    rw [← numAt_eq]; exact h2 j (by (first | lia | omega)))
  have := h h' t tk hk
  rw [e9] at this
  exact this
end
section
variable {prog : Program} {w : World} {A : Around} {E : Value → Shared → Prop} {s : Shared} {l : Addr} {vs : List Value}
/-- xs[-1] -/
theorem item_last {value slice : PySem.Expr} {u : Tok} {v : Value} {Q : Value → Shared → Prop} (hL : s.heap.IsList l vs.toArray) (hv : vs.getLast? = some v) (h : Q v s)
    (hs : subscripted slice false (.ref l) (.int (-1) u) = operate [.ref l, .int (-1) u] (getItem (.ref l) (.int (-1) u)) := by with_unfolding_all rfl) :
    wpAny (model prog w) A (subscriptTail value slice (.ref l) (.int (-1) u)) Q E s := by
  have hne : vs ≠ [] := fun q => by rw [q] at hv; cases hv
  have hlen := List.length_pos_iff.mpr hne
  refine tail_any hL.typeIs slot_list_getitem.lookup (wpAny_getItem_list_neg hL (by (first | lia | omega)) (by rw [List.size_toArray]; (first | lia | omega)) (by (first | lia | omega)) (x := v) ?_ h) hs
  rw [List.size_toArray, show (-1 + (vs.length : Int)).toNat = vs.length - 1 by (first | lia | omega)]
  rw [List.getLast?_eq_getElem?] at hv
  simpa using hv
end
theorem last_map {α β : Type} (f : α → β) (l : List α) : (l.map f).getLast? = l.getLast?.map f := by rw [List.getLast?_map]
structure CE where
  adr : Addr
  vals : List Value
  nums : List Int
  cap : Nat
def CE.obj (q : CE) : Addr × Obj := (q.adr, W.listOf q.vals.toArray q.cap)
def refsOf (ch : List CE) : List Value := ch.map fun q => Value.ref q.adr
theorem chain_lastq {ch : List CE} {w : List Int} {n : Nat} (h : ch.map (·.nums) = chainTo w n) : ∃ q, ch.getLast? = some q ∧ q ∈ ch ∧ q.nums = lastL (chainTo w n) ∧ (refsOf ch).getLast? = some (.ref q.adr) := by
  have hne : ch ≠ [] := fun e => by
    have := (chain_len w n).2
    rw [← h, e] at this
    simp at this
  have hl := List.getLast?_eq_some_getLast hne
  refine ⟨ch.getLast hne, hl, List.getLast_mem hne, ?_, ?_⟩
  · unfold lastL
    rw [← h, List.getLast?_map, hl]
    rfl
  · unfold refsOf
    rw [List.getLast?_map, hl]
    rfl
theorem filt_yes {ns : List Int} {p : Int → Bool} {i : Nat} (h : i < ns.length) (hp : p ns[i] = true) : (ns.take (i + 1)).filter p = (ns.take i).filter p ++ [ns[i]] := by
  rw [List.take_succ_eq_append_getElem h, List.filter_append]
  simp [hp]
theorem filt_no {ns : List Int} {p : Int → Bool} {i : Nat} (h : i < ns.length) (hp : p ns[i] = false) : (ns.take (i + 1)).filter p = (ns.take i).filter p := by
  rw [List.take_succ_eq_append_getElem h, List.filter_append]
  simp [hp]
theorem rfilt_yes {p : Nat → Bool} {i : Nat} (hp : p i = true) : (List.range (i + 1)).filter p = (List.range i).filter p ++ [i] := by
  rw [List.range_succ, List.filter_append]
  simp [hp]
theorem rfilt_no {p : Nat → Bool} {i : Nat} (hp : p i = false) : (List.range (i + 1)).filter p = (List.range i).filter p := by
  rw [List.range_succ, List.filter_append]
  simp [hp]
/-- what _law_chain gives: a new list of new lists -/
def ChainPost (hp : Heap) (sn : List Int) (v : Value) (h : Heap) : Prop := ∃ (cl : Addr) (ch : List CE) (cap : Nat), v = .ref cl ∧ h.get? cl = some (W.listOf (refsOf ch).toArray cap) ∧ hp.get? cl = none ∧ ch.map (·.nums) = chainTo sn 20 ∧
  ∀ q ∈ ch, IntsAre q.vals q.nums ∧ Five q.nums ∧ h.get? q.adr = some (W.listOf q.vals.toArray q.cap) ∧ hp.get? q.adr = none
theorem chain_fin {ch : List CE} {sn : List Int} {i : Nat} (hi : i ≤ 20) (j1 : ch.map (·.nums) = chainTo sn i) (h : chainStep (lastL (chainTo sn i)) = none) : ch.map (·.nums) = chainTo sn 20 := by
  have := chain_stop h (20 - i)
  rw [show i + (20 - i) = 20 by (first | lia | omega)] at this
  rw [this, j1]
theorem ints_last {vs : List Value} {ns : List Int} {x : Int} (h : IntsAre vs ns) (e : ns.getLast? = some x) : ∃ t, vs.getLast? = some (.int x t) := by
  rw [List.getLast?_eq_getElem?] at e ⊢
  rw [h.length]
  have hl := (List.getElem?_eq_some_iff.mp e).1
  obtain ⟨t, ht⟩ := ints_get h hl
  refine ⟨t, ?_⟩
  rw [ht]
  have := (List.getElem?_eq_some_iff.mp e).2
  rw [this]
theorem giver_last {w : List Int} (h : giversL w ≠ []) : (castL (giversL w)).getLast? = some ((giver w : Nat) : Int) := by
  unfold castL giver
  rw [List.getLast?_map, List.getLast?_eq_some_getLast h]
  rfl
theorem giver_mem {w : List Int} (h : giversL w ≠ []) : giver w ∈ giversL w := by
  unfold giver
  rw [List.getLast?_eq_some_getLast h]
  exact List.getLast_mem h
theorem taker_mem {w : List Int} (h : takersL w ≠ []) : taker w ∈ takersL w := by
  unfold taker
  cases e : takersL w with
  | nil => exact absurd e h
  | cons a r => simp
theorem giver_lt {w : List Int} (h : giversL w ≠ []) : giver w < 5 := List.mem_range.mp (List.mem_filter.mp (giver_mem h)).1
theorem taker_lt {w : List Int} (h : takersL w ≠ []) : taker w < 5 := List.mem_range.mp (List.mem_filter.mp (taker_mem h)).1
theorem taker_head {w : List Int} (h : takersL w ≠ []) : (castL (takersL w)).getD 0 0 = ((taker w : Nat) : Int) := by
  unfold castL taker
  cases e : takersL w with
  | nil => exact absurd e h
  | cons a r => simp
theorem cast_snoc (l : List Nat) (x : Nat) : castL (l ++ [x]) = castL l ++ [(x : Int)] := by unfold castL; rw [List.map_append]; rfl
theorem get_ints {prog : Program} {w : World} {A : Around} {E : Value → Shared → Prop} {s : Shared} {l : Addr} {vs : List Value} {ns : List Int} {k : Int} {u : Tok} {Q : Value → Shared → Prop} (hL : s.heap.IsList l vs.toArray) (hi : IntsAre vs ns) (h0 : 0 ≤ k) (hk : k < (ns.length : Int)) (hl : ns.length < 2 ^ 62)
    (h : ∀ t, Q (.int (ns.getD k.toNat 0) t) s) : wpAny (model prog w) A (getItem (.ref l) (.int k u)) Q E s := by
  obtain ⟨t, ht⟩ := Mine.ints_get hi (k := k.toNat) (by (first | lia | omega))
  have e : ns.getD k.toNat 0 = ns[k.toNat]'(by (first | lia | omega)) := by simp [List.getD, show k.toNat < ns.length by (first | lia | omega)]
  refine wpAny_getItem_list hL h0 (by (first | lia | omega)) (by simpa using ht) ?_
  rw [← e]
  exact h t
theorem minL_pos {w : List Int} (hp : posL w ≠ []) : 0 < minL (posL w) ∧ minL (posL w) ∈ w := by
  have hne : (posL w).min? ≠ none := by rw [Ne, List.min?_eq_none_iff]; exact hp
  obtain ⟨m, hm⟩ := Option.ne_none_iff_exists'.mp hne
  have hm2 := (List.min?_eq_some_iff.mp hm).1
  have e : minL (posL w) = m := by unfold minL; rw [hm]; rfl
  rw [e]
  have := List.mem_filter.mp hm2
  exact ⟨of_decide_eq_true this.2, this.1⟩
theorem maxL_free {w : List Int} (hp : freeL w ≠ []) : maxL (freeL w) < 5 ∧ maxL (freeL w) ∈ w := by
  have hne : (freeL w).max? ≠ none := by rw [Ne, List.max?_eq_none_iff]; exact hp
  obtain ⟨m, hm⟩ := Option.ne_none_iff_exists'.mp hne
  have hm2 := (List.max?_eq_some_iff.mp hm).1
  have e : maxL (freeL w) = m := by unfold maxL; rw [hm]; rfl
  rw [e]
  have := List.mem_filter.mp hm2
  exact ⟨of_decide_eq_true this.2, this.1⟩
theorem giver_val {w : List Int} (h : giversL w ≠ []) : w.getD (giver w) 0 = minL (posL w) := of_decide_eq_true (List.mem_filter.mp (giver_mem h)).2
theorem taker_val {w : List Int} (h : takersL w ≠ []) : w.getD (taker w) 0 = maxL (freeL w) := of_decide_eq_true (List.mem_filter.mp (taker_mem h)).2
theorem getD_set_ne {w : List Int} {i j : Nat} {x : Int} (h : i ≠ j) : (w.set i x).getD j 0 = w.getD j 0 := by simp [List.getD, List.getElem?_set, h]
theorem five_moved {w : List Int} (h5 : Five w) (hp : posL w ≠ []) (hf : freeL w ≠ []) (hgt : giver w ≠ taker w) : Five (moved w) := by
  have hg := givers_ne h5 hp
  have ht := takers_ne h5 hf
  have hgp := (minL_pos hp).1
  have hmem := h5.2 _ (minL_pos hp).2
  have htp := (maxL_free hf).1
  have htm := h5.2 _ (maxL_free hf).2
  unfold moved
  rw [getD_set_ne hgt, giver_val hg, taker_val ht]
  refine ⟨by rw [List.length_set, List.length_set]; exact h5.1, fun x hx => ?_⟩
  rcases List.mem_or_eq_of_mem_set hx with hx | rfl
  · rcases List.mem_or_eq_of_mem_set hx with hx | rfl
    · exact h5.2 x hx
    · (first | lia | omega)
  · (first | lia | omega)
theorem chain_next {ch : List CE} {sn v : List Int} {i : Nat} (j1 : ch.map (·.nums) = chainTo sn i) (h : chainStep (lastL (chainTo sn i)) = some v) (q : CE) (hq : q.nums = v) : (ch ++ [q]).map (·.nums) = chainTo sn (i + 1) := by
  show _ = (match chainStep (lastL (chainTo sn i)) with | none => chainTo sn i | some v => chainTo sn i ++ [v])
  rw [h, List.map_append, j1, ← hq]
  rfl
theorem news_dc {g h : Heap} {L : Addr} {a b c d x : Addr × Obj} {rs r : List (Addr × Obj)} (N : News g L h (a :: b :: c :: d :: rs)) (e : rs = x :: r) : News g L h (x :: a :: b :: c :: d :: r) := newsSub N (by
  intro q hq
  subst e
  simp only [List.mem_cons] at hq ⊢
  rcases hq with h | h | h | h | h | h <;> simp only [h, true_or, or_true])
end
section
theorem load_C7 : (fun (_ : OpenLaw) (_ : Params → Frag) => True) PySem.Challenge.rw_wb0054_01 hd54.heap_1 := by
  w_top off
  k_fill
  trivial
set_option hygiene false in
local macro_rules | `(tactic| walk_at "call type:list") => `(tactic| (k_here; (refine halt ?_)))
local macro_rules | `(tactic| walk_at $s:str) => if ("|eval ListComp|subscriptTail|getItem ref int|setItem ref int|call builtin:list.append|call builtin:min|call builtin:max|compareOp Eq ref ref|".splitOn ("|" ++ s.getString ++ "|")).length > 1 then `(tactic| (refine halt ?_)) else Lean.Macro.throwUnsupported
theorem chain_p (sl : Addr) (sv : List Value) (sn : List Int) (hp : Heap) (hs : IntsAre sv sn) (h5 : Five sn) :
    PSpec hd54.heap_1 4 178 [.ref sl] [] (fun h lo => h.IsList sl sv.toArray ∧ h = hp) (fun v h' _ _ => ChainPost hp sn v h') := by
  unfold PSpec; intro prog w p loose mean mg mb dp un gd cn cs a ccd cl outer A₀ base h₀ L m s Q E B F X T hk hd9 hu9 hpre hret; refine wpAny_both ?_
  k_dflt (refine' enterPC (binds := [(Str.ofString "sums", .ref sl)]) ?k1 ?k2 ?k3 ?k5 ?kA ?kF ?kK ?k6 ?k7 ?k8 ?k9 ?kB ?kN ?_ ?c2 ?c3 ?c4; (case kA => exact rfl); (case kF => exact rfl); (case kK => assumption); (case k1 => k_asm); (case k2 => k_asm); (case k3 => k_asm); (case k5 => k_asm); (case k6 => k_is); (case k7 => k_is); (case k8 => ktr_room); (case k9 => exact BindsTo.of_eq rfl); (case kB => exact rfl); (case kN => decide); (case c2 => exact rfl); (case c3 => exact rfl); (case c4 => exact rfl); k_whole; intro g' L' h' tk' cells' eg' ht' F' N' Y' B' X' T'; k_cells Y'; (try simp only [List.cons_append, List.nil_append] at N'); (try dsimp only); (try k_lift B'); (try k_fold))
  refine let_fold3 (P := fun (M : Model) (A : Around) (en : Env) => wpAny M A (execs _ en) _ _ _) _ _ _ ?_; intro M9 A9 en9; show wpAny M9 A9 (execs _ en9) _ _ _
  rename_i oF0 oS0 oN0 dF0 dS0 dN0
  have dF0 : oF0.data = .cell none := dF0
  have dS0 : oS0.data = .cell none := dS0
  have dN0 : oN0.data = .cell none := dN0
  have hsl : g'.IsList sl sv.toArray := eg' ▸ hpre.1
  k_steps
  unfold Halt
  (try k_fold)
  have hsz0 : sv.toArray.size ≤ sizeLine := by rw [sizeLine_eq, List.size_toArray, hs.length, h5.1]; (first | (law_clear; lia) | lia | omega)
  refine list_copyK F' N' (hsl.at fun o e => F'.keep _ _ e) (fun D1 c1 h1 F1 N1 lD1 => ?_) hsz0
  (try k_lt lD1)
  k_steps
  unfold Halt
  (try k_fold)
  (rename Fr _ _ _ _ => F1)
  (rename News _ _ _ _ => N1)
  (rename IsRange _ _ _ _ _ _ _ _ => R1)
  obtain ⟨DC, eA⟩ := newsHead N1
  subst eA
  have hDC := ltN (Heap.lt_size (N1 _ (.head _)).1)
  dsimp only at hDC
  refine' ForGo.mk' (fun (_ : List CE × Nat × Obj × Obj × Obj) => [(Str.ofString "chain", Value.ref DC)])
    (fun c => (L' + 1 + 1 + 1, c.2.2.1) :: (L' + 1 + 1, c.2.2.2.1) :: (L' + 1, c.2.2.2.2) :: (DC, listOf (refsOf c.1).toArray c.2.1) :: c.1.map CE.obj)
    (fun i c _ => c.1.map (·.nums) = chainTo sn i ∧ (∀ q ∈ c.1, IntsAre q.vals q.nums ∧ Five q.nums ∧ @LT.lt Nat _ (L' + 1 + 1 + 1) q.adr ∧ q.adr ≠ DC) ∧ (∃ v, c.2.2.1.data = .cell v) ∧ (∃ v, c.2.2.2.1.data = .cell v) ∧ (∃ v, c.2.2.2.2.data = .cell v)) ([⟨D1, sv, sn, c1⟩], 0, oF0, oS0, oN0)
    (FSrcT.range (n := 20) rfl R1 (by decide) (by decide)) F1 (newsSub N1 ?hsub) ?hps (Fr.ns F1).lt ?hlt ?hJ (fun _ _ _ _ q _ => q) ?step ?done
  case hsub => intro q hq; simp only [List.mem_cons, List.not_mem_nil, or_false, List.map_cons, List.map_nil] at hq ⊢; (rcases hq with h | h | h | h | h <;> simp only [h, true_or, or_true] <;> first | exact .inl rfl | exact .inr (.inl rfl))
  case hps => kst_all
  case hlt => exact fun q hq => Heap.lt_size (N1 q (by simp only [List.mem_cons, List.not_mem_nil, or_false, List.map_cons, List.map_nil] at hq ⊢; (rcases hq with h | h | h | h | h <;> simp only [h, true_or, or_true] <;> first | exact .inl rfl | exact .inr (.inl rfl)))).1
  case hJ => exact ⟨rfl, fun q hq => by rw [List.mem_singleton.mp hq]; exact ⟨hs, h5, ltN lD1.1, neN (by dsimp only; (first | (law_clear; lia) | lia | omega))⟩, ⟨_, dF0⟩, ⟨_, dS0⟩, ⟨_, dN0⟩⟩
  case step =>
    rintro i ⟨ch, cc, oF, oS, oN⟩ v m₁ h tk own wr hi hP hJ hT F2 N2 hw2 ho2 hb2
    obtain ⟨ti, rfl⟩ := hP
    obtain ⟨j1, j2, ⟨vF, dF⟩, ⟨vS, dS⟩, ⟨vN, dN⟩⟩ := hJ
    dsimp only at F2 N2 j1 j2 dF dS dN hT
    have bO : ∀ q ∈ own, @LT.lt Nat _ DC q.1 := fun q hq => by have a := own_ge (hb2.2.1 q hq); dsimp only at a; (first | (law_clear; lia) | lia | omega)
    obtain ⟨ql, hl1, hl2, hl3, hl4⟩ := chain_lastq j1
    obtain ⟨k1, k2, k3, k4⟩ := j2 ql hl2
    have hclen := chain_len sn i
    rw [← j1, List.length_map] at hclen
    k_steps
    unfold Halt
    (try k_fold)
    (rename Fr _ _ _ _ => F3)
    (rename News _ _ _ _ => N3)
    have hitl : ∀ h', News g' L' h' (own ++ ((L' + 1 + 1 + 1, oF) :: (L' + 1 + 1, oS) :: (L' + 1, oN) :: (DC, listOf (refsOf ch).toArray cc) :: ch.map CE.obj)) → h'.IsList DC (refsOf ch).toArray := fun h' N => ⟨_, (N (DC, listOf (refsOf ch).toArray cc) (mem_r (.tail _ (.tail _ (.tail _ (.head _)))))).1, rfl, _, rfl⟩
    refine item_last (hitl _ N3) hl4 ?_
    k_steps
    unfold Halt
    (try k_fold)
    refine list_copyK F3 N3 ⟨_, (N3 ql.obj (mem_r (.tail _ (.tail _ (.tail _ (.tail _ (List.mem_map_of_mem hl2))))))).1, rfl, _, rfl⟩ (fun Dn cDn h4 F4 N4 lDn => ?_) (by rw [sizeLine_eq, List.size_toArray, k1.length, k2.1]; (first | (law_clear; lia) | lia | omega))
    obtain ⟨rs, ers⟩ : ∃ rs, rs = (DC, listOf (refsOf ch).toArray cc) :: (ch.map CE.obj ++ own) := ⟨_, rfl⟩
    have hrs : ∀ q ∈ rs, @LT.lt Nat _ (L' + 1 + 1 + 1) q.1 := by
      intro q hq
      rw [ers] at hq
      rcases List.mem_cons.mp hq with rfl | hq
      · dsimp only; (first | (law_clear; lia) | lia | omega)
      rcases List.mem_append.mp hq with hq | hq
      · obtain ⟨z, hz, rfl⟩ := List.mem_map.mp hq
        exact (j2 z hz).2.2.1
      · have := bO q hq; (first | (law_clear; lia) | lia | omega)
    have mDC : (DC, listOf (refsOf ch).toArray cc) ∈ rs := by rw [ers]; exact .head _
    have mch : ∀ q ∈ ch, q.obj ∈ rs := fun q hq => by rw [ers]; exact .tail _ (mem_l (List.mem_map_of_mem hq))
    have mow : ∀ q ∈ own, q ∈ rs := fun q hq => by rw [ers]; exact .tail _ (mem_r hq)
    have ehp : g' = hp := eg'.trans hpre.2
    have hPost : ∀ h', News g' L' h' rs → chainStep ql.nums = none → ChainPost hp sn (.ref DC) h' := fun h' N hn =>
      ⟨DC, ch, cc, rfl, (N _ mDC).1, ehp ▸ (N _ mDC).2.2, chain_fin (by (first | (law_clear; lia) | lia | omega)) j1 (hl3 ▸ hn), fun q hq => ⟨(j2 q hq).1, (j2 q hq).2.1, (N _ (mch q hq)).1, ehp ▸ (N _ (mch q hq)).2.2⟩⟩
    have lDnC := ltN (lDn (DC, listOf (refsOf ch).toArray cc) (mem_r (.tail _ (.tail _ (.tail _ (.head _))))))
    have lDno : ∀ q ∈ own, @LT.lt Nat _ q.1 Dn := fun q hq => lDn q (mem_l hq)
    have lDnc : ∀ q ∈ ch, @LT.lt Nat _ q.adr Dn := fun q hq => lDn q.obj (mem_r (.tail _ (.tail _ (.tail _ (.tail _ (List.mem_map_of_mem hq))))))
    dsimp only at lDnC
    have N5 : News g' L' h4 ((L' + 1, oN) :: (Dn, listOf ql.vals.toArray cDn) :: (L' + 1 + 1 + 1, oF) :: (L' + 1 + 1, oS) :: rs) := newsSub N4 (by
      intro q hq
      rw [ers] at hq
      simp only [List.mem_cons, List.mem_append] at hq ⊢
      rcases hq with h | h | h | h | h | h | h <;> simp only [h, true_or, or_true])
    have nN : ∀ q ∈ (Dn, listOf ql.vals.toArray cDn) :: (L' + 1 + 1 + 1, oF) :: (L' + 1 + 1, oS) :: rs, q.1 ≠ L' + 1 := by
      intro q hq
      rcases (mc hq).imp_right fun h => (mc h).imp_right fun h => (mc h) with rfl | rfl | rfl | h
      · exact neN (by dsimp only; (first | (law_clear; lia) | lia | omega))
      · exact neN (by dsimp only; (first | (law_clear; lia) | lia | omega))
      · exact neN (by dsimp only; (first | (law_clear; lia) | lia | omega))
      · exact neN (by have := hrs q h; (first | (law_clear; lia) | lia | omega))
    clear N2 N3 N4
    refine' storeX_C F4 N5 ?x3 (.head nN) ?x5 ?_ ?x6 ?x7
    case x3 => rfl
    case x5 => exact dN
    case x6 => rfl
    case x7 => rfl
    intro h5 oN5 F5 N6 d5
    clear N5 F4
    (try dsimp only at N6)
    k_steps
    unfold Halt
    (try k_fold)
    k_dflt (refine' compq_eval ?a1 ?a2 ?a3 ?a4 ?a5 ?_; (case a1 => exact rfl); (case a2 => decide); (case a3 => rfl); (case a4 => decide); (case a5 => rfl))
    k_steps
    unfold Halt
    (try k_fold)
    (rename Fr _ _ _ _ => F6)
    (rename News _ _ _ _ => N7)
    refine CGo.intro ⟨ql.vals.length, (fun i v => ql.vals[i]? = some v), (fun i ys _ => IntsAre ys ((ql.nums.take i).filter fun x => decide (0 < x))), ?b1, SrcT.list rfl ⟨_, (N7 (Dn, _) (.tail _ (.head _))).1, rfl, _, rfl⟩, (fun _ _ _ _ q _ => q), .nil, ?b2, ?b3⟩
    case b1 => rw [sizeLine_eq, k1.length, k2.1]; (first | (law_clear; lia) | lia | omega)
    case b2 =>
      intro j v ys h tk hj hP hJ hT hk C m₂ hC hm₂ hCn
      refine CStep.one ?_
      have F9' := F6.keeps hk
      have N9' := N7.grown hk
      clear F6 N7
      obtain ⟨hj9, t9, rfl⟩ := ints_at_map k1 hP
      k_steps
      · exact ⟨h, _, rfl, Kp.rfl, fun _ => by show IntsAre _ _; rw [filt_yes hj9 (decide_eq_true (by assumption))]; exact ints_snoc hJ _ _⟩
      · exact ⟨h, _, rfl, Kp.rfl, fun _ => by show IntsAre _ _; rw [filt_no hj9 (decide_eq_false (by assumption))]; exact hJ⟩
    case b3 =>
      intro Ds ys1 h6 tk6 hJ6 hT6 hD6 hge6 hk6
      rw [k1.length, List.take_length] at hJ6
      have F7 := F6.keeps hk6
      obtain ⟨ns6, N8⟩ := plain_news (N7.grown hk6) F6 hk6 hD6 hge6
      have lDs := fun p hp => Nat.lt_of_lt_of_le (Heap.lt_size (N7 p hp).1) hge6
      clear F6 N7
      k_steps
      unfold Halt
      (try k_fold)
      k_dflt (refine' compq_eval ?a1 ?a2 ?a3 ?a4 ?a5 ?_; (case a1 => exact rfl); (case a2 => decide); (case a3 => rfl); (case a4 => decide); (case a5 => rfl))
      k_steps
      unfold Halt
      (try k_fold)
      (rename Fr _ _ _ _ => F6)
      (rename News _ _ _ _ => N7)
      refine CGo.intro ⟨ql.vals.length, (fun i v => ql.vals[i]? = some v), (fun i ys _ => IntsAre ys ((ql.nums.take i).filter fun x => decide (x < 5))), ?b1, SrcT.list rfl ⟨_, (N7 (Dn, _) (.tail _ (.tail _ (.head _)))).1, rfl, _, rfl⟩, (fun _ _ _ _ q _ => q), .nil, ?b2, ?b3⟩
      case b1 => rw [sizeLine_eq, k1.length, k2.1]; (first | (law_clear; lia) | lia | omega)
      case b2 =>
        intro j v ys h tk hj hP hJ hT hk C m₂ hC hm₂ hCn
        refine CStep.one ?_
        have F9' := F6.keeps hk
        have N9' := N7.grown hk
        clear F6 N7
        obtain ⟨hj9, t9, rfl⟩ := ints_at_map k1 hP
        k_steps
        · exact ⟨h, _, rfl, Kp.rfl, fun _ => by show IntsAre _ _; rw [filt_yes hj9 (decide_eq_true (by assumption))]; exact ints_snoc hJ _ _⟩
        · exact ⟨h, _, rfl, Kp.rfl, fun _ => by show IntsAre _ _; rw [filt_no hj9 (decide_eq_false (by assumption))]; exact hJ⟩
      case b3 =>
        intro Df ys2 h7 tk7 hJ7 hT7 hD7 hge7 hk7
        rw [k1.length, List.take_length] at hJ7
        have F8 := F6.keeps hk7
        obtain ⟨ns7, N9⟩ := plain_news (N7.grown hk7) F6 hk7 hD7 hge7
        have lDf := fun p hp => Nat.lt_of_lt_of_le (Heap.lt_size (N7 p hp).1) hge7
        clear F6 N7
        obtain ⟨bg, ebg⟩ : ∃ bg, bg = (Df, listOf ys2.toArray ns7) :: (Ds, listOf ys1.toArray ns6) :: (Dn, listOf ql.vals.toArray cDn) :: rs := ⟨_, rfl⟩
        have lD1 := ltN (lDs (L' + 1 + 1 + 1, oF) (.tail _ (.tail _ (.head _))))
        have lD2 := ltN (lDf (L' + 1 + 1 + 1, oF) (.tail _ (.tail _ (.tail _ (.head _)))))
        dsimp only at lD1 lD2
        have hbg : ∀ q ∈ bg, @LT.lt Nat _ (L' + 1 + 1 + 1) q.1 := by
          intro q hq
          rw [ebg] at hq
          rcases (mc hq).imp_right fun h => (mc h).imp_right fun h => (mc h) with rfl | rfl | rfl | h
          · exact lD2
          · exact lD1
          · dsimp only; (first | (law_clear; lia) | lia | omega)
          · exact hrs q h
        have mDf : (Df, listOf ys2.toArray ns7) ∈ bg := by rw [ebg]; exact .head _
        have mDs : (Ds, listOf ys1.toArray ns6) ∈ bg := by rw [ebg]; exact .tail _ (.head _)
        have mDn : (Dn, listOf ql.vals.toArray cDn) ∈ bg := by rw [ebg]; exact .tail _ (.tail _ (.head _))
        have mrs : ∀ q ∈ rs, q ∈ bg := fun q hq => by rw [ebg]; exact .tail _ (.tail _ (.tail _ hq))
        have nC : ∀ a b : Addr, a ≤ L' + 1 + 1 + 1 → ∀ q ∈ bg, q.1 ≠ a := fun a b ha q hq => neN (by have := hbg q hq; have := leN ha; (first | (law_clear; lia) | lia | omega))
        have N10 : News g' L' h7 ((L' + 1 + 1 + 1, oF) :: (L' + 1 + 1, oS) :: (L' + 1, oN5) :: bg) := newsSub N9 (by
          intro q hq
          rw [ebg] at hq
          simp only [List.mem_cons, List.mem_append] at hq ⊢
          rcases hq with h | h | h | h | h | h | h <;> simp only [h, true_or, or_true])
        clear N9
        k_steps
        (rename Fr _ _ _ _ => F9)
        (rename News _ _ _ _ => N11)
        have N12 := newsSub (news' := (L' + 1 + 1, oS) :: (L' + 1 + 1 + 1, oF) :: (L' + 1, oN5) :: bg) N11 (by
          intro q hq
          rcases (mc hq).imp_right fun h => (mc h).imp_right fun h => (mc h) with h | h | h | h <;> first | (subst h; first | exact mem_at 0 rfl | exact mem_at 1 rfl | exact mem_at 2 rfl | exact mem_at 3 rfl | exact mem_at 4 rfl | exact mem_at 5 rfl | exact mem_at 6 rfl | exact mem_at 7 rfl | exact mem_at 8 rfl | exact mem_at 9 rfl | exact mem_at 10 rfl | exact mem_at 11 rfl | exact mem_at 12 rfl | exact mem_at 13 rfl) | exact .tail _ (h) | exact .tail _ (.tail _ (h)) | exact .tail _ (.tail _ (.tail _ (h))) | exact .tail _ (.tail _ (.tail _ (.tail _ (h)))) | exact .tail _ (.tail _ (.tail _ (.tail _ (.tail _ (h))))) | exact .tail _ (.tail _ (.tail _ (.tail _ (.tail _ (.tail _ (h)))))) | exact .tail _ (.tail _ (.tail _ (.tail _ (.tail _ (.tail _ (.tail _ (h))))))) | exact .tail _ (.tail _ (.tail _ (.tail _ (.tail _ (.tail _ (.tail _ (.tail _ (h)))))))) | exact .tail _ (.tail _ (.tail _ (.tail _ (.tail _ (.tail _ (.tail _ (.tail _ (.tail _ (h))))))))) | exact .tail _ (.tail _ (.tail _ (.tail _ (.tail _ (.tail _ (.tail _ (.tail _ (.tail _ (.tail _ (h)))))))))) | exact .tail _ (.tail _ (.tail _ (.tail _ (.tail _ (.tail _ (.tail _ (.tail _ (.tail _ (.tail _ (.tail _ (h))))))))))))
        have nS : ∀ q ∈ (L' + 1 + 1 + 1, oF) :: (L' + 1, oN5) :: bg, q.1 ≠ L' + 1 + 1 := by
          intro q hq
          rcases (mc hq).imp_right fun h => (mc h) with rfl | rfl | h
          · exact neN (by dsimp only; (first | (law_clear; lia) | lia | omega))
          · exact neN (by dsimp only; (first | (law_clear; lia) | lia | omega))
          · exact neN (by have := hbg q h; (first | (law_clear; lia) | lia | omega))
        refine' storeX_C F9 N12 ?x3 (.head nS) dS ?_ ?x6 ?x7
        case x3 => rfl
        case x6 => rfl
        case x7 => rfl
        intro h8 oS5 F10 N13 dS5
        clear F9 N11 N12
        k_steps
        (rename Fr _ _ _ _ => F9)
        have N14 := newsSub (news' := (L' + 1 + 1 + 1, oF) :: (L' + 1 + 1, oS5) :: (L' + 1, oN5) :: bg) N13 (by
          intro q hq
          rcases (mc hq).imp_right fun h => (mc h).imp_right fun h => (mc h) with h | h | h | h <;> first | (subst h; first | exact mem_at 0 rfl | exact mem_at 1 rfl | exact mem_at 2 rfl | exact mem_at 3 rfl | exact mem_at 4 rfl | exact mem_at 5 rfl | exact mem_at 6 rfl | exact mem_at 7 rfl | exact mem_at 8 rfl | exact mem_at 9 rfl | exact mem_at 10 rfl | exact mem_at 11 rfl | exact mem_at 12 rfl | exact mem_at 13 rfl) | exact .tail _ (h) | exact .tail _ (.tail _ (h)) | exact .tail _ (.tail _ (.tail _ (h))) | exact .tail _ (.tail _ (.tail _ (.tail _ (h)))) | exact .tail _ (.tail _ (.tail _ (.tail _ (.tail _ (h))))) | exact .tail _ (.tail _ (.tail _ (.tail _ (.tail _ (.tail _ (h)))))) | exact .tail _ (.tail _ (.tail _ (.tail _ (.tail _ (.tail _ (.tail _ (h))))))) | exact .tail _ (.tail _ (.tail _ (.tail _ (.tail _ (.tail _ (.tail _ (.tail _ (h)))))))) | exact .tail _ (.tail _ (.tail _ (.tail _ (.tail _ (.tail _ (.tail _ (.tail _ (.tail _ (h))))))))) | exact .tail _ (.tail _ (.tail _ (.tail _ (.tail _ (.tail _ (.tail _ (.tail _ (.tail _ (.tail _ (h)))))))))) | exact .tail _ (.tail _ (.tail _ (.tail _ (.tail _ (.tail _ (.tail _ (.tail _ (.tail _ (.tail _ (.tail _ (h))))))))))))
        have nF : ∀ q ∈ (L' + 1 + 1, oS5) :: (L' + 1, oN5) :: bg, q.1 ≠ L' + 1 + 1 + 1 := by
          intro q hq
          rcases (mc hq).imp_right fun h => (mc h) with rfl | rfl | h
          · exact neN (by dsimp only; (first | (law_clear; lia) | lia | omega))
          · exact neN (by dsimp only; (first | (law_clear; lia) | lia | omega))
          · exact neN (by have := hbg q h; (first | (law_clear; lia) | lia | omega))
        refine' storeX_C F9 N14 ?x3 (.head nF) dF ?_ ?x6 ?x7
        case x3 => rfl
        case x6 => rfl
        case x7 => rfl
        intro h9 oF5 F11 N15 dF5
        clear F9 N13 N14
        (try dsimp only at N15)
        k_steps
        unfold Halt
        (try k_fold)
        (rename News _ _ _ _ => N16)
        refine ke_eq_ints ⟨_, (N16 (Ds, _) (.tail _ (.tail _ (.tail _ (.tail _ mDs))))).1, rfl, _, rfl⟩ (ys := []) ⟨_, (N16 _ (.head _)).1, rfl, _, rfl⟩ hJ6 .nil (by (try dsimp +zetaDelta only [ktrTop, Around.deeper]); (first | (law_clear; lia) | lia | omega)) ?_
        k_steps
        · (rename decide _ = true => hc1)
          (rename Fr _ _ _ _ => Fz)
          (rename News _ _ _ _ => Nz)
          exact PLeave.intro Fz fun kp ht hz => hret _ _ _ (eg' ▸ kp) ht hz (hPost _ (newsSub Nz fun q hq => .tail _ (.tail _ (.tail _ (.tail _ (mrs q hq))))) (by unfold chainStep; exact if_pos (.inl (of_decide_eq_true hc1))))
        unfold Halt
        (try k_fold)
        (rename decide _ = false => hc1)
        (rename News _ _ _ _ => N17)
        refine ke_eq_ints ⟨_, (N17 (Df, _) (.tail _ (.tail _ (.tail _ (.tail _ (.tail _ mDf)))))).1, rfl, _, rfl⟩ (ys := []) ⟨_, (N17 _ (.head _)).1, rfl, _, rfl⟩ hJ7 .nil (by (try dsimp +zetaDelta only [ktrTop, Around.deeper]); (first | (law_clear; lia) | lia | omega)) ?_
        k_steps
        · (rename decide _ = true => hc2)
          (rename Fr _ _ _ _ => Fz)
          (rename News _ _ _ _ => Nz)
          exact PLeave.intro Fz fun kp ht hz => hret _ _ _ (eg' ▸ kp) ht hz (hPost _ (newsSub Nz fun q hq => .tail _ (.tail _ (.tail _ (.tail _ (.tail _ (mrs q hq)))))) (by unfold chainStep; exact if_pos (.inr (of_decide_eq_true hc2))))
        unfold Halt
        (try k_fold)
        have hpos : posL ql.nums ≠ [] := of_decide_eq_false hc1
        (rename decide _ = false => hc2)
        have hfree : freeL ql.nums ≠ [] := of_decide_eq_false hc2
        (rename Fr _ _ _ _ => F12)
        (rename News _ _ _ _ => N18)
        have N19 := newsSub (news' := (L' + 1 + 1 + 1, oF5) :: (L' + 1 + 1, oS5) :: (L' + 1, oN5) :: bg) N18 fun q hq => .tail _ (.tail _ hq)
        clear N18
        k_dflt (refine' compq_eval ?a1 ?a2 ?a3 ?a4 ?a5 ?_; (case a1 => exact rfl); (case a2 => decide); (case a3 => rfl); (case a4 => decide); (case a5 => rfl))
        k_steps
        unfold Halt
        (try k_fold)
        (rename Fr _ _ _ _ => F6)
        (rename News _ _ _ _ => N7)
        (rename IsRange _ _ _ _ _ _ _ _ => R6)
        refine CGo.intro ⟨5, (fun j v => ∃ t, v = .int (0 + (j : Int)) t ∧ _ ≤ t), (fun j ys _ => IntsAre ys (castL ((List.range j).filter fun c => decide (ql.nums.getD c 0 = minL (posL ql.nums))))), (by rw [sizeLine_eq]; (first | (law_clear; lia) | lia | omega)), SrcT.range rfl R6 (by decide) (by decide), (fun _ _ _ _ q _ => q), .nil, ?b2, ?b3⟩
        case b2 =>
          rintro j v ys h tk hj ⟨tj, rfl, htj⟩ hJ hT hk C m₂ hC hm₂ hCn
          refine CStep.one ?_
          have F9' := F6.keeps hk
          have N9' := N7.grown hk
          clear F6 N7
          k_steps
          unfold Halt
          (try k_fold)
          refine item_ints ⟨_, (N9' (Dn, _) (.tail _ (.tail _ (.tail _ mDn)))).1, rfl, _, rfl⟩ k1 (by (first | (law_clear; lia) | lia | omega)) (by rw [k2.1]; (first | (law_clear; lia) | lia | omega)) (by rw [k2.1]; decide) fun t5 => ?_
          k_steps
          unfold Halt
          (try k_fold)
          refine min_kp rfl ⟨_, (N9' (Ds, _) (.tail _ (.tail _ (.tail _ mDs)))).1, rfl, _, rfl⟩ hJ6 hpos fun h10 t6 tk10 kp10 => ?_
          have F10' := F9'.keeps kp10
          have N10' := N9'.grown kp10
          have hC2 := hC.at' fun o e => kp10 _ _ e
          clear F9' N9'
          k_steps
          · have hc : ql.nums.getD j 0 = minL (posL ql.nums) := by simpa only [Int.zero_add, Int.toNat_natCast] using (by assumption : ql.nums.getD (0 + (j : Int)).toNat 0 = _)
            exact ⟨h10, _, rfl, kp10, fun _ => by rw [rfilt_yes (decide_eq_true hc), cast_snoc, Int.zero_add]; exact ints_snoc hJ _ _⟩
          · have hc : ¬ ql.nums.getD j 0 = minL (posL ql.nums) := by simpa only [Int.zero_add, Int.toNat_natCast] using (by assumption : ¬ ql.nums.getD (0 + (j : Int)).toNat 0 = _)
            exact ⟨h10, _, rfl, kp10, fun _ => by rw [rfilt_no (decide_eq_false hc)]; exact hJ⟩
        case b3 =>
          intro Dg ys3 h10 tk10 hJ10 hT10 hD10 hge10 hk10
          have F7 := F6.keeps hk10
          obtain ⟨ns10, N8⟩ := plain_news (N7.grown hk10) F6 hk10 hD10 hge10
          clear F6 N7
          have hgn := givers_ne k2 hpos
          have htn := takers_ne k2 hfree
          have hg5 := giver_lt hgn
          have ht5 := taker_lt htn
          obtain ⟨tg, etg⟩ := ints_last hJ10 (giver_last hgn)
          k_steps
          unfold Halt
          (try k_fold)
          refine item_last ⟨_, (N8 _ (.head _)).1, rfl, _, rfl⟩ etg ?_
          replace N8 := newsSub N8 fun q hq => .tail _ hq
          k_steps
          unfold Halt
          (try k_fold)
          k_dflt (refine' compq_eval ?a1 ?a2 ?a3 ?a4 ?a5 ?_; (case a1 => exact rfl); (case a2 => decide); (case a3 => rfl); (case a4 => decide); (case a5 => rfl))
          k_steps
          unfold Halt
          (try k_fold)
          (rename Fr _ _ _ _ => F6)
          (rename News _ _ _ _ => N7)
          (rename IsRange _ _ _ _ _ _ _ _ => R6)
          refine CGo.intro ⟨5, (fun j v => ∃ t, v = .int (0 + (j : Int)) t ∧ _ ≤ t), (fun j ys _ => IntsAre ys (castL ((List.range j).filter fun c => decide (ql.nums.getD c 0 = maxL (freeL ql.nums))))), (by rw [sizeLine_eq]; (first | (law_clear; lia) | lia | omega)), SrcT.range rfl R6 (by decide) (by decide), (fun _ _ _ _ q _ => q), .nil, ?b2, ?b3⟩
          case b2 =>
            rintro j v ys h tk hj ⟨tj, rfl, htj⟩ hJ hT hk C m₂ hC hm₂ hCn
            refine CStep.one ?_
            have F9' := F6.keeps hk
            have N9' := N7.grown hk
            clear F6 N7
            k_steps
            unfold Halt
            (try k_fold)
            refine item_ints ⟨_, (N9' (Dn, _) (.tail _ (.tail _ (.tail _ mDn)))).1, rfl, _, rfl⟩ k1 (by (first | (law_clear; lia) | lia | omega)) (by rw [k2.1]; (first | (law_clear; lia) | lia | omega)) (by rw [k2.1]; decide) fun t5 => ?_
            k_steps
            unfold Halt
            (try k_fold)
            refine max_kp rfl ⟨_, (N9' (Df, _) (.tail _ (.tail _ (.tail _ mDf)))).1, rfl, _, rfl⟩ hJ7 hfree fun h11 t6 tk11 kp11 => ?_
            have F10' := F9'.keeps kp11
            have N10' := N9'.grown kp11
            have hC2 := hC.at' fun o e => kp11 _ _ e
            clear F9' N9'
            k_steps
            · have hc : ql.nums.getD j 0 = maxL (freeL ql.nums) := by simpa only [Int.zero_add, Int.toNat_natCast] using (by assumption : ql.nums.getD (0 + (j : Int)).toNat 0 = _)
              exact ⟨h11, _, rfl, kp11, fun _ => by rw [rfilt_yes (decide_eq_true hc), cast_snoc, Int.zero_add]; exact ints_snoc hJ _ _⟩
            · have hc : ¬ ql.nums.getD j 0 = maxL (freeL ql.nums) := by simpa only [Int.zero_add, Int.toNat_natCast] using (by assumption : ¬ ql.nums.getD (0 + (j : Int)).toNat 0 = _)
              exact ⟨h11, _, rfl, kp11, fun _ => by rw [rfilt_no (decide_eq_false hc)]; exact hJ⟩
          case b3 =>
            intro Dt ys4 h11 tk11 hJ11 hT11 hD11 hge11 hk11
            have F8 := F6.keeps hk11
            obtain ⟨ns11, N9⟩ := plain_news (N7.grown hk11) F6 hk11 hD11 hge11
            clear F6 N7
            have htl : (castL (takersL ql.nums)).length < 2 ^ 62 := by unfold castL takersL; rw [List.length_map]; have := List.length_filter_le (fun c => decide (ql.nums.getD c 0 = maxL (freeL ql.nums))) (List.range 5); rw [List.length_range] at this; (first | (law_clear; lia) | lia | omega)
            have htp : 0 < (castL (takersL ql.nums)).length := by unfold castL; rw [List.length_map]; exact List.length_pos_iff.mpr htn
            k_steps
            unfold Halt
            (try k_fold)
            refine item_ints ⟨_, (N9 _ (.head _)).1, rfl, _, rfl⟩ hJ11 (by (first | (law_clear; lia) | lia | omega)) (by show (0 : Int) < ((castL (takersL ql.nums)).length : Int); (first | (law_clear; lia) | lia | omega)) htl fun tt => ?_
            replace N9 := newsSub N9 fun q hq => .tail _ hq
            rw [show (castL ((List.range 5).filter fun c => decide (ql.nums.getD c 0 = maxL (freeL ql.nums)))).getD (0 : Int).toNat 0 = ((taker ql.nums : Nat) : Int) from taker_head htn]
            k_steps
            · (rename Fr _ _ _ _ => Fz)
              (rename News _ _ _ _ => Nz)
              have hgt : giver ql.nums = taker ql.nums := by have := (by assumption : ((giver ql.nums : Nat) : Int) = ((taker ql.nums : Nat) : Int)); (first | (law_clear; lia) | lia | omega)
              exact PLeave.intro Fz fun kp ht hz => hret _ _ _ (eg' ▸ kp) ht hz (hPost _ (newsSub Nz fun q hq => .tail _ (.tail _ (.tail _ (mrs q hq)))) (by unfold chainStep; rw [if_neg (not_or.mpr ⟨hpos, hfree⟩), if_pos (.inl hgt)]))
            unfold Halt
            (try k_fold)
            have hgt : giver ql.nums ≠ taker ql.nums := by have := (by assumption : ¬ ((giver ql.nums : Nat) : Int) = ((taker ql.nums : Nat) : Int)); (first | (law_clear; lia) | lia | omega)
            (rename News _ _ _ _ => N20)
            have hDn : ∀ h', News g' L' h' ((L' + 1 + 1 + 1, oF5) :: (L' + 1 + 1, oS5) :: (L' + 1, oN5) :: bg) → h'.IsList Dn ql.vals.toArray := fun h' N => ⟨_, (N (Dn, _) (.tail _ (.tail _ (.tail _ mDn)))).1, rfl, _, rfl⟩
            refine item_ints (hDn _ N20) k1 (by (first | (law_clear; lia) | lia | omega)) (by rw [k2.1]; (first | (law_clear; lia) | lia | omega)) (by rw [k2.1]; decide) fun t7 => ?_
            k_steps
            unfold Halt
            (try k_fold)
            (rename News _ _ _ _ => N21)
            refine item_ints (hDn _ N21) k1 (by (first | (law_clear; lia) | lia | omega)) (by rw [k2.1]; (first | (law_clear; lia) | lia | omega)) (by rw [k2.1]; decide) fun t8 => ?_
            k_steps
            · (rename Fr _ _ _ _ => Fz)
              (rename News _ _ _ _ => Nz)
              have hgv : ql.nums.getD (giver ql.nums) 0 > ql.nums.getD (taker ql.nums) 0 := by simpa only [Int.toNat_natCast] using (by assumption : ql.nums.getD ((giver ql.nums : Nat) : Int).toNat 0 > _)
              exact PLeave.intro Fz fun kp ht hz => hret _ _ _ (eg' ▸ kp) ht hz (hPost _ (newsSub Nz fun q hq => .tail _ (.tail _ (.tail _ (mrs q hq)))) (by unfold chainStep; rw [if_neg (not_or.mpr ⟨hpos, hfree⟩), if_pos (.inr hgv)]))
            have hgv : ¬ ql.nums.getD (giver ql.nums) 0 > ql.nums.getD (taker ql.nums) 0 := by simpa only [Int.toNat_natCast] using (by assumption : ¬ ql.nums.getD ((giver ql.nums : Nat) : Int).toNat 0 > _)
            have hmv : chainStep ql.nums = some (moved ql.nums) := by
              unfold chainStep
              rw [if_neg (not_or.mpr ⟨hpos, hfree⟩), if_neg (not_or.mpr ⟨hgt, hgv⟩)]
            unfold Halt
            (try k_fold)
            (rename Fr _ _ _ _ => F13)
            (rename News _ _ _ _ => N22)
            have hrn : ∀ q ∈ rs, @LT.lt Nat _ q.1 Dn := by
              intro q hq
              rw [ers] at hq
              rcases List.mem_cons.mp hq with rfl | hq
              · exact lDnC
              rcases List.mem_append.mp hq with hq | hq
              · obtain ⟨z, hz, rfl⟩ := List.mem_map.mp hq
                exact lDnc z hz
              · exact lDno q hq
            have N23 := newsSub (news' := (Dn, listOf ql.vals.toArray cDn) :: (L' + 1 + 1 + 1, oF5) :: (L' + 1 + 1, oS5) :: (L' + 1, oN5) :: rs) N22 (by
              intro q hq
              simp only [List.mem_cons] at hq ⊢
              rcases hq with h | h | h | h | h
              · exact .inr (.inr (.inr (h ▸ mDn)))
              · exact .inl h
              · exact .inr (.inl h)
              · exact .inr (.inr (.inl h))
              · exact .inr (.inr (.inr (mrs q h))))
            have nDn : ∀ q ∈ (L' + 1 + 1 + 1, oF5) :: (L' + 1 + 1, oS5) :: (L' + 1, oN5) :: rs, q.1 ≠ Dn := by
              intro q hq
              rcases (mc hq).imp_right fun h => (mc h).imp_right fun h => (mc h) with rfl | rfl | rfl | h
              · exact neN (by dsimp only; (first | (law_clear; lia) | lia | omega))
              · exact neN (by dsimp only; (first | (law_clear; lia) | lia | omega))
              · exact neN (by dsimp only; (first | (law_clear; lia) | lia | omega))
              · exact neN (by have := hrn q h; (first | (law_clear; lia) | lia | omega))
            clear N22
            refine get_ints ⟨_, (N23 _ (.head _)).1, rfl, _, rfl⟩ k1 (by (first | (law_clear; lia) | lia | omega)) (by rw [k2.1]; (first | (law_clear; lia) | lia | omega)) (by rw [k2.1]; decide) fun t9 => ?_
            k_steps
            unfold Halt
            (try k_fold)
            refine ksa_set F13 N23 (.head nDn) k1 (by (first | (law_clear; lia) | lia | omega)) (by rw [k2.1]; (first | (law_clear; lia) | lia | omega)) (by (first | (law_clear; lia) | lia | omega)) fun h14 F14 N24 k8 _ _ => ?_
            clear F13 N23
            k_steps
            unfold Halt
            (try k_fold)
            (rename Fr _ _ _ _ => F15)
            (rename News _ _ _ _ => N25)
            have e8 : ∀ x : Int, (ql.nums.set ((giver ql.nums : Nat) : Int).toNat x).length = 5 := fun x => by rw [List.length_set]; exact k2.1
            refine get_ints ⟨_, (N25 _ (.head _)).1, rfl, _, rfl⟩ k8 (by (first | (law_clear; lia) | lia | omega)) (by rw [e8]; (first | (law_clear; lia) | lia | omega)) (by rw [e8]; decide) fun t10 => ?_
            k_steps
            unfold Halt
            (try k_fold)
            refine ksa_set F15 N25 (.head nDn) k8 (by (first | (law_clear; lia) | lia | omega)) (by rw [e8]; (first | (law_clear; lia) | lia | omega)) (by (first | (law_clear; lia) | lia | omega)) fun h16 F16 N26 k9 _ _ => ?_
            clear F15 N25
            have N27 := news_dc N26 ers
            clear N26
            k_steps
            unfold Halt
            (try k_fold)
            (rename Fr _ _ _ _ => F17)
            (rename News _ _ _ _ => N28)
            obtain ⟨VF, kV, N29⟩ : ∃ VF, IntsAre VF (moved ql.nums) ∧ News g' L' h16 ((DC, listOf (refsOf ch).toArray cc) :: (Dn, listOf VF.toArray cDn) :: (L' + 1 + 1 + 1, oF5) :: (L' + 1 + 1, oS5) :: (L' + 1, oN5) :: (ch.map CE.obj ++ own)) := ⟨_, k9, N28⟩
            clear N28 k9 k8
            have nDC : ∀ q ∈ (Dn, listOf VF.toArray cDn) :: (L' + 1 + 1 + 1, oF5) :: (L' + 1 + 1, oS5) :: (L' + 1, oN5) :: (ch.map CE.obj ++ own), q.1 ≠ DC := by
              intro q hq
              rcases (mc hq).imp_right fun h => (mc h).imp_right fun h => (mc h).imp_right fun h => (mc h) with rfl | rfl | rfl | rfl | h
              · exact neN (by dsimp only; (first | (law_clear; lia) | lia | omega))
              · exact neN (by dsimp only; (first | (law_clear; lia) | lia | omega))
              · exact neN (by dsimp only; (first | (law_clear; lia) | lia | omega))
              · exact neN (by dsimp only; (first | (law_clear; lia) | lia | omega))
              · rcases List.mem_append.mp h with h | h
                · obtain ⟨z, hz, rfl⟩ := List.mem_map.mp h
                  exact (j2 z hz).2.2.2
                · exact neN (by have := bO q h; (first | (law_clear; lia) | lia | omega))
            refine append_K F17 N29 (.head nDC) ?ap1 ?ap2
            case ap2 => (rw [sizeLine_eq, List.size_toArray]; unfold refsOf; rw [List.length_map]; (first | (law_clear; lia) | lia | omega))
            intro h18 F18 N30
            clear F17 N29
            obtain ⟨qn, eqn⟩ : ∃ qn : CE, qn = ⟨Dn, VF, moved ql.nums, cDn⟩ := ⟨_, rfl⟩
            rw [show (refsOf ch).toArray.push (Value.ref Dn) = (refsOf (ch ++ [qn])).toArray by unfold refsOf; rw [eqn]; simp] at N30
            k_steps
            unfold Halt
            (try k_fold)
            refine FEnd.intro (ch ++ [qn], cc + 1, oF5, oS5, oN5) (by assumption) N30 (fun q hq => .tail _ (.tail _ (.tail _ (.tail _ (.tail _ (mem_r hq)))))) ?_ (by kst_all) fun _ => ⟨chain_next j1 (hl3 ▸ hmv) qn (congrArg CE.nums eqn), ?_, ⟨_, dF5⟩, ⟨_, dS5⟩, ⟨_, d5⟩⟩
            · intro q hq
              simp only [List.mem_cons, List.map_append, List.mem_append, List.map_cons, List.map_nil, List.not_mem_nil, or_false] at hq
              rcases hq with rfl | rfl | rfl | rfl | h | rfl
              · exact ⟨.tail _ (.tail _ (.head _)), hw2 (L' + 1 + 1 + 1, oF) (.head _)⟩
              · exact ⟨.tail _ (.tail _ (.tail _ (.head _))), hw2 (L' + 1 + 1, oS) (.tail _ (.head _))⟩
              · exact ⟨.tail _ (.tail _ (.tail _ (.tail _ (.head _)))), hw2 (L' + 1, oN) (.tail _ (.tail _ (.head _)))⟩
              · exact ⟨.head _, hw2 (DC, listOf (refsOf ch).toArray cc) (.tail _ (.tail _ (.tail _ (.head _))))⟩
              · exact ⟨.tail _ (.tail _ (.tail _ (.tail _ (.tail _ (mem_l h))))), hw2 q (.tail _ (.tail _ (.tail _ (.tail _ h))))⟩
              · rw [eqn]
                refine ⟨.tail _ (.head _), fun hw => ?_⟩
                obtain ⟨o, ho⟩ := hb2.2.2 _ hw
                exact Nat.lt_irrefl _ (lDno (Dn, o) ho)
            · intro q hq
              rcases List.mem_append.mp hq with hq | hq
              · exact j2 q hq
              · rw [List.mem_singleton.mp hq, eqn]
                exact ⟨kV, five_moved k2 hpos hfree hgt, Nat.lt_trans (hrs _ mDC) lDnC, Nat.ne_of_gt lDnC⟩
  case done =>
    rintro ⟨ch, cc, oF, oS, oN⟩ m₁ h tk hJ hT F2 N2
    obtain ⟨j1, j2, ⟨vF, dF⟩, ⟨vS, dS⟩, ⟨vN, dN⟩⟩ := hJ
    dsimp only at F2 N2 j1 j2 dF dS dN hT
    k_steps
    (rename Fr _ _ _ _ => Fz)
    (rename News _ _ _ _ => Nz)
    have ehp : g' = hp := eg'.trans hpre.2
    (try dsimp only)
    exact PLeave.intro Fz fun kp ht hz => hret _ _ _ (eg' ▸ kp) ht hz ⟨DC, ch, cc, rfl, (Nz (DC, listOf (refsOf ch).toArray cc) (.tail _ (.tail _ (.tail _ (.head _))))).1, ehp ▸ (Nz (DC, listOf (refsOf ch).toArray cc) (.tail _ (.tail _ (.tail _ (.head _))))).2.2, j1, fun q hq => ⟨(j2 q hq).1, (j2 q hq).2.1, (Nz q.obj (.tail _ (.tail _ (.tail _ (.tail _ (List.mem_map_of_mem hq)))))).1, ehp ▸ (Nz q.obj (.tail _ (.tail _ (.tail _ (.tail _ (List.mem_map_of_mem hq)))))).2.2⟩⟩
end
section
section
variable {prog : Program} {w : World} {s : Shared} {K : Frag} {mg mb : Str → Option Value} {p : Program} {loose : List Str} {mean : ExcName → Option Value} {tabs : List (Addr × Addr)}
/-- entering the law from the top, its code tables laid aside -/
theorem enterTop {R : Result → Shared → Prop} {name qual : Str} {params : Arguments} {body : List Stmt} {scope : Scope} {dV kV doc pm cdv ct oc : Value} {an od : Option Addr} {osl : Array (Option Value)} {f : Addr} {pos : List Value} {kw : List (Str × Value)} {binds : List (Str × Value)}
    (X₀ : K.In s.heap) (T : Top p loose mean mg mb s.heap) (hT : TabsAt tabs s.heap) (hn : noTabs K = true)
    (ho : K.lookup f = some ⟨oc, od, .func (fnOf name qual params body scope dV kV doc pm an cdv ct), osl⟩) (hcd : codeIn K cdv qual = true)
    (hbind : BindsTo s (fnOf name qual params body scope dV kV doc pm an cdv ct) ⟨pos, kw⟩ binds)
    (hkind : (binds.all fun y => scope.names.lookup y.1 == some .local || scope.names.lookup y.1 == some .cell) = true) (hnd : ((cellsFrom 0 scope.names []).map (·.1)).Nodup)
    (h : ∀ g L' h₁ tk cells, g = ghostOf s.heap tabs → s.toks ≤ tk → Fr g L' h₁ (bindL (envOfC qual scope L' f cdv).kindOf binds fun _ => none) → News g L' h₁ (tabNews tabs ++ cells) → CellsAre (bindC (envOfC qual scope L' f cdv).kindOf binds fun _ => none) (cellsFrom (L' + 1) scope.names []) cells →
      (∀ q ∈ tabNews tabs, q.1 < L') → Below callerA g [] g → K.In g → Top topProg (loose ++ (recsOf p).map (·.name) ++ (litsOf p).map (·.1) ++ (clssOf p loose).map (·.name)) mean mg mb g →
      wpAny (model prog w) (callerA.deeper (envOfC qual scope L' f cdv)) (execs body (envOfC qual scope L' f cdv))
        (fun fl s' => R (.ok (.ret (match fl with | .ret v => v | _ => .none))) s') (fun _ _ => False) { s with heap := h₁, toks := tk })
    (hco : scope.isCoroutine = false) (hgen : scope.isGenerator = false) (hk : scope.kind = .function) : codeAny (model prog w) callerA (.call (.ref f) ⟨pos, kw⟩) R s := by
  refine codeAny_call_function (show callerA.depth < recursionLimit by decide) (X₀ _ _ ho) rfl hco hgen rfl (codeRec_of X₀ hcd) (hbind _ _ _ _ ?_)
  refine wpAny_toks (wpAny_newFunctionEnv_cells hk (kindsX hkind _) fun env' he s' x htk => ?_)
  subst he
  refine ⟨(T.nolimit).keeps x.toInCall.keep, codeAny_func ?_⟩
  obtain ⟨h₁, tk, rfl, _⟩ := x.done
  have hk₁ := x.toInCall.keep
  obtain ⟨cells, NC, Y⟩ := Cl.news (h₀ := s.heap) (Nat.le_refl _) fun n c hm => ⟨x.cell n c (lookup_of_mem_nodup (cellsFrom_names scope.names 0 (s.heap.objs.size + 1) [] [] rfl ▸ hnd) hm), x.above n c hm⟩
  have F : Fr s.heap s.heap.objs.size h₁ _ := ⟨x.toInCall.ns, hk₁, Nat.le_refl _⟩
  refine wpAny_mono (h (ghostOf s.heap tabs) s.heap.objs.size h₁ tk cells rfl htk (ghost_fr hT F) (newsSub (ghost_news hT F NC) fun q hq => ?_) Y (ghost_lt hT F) (ghost_below hT) (ghost_K hT X₀ hn) (ghost_top hT T)) (fun _ _ x => x) fun _ _ x => x.elim
  exact (List.mem_append.mp hq).elim mem_r mem_l
end
end
section
open Builtin.Str (spaceWords)
section
variable {α : Type} {M : Model} {A : Around} {E : Value → Shared → Prop} {Q : α → Shared → Prop} {t : Sem α}
theorem tok_genP {S : Shared} {a : Heap} {b : Array GenState} {c : Drawn} {d : OsState} (h : ∀ tk, S.toks ≤ tk → wpAny M A t Q E { heap := a, gens := b, drawn := c, toks := tk, os := d }) : wpAny M A t Q E { heap := a, gens := b, drawn := c, toks := Shared.toks S, os := d } := h _ (Nat.le_refl _)
end
section
variable {prog : Program} {w : World} {A : Around} {E : Value → Shared → Prop} {s : Shared} {h₀ : Heap} {L : Addr} {m : Str → Option Value} {news : List (Addr × Obj)}
theorem sumT {l : Addr} {vs : List Value} {ns : List Int} {Q : Value → Shared → Prop} (hh : A.handled = none) (F : Fr h₀ L s.heap m) (N : News h₀ L s.heap news) (hl : s.heap.IsList l vs.toArray) (hi : IntsAre vs ns)
    (h : ∀ h' tk t', s.toks ≤ tk → Fr h₀ L h' m → News h₀ L h' news → Q (.int ns.sum t') { s with heap := h', toks := tk }) :
    wpAny (model prog w) A (call (.builtin "sum") [.ref l]) Q E s :=
  wpAny_toks (sumK hh F N hl hi fun h' tk t' F' N' hle => h h' tk t' hle F' N')
end
theorem ints_all : ∀ {l : List Value}, (∀ v ∈ l, ∃ n t, v = Value.int n t) → ∃ ns, IntsAre l ns
  | [], _ => ⟨[], .nil⟩
  | v :: l, h => by
    obtain ⟨n, t, rfl⟩ := h v (.head _)
    obtain ⟨ns, hn⟩ := ints_all fun x hx => h x (.tail _ hx)
    exact ⟨n :: ns, .cons n t hn⟩
theorem ints_mem {vs : List Value} {ns : List Int} (h : IntsAre vs ns) : ∀ v ∈ vs, ∃ n t, v = Value.int n t := by
  induction h with
  | nil => intro v hv; cases hv
  | cons i u _ ih =>
    intro v hv
    rcases List.mem_cons.mp hv with rfl | hv
    · exact ⟨i, u, rfl⟩
    · exact ih v hv
theorem pick_ints {vs : List Value} {ns : List Int} (h : IntsAre vs ns) (lo hi st : Option Int) : ∃ ms, IntsAre (slicePick vs.toArray lo hi st).toList ms := by
  refine ints_all fun v hv => ints_mem h v ?_
  unfold slicePick at hv
  simp only [List.mem_filterMap] at hv
  obtain ⟨i, _, e⟩ := hv
  have : vs[i]? = some v := by simpa using e
  exact List.mem_of_getElem? this
/-- x.split(), the tokens new -/
theorem split0_tok {prog : Program} {w : World} {A : Around} {E : Value → Shared → Prop} {s : Shared} {h₀ : Heap} {L : Addr} {m : Str → Option Value} {news : List (Addr × Obj)} {x : Str} {t : Tok} {Q : Value → Shared → Prop} (hF : Fr h₀ L s.heap m) (hN : News h₀ L s.heap news) (hw : (spaceWords x (x.length + 1) == [(0, x.length)]) = false)
    (h : ∀ D l h' k, l.map (·.1) = Txt.words x → s.toks ≤ k → (∀ p ∈ l, s.toks ≤ p.2 ∧ p.2 < k) → Fr h₀ L h' m → News h₀ L h' ((D, W.listOf (strValues l).toArray 0) :: news) → (∀ p ∈ news, p.1 < D) → Q (.ref D) { s with heap := h', toks := k })
    (hsz : x.length ≤ sizeLine) (hsz2 : (spaceWords x (x.length + 1)).length ≤ sizeLine) : wpAny (model prog w) A (call (.builtin "str.split") [.str x t]) Q E s := by
  have hlt : ∀ p ∈ news, p.1 < s.heap.objs.size := fun p hp => Heap.lt_size (hN p hp).1
  refine call_meets F.slot_str_split (typeIs_str _ _ _) F.entry_str_split (F.args_str_split_1 _) (meets_str_split_space x t hsz hsz2) ?_
  simp only [hw, Bool.false_eq_true, if_false]
  rw [strsFrom_eq]
  exact h _ (numbered s.toks (PySem.wordsOf x)) _ _ ((numbered_texts _ _).trans (if_neg (ne_true_of_eq_false hw)).symm) (Nat.le_add_right _ _) (fun p hp => ⟨numbered_ge _ _ p hp, by have := numbered_lt _ _ p hp; simpa [PySem.wordsOf] using this⟩) (Fr.pushS hF _) (News.push hF hN _) hlt
theorem fmod_nat (x : Int) (m : Nat) (hm : 0 < m) : ∃ n : Nat, n < m ∧ x.fmod (m : Int) = (n : Int) := by
  rw [Int.fmod_eq_emod_of_nonneg _ (Int.natCast_nonneg m)]
  have h1 := Int.emod_nonneg x (show (m : Int) ≠ 0 by (first | lia | omega))
  have h2 := Int.emod_lt_of_pos x (show (0 : Int) < (m : Int) by (first | lia | omega))
  exact ⟨(x % (m : Int)).toNat, by (first | lia | omega), by (first | lia | omega)⟩
def namesLit : Str := "OPTIMIZED NEWLOCALS VARARGS VARKEYWORDS NESTED GENERATOR NOFREE COROUTINE ITERABLE_COROUTINE ASYNC_GENERATOR"
theorem names_words : Txt.words namesLit = flagNames := by decide +kernel
theorem names_one : (spaceWords namesLit (namesLit.length + 1) == [(0, namesLit.length)]) = false := by decide +kernel
theorem names_len : namesLit.length ≤ 200 ∧ (spaceWords namesLit (namesLit.length + 1)).length ≤ 200 := by decide +kernel
theorem fmod8 (d : Nat) : (d : Int).fmod 8 = ((d % 8 : Nat) : Int) := by
  rw [Int.fmod_eq_emod_of_nonneg _ (by decide)]; (first | lia | omega)
theorem fdiv8 (d : Nat) : (d : Int).fdiv 8 = ((d / 8 : Nat) : Int) := by
  rw [Int.fdiv_eq_ediv_of_nonneg _ (by decide)]; (first | lia | omega)
def tokIn (lo hi : Nat) (t : Nat) : Prop := lo ≤ t ∧ t < hi
theorem tokIn.up {lo hi hi' t : Nat} (h : tokIn lo hi t) (l : hi ≤ hi') : tokIn lo hi' t := ⟨h.1, Nat.lt_of_lt_of_le h.2 l⟩
theorem isSeq_iadd : isSeqSlot (some (.builtin "list.__iadd__")) = true := by decide +kernel
section
variable {prog : Program} {w : World} {A : Around} {E : Value → Shared → Prop} {s : Shared} {h₀ : Heap} {L : Addr} {m : Str → Option Value}
theorem iadd_call {a b : Value} {Q : Value → Shared → Prop} (ha : s.TypeIs a "list") (hb : s.TypeIs b "list") (hc : wpAny (model prog w) A (call (.builtin "list.__iadd__") [a, b]) Q E s) : wpAny (model prog w) A (inplaceOp .Add a b) Q E s := by
  unfold inplaceOp
  refine wpAny_holding ?_
  have hfi : fillsInplaceSlot (.type "list") "add" (Operator.Add == .Add) = pure false := by
    unfold fillsInplaceSlot
    show (typeLookup (.type "list") (dunderI "add") >>= fun fi => pure (fi.isSome && !isSeqSlot fi)) = pure false
    rw [F.slot_list_iadd.lookup]
    show (pure (!isSeqSlot (some (.builtin "list.__iadd__"))) : Sem Bool) = pure false
    rw [isSeq_iadd]; rfl
  have hsi : seqSlot? (.type "list") (dunderI "add") = pure (some (.builtin "list.__iadd__")) := PySem.seqSlot_of F.slot_list_iadd.lookup isSeq_iadd
  refine wpAny_bind (wpAny_typeOf ha (wpAny_bind (wpAny_of_eq hfi ?_)))
  show wpAny _ A (if false = true then _ else _) Q E s
  rw [if_neg Bool.false_ne_true]
  refine wpAny_bind (wpAny_binaryOp1_none (nm := "add") ha hb noFill_list_add ?_)
  refine wpAny_bind (wpAny_of_eq hsi ?_)
  exact wpAny_bind (wpAny_rule hc)
/-- l += r, two lists of the ledger -/
theorem iadd_lists {l r : Addr} {vs ws : List Value} {n n2 : Nat} {rest : List (Addr × Obj)} {Q : Value → Shared → Prop} (F : Fr h₀ L s.heap m) (N : News h₀ L s.heap ((l, W.listOf vs.toArray n) :: rest)) (hr : (r, W.listOf ws.toArray n2) ∈ rest) (hne : ∀ q ∈ rest, q.1 ≠ l) (hsz : vs.length + ws.length ≤ 1000) (hw : 0 < ws.length)
    (h : ∀ h' n', Fr h₀ L h' m → News h₀ L h' ((l, W.listOf (vs ++ ws).toArray n') :: rest) → Q (.ref l) { s with heap := h' }) : wpAny (model prog w) A (inplaceOp .Add (.ref l) (.ref r)) Q E s := by
  have z := N _ (.head _)
  have zr := N _ (.tail _ hr)
  refine iadd_call ⟨_, z.1, rfl⟩ ⟨_, zr.1, rfl⟩ ?_
  refine call_meets PySem.F.slot_list_iadd ⟨_, z.1, rfl⟩ PySem.F.entry_list_iadd (PySem.F.args_list_iadd_2 _ _) (PySem.AutoSeq1.list___iadd___list_list_0 l vs.toArray n r ws.toArray n2 ?_ ?_ ?_) ⟨z.1, zr.1, ?_⟩
  · intro q
    simp only [Bool.and_eq_true, Builtin.List.listTooLong, decide_eq_true_eq, List.size_toArray] at q
    have := q.2
    rw [sizeLine_eq] at this
    (first | lia | omega)
  · rw [sizeLine_eq, List.size_toArray]; (first | lia | omega)
  · rw [sizeLine_eq, List.size_toArray, List.size_toArray]; (first | lia | omega)
  · refine h _ (n + 1) (F.change (Heap.SameBut.update ..) z.2.1 z.2.2) ?_
    exact kl_turn (pre := []) (fun x => x ++ ws.toArray) N (fun q hq => by cases hq) hne (by simp) (by simp only [List.size_toArray, List.length_append]; (first | lia | omega))
end
theorem news_swap2 {g h : Heap} {L : Addr} {a b c d : Addr × Obj} {r : List (Addr × Obj)} (N : News g L h (a :: b :: c :: d :: r)) : News g L h (b :: a :: r) := newsSub N (by
  intro q hq
  simp only [List.mem_cons] at hq ⊢
  rcases hq with h | h | h <;> simp only [h, true_or, or_true])
theorem news_fresh {g hp h : Heap} {L a : Addr} {m : Str → Option Value} {o : Obj} (F : Fr g L hp m) (hn : hp.get? a = none) (he : h.get? a = some o) : ∀ {r : List (Addr × Obj)}, News g L h r → News g L h ((a, o) :: r) := fun N q hq => by
  rcases List.mem_cons.mp hq with rfl | hq
  · refine ⟨he, fun e => ?_, ?_⟩
    · obtain ⟨o', es, k, e', _⟩ := F.ns
      have e2 : hp.get? L = none := by rw [← e]; exact hn
      rw [e'] at e2; cases e2
    · cases hg : g.get? a with
      | none => rfl
      | some x => rw [F.keep _ _ hg] at hn; cases hn
  · exact N q hq
theorem fresh_lt {h : Heap} {a b : Addr} {o : Obj} (e : h.get? b = some o) (hn : h.get? a = none) : a ≠ b := fun q => by rw [q, e] at hn; cases hn
theorem tok_lnm {a b c p : Nat} (h : a ≤ p ∧ p < b) (h1 : 450 ≤ a) (h2 : b ≤ c) : 450 ≤ p ∧ p < c := by (first | lia | omega)
theorem bit_iff (t j : Nat) : Builtin.bitAnd ((t : Int).fdiv (2 ^ (0 + (j : Int)).toNat)) 1 = 1 ↔ t.testBit j = true := by
  rw [show (0 + (j : Int)).toNat = j by (first | lia | omega), fdiv_nat, show (1 : Int) = ((1 : Nat) : Int) from rfl, bAnd, Nat.and_one_is_mod, Nat.testBit_eq_decide_div_mod_eq, decide_eq_true_eq]
  (first | lia | omega)
theorem room_law (env : Env) : (callerA.deeper env).units + 64 < cLine := by
  show (4 + _) + 64 < cLine
  decide
theorem compq_evalCT {prog : Program} {w : World} {A : Around} {E : Value → Shared → Prop} {s : Shared} {env : Env} {elt iter : PySem.Expr} {x : Str} {px : Pos} {ifs : List PySem.Expr} {scope : Scope} {cl : List (Str × Addr)} {pos : Pos} {Q : Value → Shared → Prop} (pre post : List (Str × NameKind))
    (hclos : closureFor scope env = pure cl) (hsp : scope.names = pre ++ (x, .cell) :: post) (h1 : ∀ y ∈ pre, y.2 ≠ .cell) (h2 : ∀ y ∈ post, y.2 ≠ .cell) (hkind : scope.kind = .function)
    (hnames : ∀ y ∈ scope.names, y.2 = .local → scope.names.lookup y.1 = some .local) (hx : scope.names.lookup x = some .cell)
    (h : wpAny (model prog w) A (eval iter env) (fun xv s₁ => s.toks ≤ s₁.toks → Halt (CGo prog w A xv s₁ (fun J i v ys h tk => ∀ C c, h.IsCell c (some v) → (∃ m, h.Ns C m) → s₁.heap.get? C = none → s₁.heap.get? c = none → CStep prog w A (compEnvC scope ((x, c) :: cl) C env) elt ifs s₁ (J (i + 1)) ys h tk) Q)) E s)
    (hs : ∀ x, foldedSetIterable iter env x = pure x := by intro _; rfl) :
    wpAny (model prog w) A (eval (.ListComp elt [⟨.Name x px, iter, ifs, 0⟩] scope pos) env) Q E s :=
  compq_evalC pre post hclos hsp h1 h2 hkind hnames hx (wpAny_toks (wpAny_mono h (fun _ _ x => x) fun _ _ x _ => x)) hs
def rowD (zs : List Int) (i : Nat) : Int := ((zs.filter fun z => decide (z.fdiv 5 = 0 + (i : Int))).length : Int)
def colD (zs : List Int) (c : Nat) : Int := ((zs.filter fun z => decide (z.fmod 5 = 0 + (c : Int))).length : Int)
section
variable {M : Model} {A : Around} {E : Value → Shared → Prop} {s : Shared} {env : Env} {x : Str} {pos : Pos} {v : Value} {Q : Value → Shared → Prop}
theorem nameN_loc {C : Addr} {m : Str → Option Value} (hN : s.heap.Ns C m) (hm : m x = some v) (hC : env.locals = C) (hx : env.kindOf x = some .local) (hk : env.scope.kind = .function) (h : Q v s) (hb : (x == ("__debug__" : Str)) = false := by decide) : wpAny M A (eval (.Name x pos) env) Q E s := by
  subst hC
  exact wpAny_Name (wpAny_loadName_local hk hx hN hm h) hb
theorem nameN_cell {c : Addr} (hI : s.heap.IsCell c (some v)) (hc : env.cells.lookup x = some c) (hx : env.kindOf x = some .cell) (hk : env.scope.kind = .function) (h : Q v s) (hb : (x == ("__debug__" : Str)) = false := by decide) : wpAny M A (eval (.Name x pos) env) Q E s :=
  wpAny_Name (wpAny_loadName_cell hk hx hc hI h) hb
theorem nameN_free {c : Addr} (hI : s.heap.IsCell c (some v)) (hc : env.cells.lookup x = some c) (hx : env.kindOf x = some .free) (hk : env.scope.kind = .function) (h : Q v s) (hb : (x == ("__debug__" : Str)) = false := by decide) (hn : (x == ("__classdict__" : Str)) = false := by decide) : wpAny M A (eval (.Name x pos) env) Q E s :=
  wpAny_Name (wpAny_loadName_free hk hx hc hI h hn) hb
end
theorem row_same (zs : List Int) (i : Nat) : rowC zs i = rowD zs i := by
  unfold rowC rowD
  induction zs with
  | nil => rfl
  | cons z zs ih =>
    simp only [List.countP_cons, List.filter_cons, decide_eq_true_eq]
    have e : z.fdiv 5 = z / 5 := Int.fdiv_eq_ediv_of_nonneg _ (by decide)
    rw [e]
    by_cases h1 : z < 5 * (0 + (i : Int)) + 5
    · by_cases h2 : z < 5 * (0 + (i : Int))
      · rw [if_pos h1, if_pos h2, if_neg (by (first | lia | omega))]; (first | lia | omega)
      · rw [if_pos h1, if_neg h2, if_pos (by (first | lia | omega)), List.length_cons]; (first | lia | omega)
    · rw [if_neg h1, if_neg (by (first | lia | omega)), if_neg (by (first | lia | omega))]; (first | lia | omega)
theorem col_same (zs : List Int) (c : Nat) : colC zs c = colD zs c := by
  unfold colC colD
  induction zs with
  | nil => rfl
  | cons z zs ih =>
    simp only [List.map_cons, List.count_cons, List.filter_cons, decide_eq_true_eq, beq_iff_eq]
    split
    · rw [List.length_cons]; (first | lia | omega)
    · (first | lia | omega)
theorem rows_same (zs : List Int) : (List.range 5).map (rowC zs) = (List.range 5).map (rowD zs) := List.map_congr_left fun i _ => row_same zs i
theorem cols_same (zs : List Int) : (List.range 5).map (colC zs) = (List.range 5).map (colD zs) := List.map_congr_left fun i _ => col_same zs i
def pairD (ns1 ns2 : List Int) : PyData := .tuple [.list (ns1.map PyData.int), .list (ns2.map PyData.int)]
theorem pair_shaped (ns1 ns2 : List Int) : SeqAt.shaped (pairD ns1 ns2) = true := by
  simp [pairD, SeqAt.shaped, PyData.canLay0, PyData.canLayAll0, PyData.depth, PyData.depthAll, ke_canLayAll0, ke_depthAll]
theorem pair_same (ns1 ns2 : List Int) : PySem.Spec.same (pairD ns1 ns2) (pairD ns1 ns2) = true := by
  simp [pairD, PySem.Spec.same, PySem.Spec.sameAll, ke_sameAll]
theorem pair_has (ns1 ns2 : List Int) : (PySem.Spec.Shape.tuple [.list .int, .list .int]).has (pairD ns1 ns2) = true := by
  have e1 : (PySem.Spec.Shape.list .int).has (.list (ns1.map PyData.int)) = true := list_map_has fun _ => rfl
  have e2 : (PySem.Spec.Shape.list .int).has (.list (ns2.map PyData.int)) = true := list_map_has fun _ => rfl
  show PySem.Spec.Shape.hasAll [.list .int, .list .int] [.list (ns1.map PyData.int), .list (ns2.map PyData.int)] = true
  simp only [PySem.Spec.Shape.hasAll, Bool.and_eq_true, List.isEmpty_nil]
  exact ⟨e1, e2, trivial⟩
theorem ne_pairs {prog : Program} {w : World} {A : Around} {E : Value → Shared → Prop} {s : Shared} {ta tb a1 a2 b1 b2 : Addr} {xs1 xs2 ys1 ys2 : List Value} {ns1 ns2 : List Int} {Q : Value → Shared → Prop}
    (h1 : s.heap.get? ta = some { cls := .type "tuple", data := .seq #[.ref a1, .ref a2] }) (h2 : s.heap.get? tb = some { cls := .type "tuple", data := .seq #[.ref b1, .ref b2] })
    (l1 : s.heap.IsList a1 xs1.toArray) (l2 : s.heap.IsList a2 xs2.toArray) (m1 : s.heap.IsList b1 ys1.toArray) (m2 : s.heap.IsList b2 ys2.toArray)
    (i1 : IntsAre xs1 ns1) (i2 : IntsAre xs2 ns2) (j1 : IntsAre ys1 ns1) (j2 : IntsAre ys2 ns2) (hu : A.units + 64 < cLine) (h : Q (.bool false) s) : wpAny (model prog w) A (compareOp .NotEq (.ref ta) (.ref tb)) Q E s := by
  have r1 : Reads s.heap (.ref ta) (pairD ns1 ns2) _ := .tuple h1 rfl rfl (.cons (reads_newData l1 (ke_carried i1)) (.cons (reads_newData l2 (ke_carried i2)) .nil))
  have r2 : Reads s.heap (.ref tb) (pairD ns1 ns2) _ := .tuple h2 rfl rfl (.cons (reads_newData m1 (ke_carried j1)) (.cons (reads_newData m2 (ke_carried j2)) .nil))
  refine ne_dataH_same r1 r2 (pair_shaped _ _) (pair_shaped _ _) hu ?_ (by rw [pair_same]; exact h)
  have e := pair_has ns1 ns2
  exact SeqAt.noMix_of_shape (.tuple [.list .int, .list .int]) rfl _ _ e e
theorem news_many {g hp h : Heap} {L : Addr} {m : Str → Option Value} {r : List (Addr × Obj)} (F : Fr g L hp m) (N : News g L h r) : ∀ {ch : List CE}, (∀ q ∈ ch, h.get? q.adr = some (W.listOf q.vals.toArray q.cap) ∧ hp.get? q.adr = none) → News g L h (ch.map CE.obj ++ r)
  | [], _ => N
  | q :: ch, h => news_fresh F (h q (.head _)).2 (h q (.head _)).1 (news_many F N fun z hz => h z (.tail _ hz))
end
section
theorem sum5le {a1 a2 a3 a4 a5 b1 b2 b3 b4 b5 : Nat} (h1 : a1 ≤ b1) (h2 : a2 ≤ b2) (h3 : a3 ≤ b3) (h4 : a4 ≤ b4) (h5 : a5 ≤ b5) : a1 + a2 + a3 + a4 + a5 ≤ b1 + b2 + b3 + b4 + b5 :=
  Nat.add_le_add (Nat.add_le_add (Nat.add_le_add (Nat.add_le_add h1 h2) h3) h4) h5
theorem sum5add (a1 a2 a3 a4 a5 b1 b2 b3 b4 b5 : Nat) : (a1 + b1) + (a2 + b2) + (a3 + b3) + (a4 + b4) + (a5 + b5) = (a1 + a2 + a3 + a4 + a5) + (b1 + b2 + b3 + b4 + b5) := by
  rw [Nat.add_add_add_comm a1, Nat.add_add_add_comm (a1 + a2), Nat.add_add_add_comm (a1 + a2 + a3), Nat.add_add_add_comm (a1 + a2 + a3 + a4)]
theorem sub_b {x v z : Nat} (h : x ≤ v) : x - v ≤ z := Nat.le_trans (Nat.le_of_eq (Nat.sub_eq_zero_of_le h)) (Nat.zero_le _)
theorem sub_c {x o v : Nat} (h : o ≤ 1) : x + o - (v + 1) ≤ x - v := Nat.le_trans (Nat.sub_le_sub_right (Nat.add_le_add_left h x) (v + 1)) (Nat.le_of_eq (Nat.add_sub_add_right x 1 v))
theorem sub_d {x d v : Nat} (h : d = 0 ∨ v ≤ x) : (x - v) + d = x + d - v := by
  rcases h with rfl | h
  · rfl
  · exact (Nat.sub_add_comm h).symm
theorem sub_e (x o v : Nat) : x + o - v ≤ (x - v) + o := Nat.sub_le_of_le_add (Nat.le_trans (Nat.add_le_add_right (Nat.le_add_of_sub_le (Nat.le_refl (x - v))) o) (Nat.le_of_eq (Nat.add_right_comm _ _ _)))
theorem five_cases {a : Nat} (h : a < 5) : (a = 0 ∨ a = 1) ∨ a = 2 ∨ a = 3 ∨ a = 4 := by
  match a, h with
  | 0, _ => exact .inl (.inl rfl)
  | 1, _ => exact .inl (.inr rfl)
  | 2, _ => exact .inr (.inl rfl)
  | 3, _ => exact .inr (.inr (.inl rfl))
  | 4, _ => exact .inr (.inr (.inr rfl))
theorem zero_or {d : Nat} (h : d ≤ 1) (e : d ≠ 1) : d = 0 := Nat.lt_one_iff.mp (Nat.lt_of_le_of_ne h e)
theorem at_sum : ∀ a, a < 5 → (if 0 = a then 1 else 0) + (if 1 = a then 1 else 0) + (if 2 = a then 1 else 0) + (if 3 = a then 1 else 0) + (if 4 = a then 1 else 0) = 1 := by decide
def wz (w : List Int) (c : Nat) : Nat := (w.getD c 0).toNat
/-- what five numbers have above v, together -/
def exc (f : Nat → Nat) (v : Nat) : Nat := (f 0 - v) + (f 1 - v) + (f 2 - v) + (f 3 - v) + (f 4 - v)
def cnt : List Nat → Nat → Nat
  | [], _ => 0
  | r :: rs, j => cnt rs j + if j ≤ r then 1 else 0
def gx (rs : List Nat) (v : Nat) : Nat := (cnt rs 1 - v) + (cnt rs 2 - v) + (cnt rs 3 - v) + (cnt rs 4 - v) + (cnt rs 5 - v)
def Bd (rs : List Nat) (f : Nat → Nat) : Prop := ∀ v, exc f v ≤ gx rs v
def one (j r : Nat) : Nat := if j ≤ r then 1 else 0
theorem cnt_cons (r : Nat) (rs : List Nat) (j : Nat) : cnt (r :: rs) j = cnt rs j + one j r := rfl
theorem one_le (j r : Nat) : one j r ≤ 1 := by unfold one; split <;> decide
theorem one_mono {j k : Nat} (h : j ≤ k) (r : Nat) : one k r ≤ one j r := by
  unfold one
  split
  · rename_i q
    rw [if_pos (Nat.le_trans h q)]
    exact Nat.le_refl _
  · exact Nat.zero_le _
theorem cnt_mono (rs : List Nat) {j k : Nat} (h : j ≤ k) : cnt rs k ≤ cnt rs j := by
  induction rs with
  | nil => exact Nat.le_refl _
  | cons r rs ih => exact Nat.add_le_add ih (one_mono h r)
theorem one_sums : ∀ r, r < 6 → one 1 r + one 2 r + one 3 r + one 4 r + one 5 r = r := by decide
theorem one_sum {r : Nat} (h : r ≤ 5) : one 1 r + one 2 r + one 3 r + one 4 r + one 5 r = r := one_sums r (Nat.lt_succ_of_le h)
theorem bd_fin {X Y Z W O D r : Nat} (hs : D = r) (e : O = r) (s1 : X + D = Y) (t : Y ≤ Z) (s2 : Z ≤ W + O) : X ≤ W := by
  subst hs; subst e; subst s1
  exact Nat.le_of_add_le_add_right (Nat.le_trans t s2)
theorem bd_fin2 {X Y Z W O D r : Nat} (hs : D = r) (e : O = r) (s1 : X ≤ Y + D) (t : Y ≤ Z) (s2 : Z + O ≤ W) : X ≤ W := by
  subst hs; subst e
  exact Nat.le_trans s1 (Nat.le_trans (Nat.add_le_add_right t _) s2)
theorem sum5eq {a1 a2 a3 a4 a5 b1 b2 b3 b4 b5 c1 c2 c3 c4 c5 : Nat} (h1 : a1 + b1 = c1) (h2 : a2 + b2 = c2) (h3 : a3 + b3 = c3) (h4 : a4 + b4 = c4) (h5 : a5 + b5 = c5) : (a1 + a2 + a3 + a4 + a5) + (b1 + b2 + b3 + b4 + b5) = c1 + c2 + c3 + c4 + c5 := by
  subst h1; subst h2; subst h3; subst h4; subst h5
  exact (sum5add a1 a2 a3 a4 a5 b1 b2 b3 b4 b5).symm
theorem sum5up {a1 a2 a3 a4 a5 b1 b2 b3 b4 b5 c1 c2 c3 c4 c5 : Nat} (h1 : c1 ≤ a1 + b1) (h2 : c2 ≤ a2 + b2) (h3 : c3 ≤ a3 + b3) (h4 : c4 ≤ a4 + b4) (h5 : c5 ≤ a5 + b5) : c1 + c2 + c3 + c4 + c5 ≤ (a1 + a2 + a3 + a4 + a5) + (b1 + b2 + b3 + b4 + b5) :=
  Nat.le_trans (sum5le h1 h2 h3 h4 h5) (Nat.le_of_eq (sum5add a1 a2 a3 a4 a5 b1 b2 b3 b4 b5))
theorem sum5dn {a1 a2 a3 a4 a5 b1 b2 b3 b4 b5 c1 c2 c3 c4 c5 : Nat} (h1 : a1 + b1 ≤ c1) (h2 : a2 + b2 ≤ c2) (h3 : a3 + b3 ≤ c3) (h4 : a4 + b4 ≤ c4) (h5 : a5 + b5 ≤ c5) : (a1 + a2 + a3 + a4 + a5) + (b1 + b2 + b3 + b4 + b5) ≤ c1 + c2 + c3 + c4 + c5 :=
  Nat.le_trans (Nat.le_of_eq (sum5add a1 a2 a3 a4 a5 b1 b2 b3 b4 b5).symm) (sum5le h1 h2 h3 h4 h5)
theorem bd_step {rs : List Nat} {r : Nat} {f f' d : Nat → Nat} (h5 : r ≤ 5) (hd : ∀ c, c < 5 → d c ≤ 1) (hs : d 0 + d 1 + d 2 + d 3 + d 4 = r) (hf : ∀ c, c < 5 → f' c + d c = f c)
    (ho : ∀ c c', c < 5 → c' < 5 → d c = 1 → d c' = 0 → f c' ≤ f c) (hB : Bd (r :: rs) f) : Bd rs f' := by
  intro v
  by_cases h : ∃ c0, c0 < 5 ∧ d c0 = 1 ∧ f c0 ≤ v
  · obtain ⟨c0, h0, h1, h2⟩ := h
    have a : ∀ c, c < 5 → f' c - v ≤ f c - (v + 1) := fun c hc => by
      by_cases e : d c = 1
      · rw [← hf c hc, e]; exact Nat.le_of_eq (Nat.add_sub_add_right _ 1 _).symm
      · exact sub_b (Nat.le_trans (Nat.le.intro (hf c hc)) (Nat.le_trans (ho c0 c h0 hc h1 (zero_or (hd c hc) e)) h2))
    exact Nat.le_trans (sum5le (a 0 (by decide)) (a 1 (by decide)) (a 2 (by decide)) (a 3 (by decide)) (a 4 (by decide))) (Nat.le_trans (hB (v + 1)) (sum5le (sub_c (one_le 1 r)) (sub_c (one_le 2 r)) (sub_c (one_le 3 r)) (sub_c (one_le 4 r)) (sub_c (one_le 5 r))))
  · have a : ∀ c, c < 5 → (f' c - v) + d c = f c - v := fun c hc => by
      rw [← hf c hc]
      by_cases e : d c = 1
      · have q : ¬ f c ≤ v := fun q => h ⟨c, hc, e, q⟩
        exact sub_d (.inr (Nat.le_of_lt_succ (Nat.lt_of_lt_of_le (Nat.lt_of_not_le q) (Nat.le_of_eq (by rw [← hf c hc, e])))))
      · exact sub_d (.inl (zero_or (hd c hc) e))
    exact bd_fin hs (one_sum h5) (sum5eq (a 0 (by decide)) (a 1 (by decide)) (a 2 (by decide)) (a 3 (by decide)) (a 4 (by decide))) (hB v) (sum5up (sub_e _ _ _) (sub_e _ _ _) (sub_e _ _ _) (sub_e _ _ _) (sub_e _ _ _))
theorem bd_back {rs : List Nat} {r : Nat} {f f' d : Nat → Nat} (h5 : r ≤ 5) (hd : ∀ c, c < 5 → d c ≤ 1) (hs : d 0 + d 1 + d 2 + d 3 + d 4 = r) (hf : ∀ c, c < 5 → f' c + d c = f c) (hB : Bd rs f') : Bd (r :: rs) f := by
  intro v
  rcases v with _ | v
  · exact bd_fin2 hs (one_sum h5) (Nat.le_of_eq (sum5eq (hf 0 (by decide)) (hf 1 (by decide)) (hf 2 (by decide)) (hf 3 (by decide)) (hf 4 (by decide))).symm) (hB 0) (Nat.le_of_eq (sum5add _ _ _ _ _ _ _ _ _ _).symm)
  · by_cases h : ∃ j, 1 ≤ j ∧ j ≤ r ∧ cnt rs j ≤ v
    · obtain ⟨j0, h0, h1, h2⟩ := h
      have b : ∀ j, cnt rs j - v ≤ cnt (r :: rs) j - (v + 1) := fun j => by
        rw [cnt_cons]
        unfold one
        split
        · exact Nat.le_of_eq (Nat.add_sub_add_right _ 1 _).symm
        · rename_i q
          exact sub_b (Nat.le_trans (cnt_mono rs (Nat.le_trans h1 (Nat.le_of_not_le q))) h2)
      have a : ∀ c, c < 5 → f c - (v + 1) ≤ f' c - v := fun c hc => by rw [← hf c hc]; exact sub_c (hd c hc)
      exact Nat.le_trans (sum5le (a 0 (by decide)) (a 1 (by decide)) (a 2 (by decide)) (a 3 (by decide)) (a 4 (by decide))) (Nat.le_trans (hB v) (sum5le (b 1) (b 2) (b 3) (b 4) (b 5)))
    · have b : ∀ j, 1 ≤ j → (cnt rs j - (v + 1)) + one j r ≤ cnt (r :: rs) j - (v + 1) := fun j hj => Nat.le_of_eq (sub_d (by
        unfold one
        split
        · rename_i q
          exact .inr (Nat.lt_of_not_le fun x => h ⟨j, hj, q, x⟩)
        · exact .inl rfl))
      have a : ∀ c, c < 5 → f c - (v + 1) ≤ (f' c - (v + 1)) + d c := fun c hc => by rw [← hf c hc]; exact sub_e _ _ _
      exact bd_fin2 hs (one_sum h5) (sum5up (a 0 (by decide)) (a 1 (by decide)) (a 2 (by decide)) (a 3 (by decide)) (a 4 (by decide))) (hB (v + 1)) (sum5dn (b 1 (by decide)) (b 2 (by decide)) (b 3 (by decide)) (b 4 (by decide)) (b 5 (by decide)))
theorem gale_pos {rs : List Nat} {r : Nat} {f d : Nat → Nat} (h5 : r ≤ 5) (hd : ∀ c, c < 5 → d c ≤ 1) (hs : d 0 + d 1 + d 2 + d 3 + d 4 = r)
    (ho : ∀ c c', c < 5 → c' < 5 → d c = 1 → d c' = 0 → f c' ≤ f c) (hB : Bd (r :: rs) f) (hS : exc f 0 = gx (r :: rs) 0) : ∀ c, c < 5 → d c = 1 → f c ≠ 0 := by
  intro c0 h0 h1 h2
  have a : ∀ c, c < 5 → f c + (if c = c0 then 1 else 0) ≤ (f c - 1) + d c := fun c hc => by
    split
    · rename_i q
      rw [q, h1, h2]
      decide
    · by_cases e : d c = 1
      · rw [e]; exact Nat.le_add_of_sub_le (Nat.le_refl _)
      · have q := ho c0 c h0 hc h1 (zero_or (hd c hc) e)
        rw [h2] at q
        rw [Nat.le_zero.mp q]
        exact Nat.zero_le _
  have b : ∀ j, (cnt (r :: rs) j - 1) + one j r ≤ cnt (r :: rs) j := fun j => Nat.le_trans (Nat.add_le_add_right (sub_c (v := 0) (one_le j r)) _) (Nat.le_refl _)
  have x := sum5up (a 0 (by decide)) (a 1 (by decide)) (a 2 (by decide)) (a 3 (by decide)) (a 4 (by decide))
  rw [sum5add, at_sum c0 h0, hs] at x
  have y := sum5dn (b 1) (b 2) (b 3) (b 4) (b 5)
  rw [one_sum h5] at y
  have z : exc f 0 + 1 ≤ gx (r :: rs) 0 := Nat.le_trans x (Nat.le_trans (Nat.add_le_add_right (hB 1) r) y)
  rw [hS] at z
  exact Nat.not_succ_le_self _ z
theorem ordK_perm (side : Nat) (c : Nat → Nat → Bool) : ∀ k, (ordK side c k).Perm (List.range k)
  | 0 => .nil
  | k + 1 => by
    rw [List.range_succ]
    have h1 : (insAt side c k (ordK side c k)).Perm (k :: ordK side c k) := by
      unfold insAt
      refine List.perm_middle.trans ?_
      rw [List.takeWhile_append_dropWhile]
    exact (h1.trans ((ordK_perm side c k).cons k)).trans (List.perm_append_singleton k _).symm
theorem ind_cons {a c : Nat} {l : List Nat} (hn : a ∉ l) : (if c ∈ a :: l then 1 else 0) = (if c = a then 1 else 0) + (if c ∈ l then 1 else 0) := by
  by_cases e : c = a
  · rw [if_pos e, if_pos (e ▸ .head _), if_neg (e ▸ hn)]
  · rw [if_neg e, Nat.zero_add]
    by_cases m : c ∈ l
    · rw [if_pos m, if_pos (.tail _ m)]
    · rw [if_neg m, if_neg fun q => (List.mem_cons.mp q).elim e m]
theorem ind_sum : ∀ {l : List Nat}, l.Nodup → (∀ c ∈ l, c < 5) → (if 0 ∈ l then 1 else 0) + (if 1 ∈ l then 1 else 0) + (if 2 ∈ l then 1 else 0) + (if 3 ∈ l then 1 else 0) + (if 4 ∈ l then 1 else 0) = l.length
  | [], _, _ => rfl
  | a :: l, h, h5 => by
    have ih := ind_sum (List.nodup_cons.mp h).2 fun c hc => h5 c (.tail _ hc)
    have hn := (List.nodup_cons.mp h).1
    rw [ind_cons hn, ind_cons hn, ind_cons hn, ind_cons hn, ind_cons hn, sum5add, ih, at_sum a (h5 a (.head _))]
    exact Nat.add_comm _ _
theorem desc_pair {c : Nat → Nat → Bool} : ∀ {ys : List Nat}, descB c ys = true → ys.Pairwise fun x y => c x y = false
  | [], _ => .nil
  | x :: r, h => by
    simp only [descB, Bool.and_eq_true, List.all_eq_true, Bool.not_eq_true'] at h
    exact .cons h.1 (desc_pair h.2)
/-- the columns of row i: the r first in order -/
def pick (side : Nat) (w : List Int) (r : Nat) : List Nat := (ordK side (cmp5 (natsOf w)) 5).take r
theorem pick_facts {side : Nat} (hs : side < 2) {w : List Int} (h5 : Five w) {r : Nat} (hr : r ≤ 5) : (pick side w r).Nodup ∧ (∀ c ∈ pick side w r, c < 5) ∧ (pick side w r).length = r ∧ ∀ c c', c < 5 → c' < 5 → c ∈ pick side w r → c' ∉ pick side w r → wz w c' ≤ wz w c := by
  have hp := ordK_perm side (cmp5 (natsOf w)) 5
  have hnd : (ordK side (cmp5 (natsOf w)) 5).Nodup := hp.symm.nodup List.nodup_range
  refine ⟨hnd.sublist (List.take_sublist _ _), fun c hc => ordK_lt _ _ _ c (List.mem_of_mem_take hc), by unfold pick; rw [List.length_take, ordK_length]; (first | lia | omega), fun c c' hc hc' h1 h2 => ?_⟩
  have hm : c' ∈ ordK side (cmp5 (natsOf w)) 5 := hp.symm.subset (List.mem_range.mpr hc')
  rw [← List.take_append_drop r (ordK side (cmp5 (natsOf w)) 5)] at hm
  have h3 : c' ∈ (ordK side (cmp5 (natsOf w)) 5).drop r := (List.mem_append.mp hm).resolve_left h2
  have hd := desc_pair (ordK_desc hs (natsOf w) (k := 5) (by (first | lia | omega)))
  rw [← List.take_append_drop r (ordK side (cmp5 (natsOf w)) 5)] at hd
  have := (List.pairwise_append.mp hd).2.2 c h1 c' h3
  rw [cmp_five h5 hc hc'] at this
  have := of_decide_eq_false this
  unfold wz
  (first | lia | omega)
end
section
theorem five_ge {w : List Int} (h : Five w) (c : Nat) : ((wz w c : Nat) : Int) = w.getD c 0 := by
  have := nats_getD h c
  unfold wz
  (first | lia | omega)
theorem wz_set {w : List Int} (h : Five w) {a : Nat} (ha : a < 5) (h0 : wz w a ≠ 0) (c : Nat) : wz (w.set a (w.getD a 0 - 1)) c + (if c = a then 1 else 0) = wz w c := by
  have hg := five_ge h a
  by_cases e : c = a
  · subst e
    rw [if_pos rfl]
    have : (w.set c (w.getD c 0 - 1)).getD c 0 = w.getD c 0 - 1 := by
      rw [List.getD, List.getElem?_set, if_pos rfl, if_pos (by rw [h.1]; exact ha)]; rfl
    unfold wz at h0 ⊢
    rw [this]
    (first | lia | omega)
  · rw [if_neg e]
    unfold wz
    rw [getD_set_ne (fun q => e q.symm)]
    rfl
theorem bit_or (u n : Nat) : Builtin.bitOr (u : Int) (1 * 2 ^ n) = ((u ||| 2 ^ n : Nat) : Int) := by
  rw [show (1 : Int) * 2 ^ n = ((2 ^ n : Nat) : Int) by simp, bOr]
theorem giveF_run (i : Nat) : ∀ (l : List Nat) (w : List Int) (u : Nat), Five w → l.Nodup → (∀ c ∈ l, c < 5) → (∀ c ∈ l, wz w c ≠ 0) →
    ∃ (w' : List Int) (u' : Nat), giveF i l (w, (u : Int)) = some (w', (u' : Int)) ∧ Five w' ∧ (∀ c, c < 5 → wz w' c + (if c ∈ l then 1 else 0) = wz w c) ∧ ∀ k, u'.testBit k = (u.testBit k || decide (∃ c ∈ l, k = 5 * i + c))
  | [], w, u, h, _, _, _ => ⟨w, u, rfl, h, fun c _ => by simp, fun k => by simp⟩
  | a :: l, w, u, h, hn, h5, h0 => by
    have ha := h5 a (.head _)
    have hz := h0 a (.head _)
    have hg := five_ge h a
    have hne : w.getD a 0 ≠ 0 := by (first | lia | omega)
    have hnd := List.nodup_cons.mp hn
    have hset := wz_set h ha hz
    obtain ⟨w', u', e1, e2, e3, e4⟩ := giveF_run i l (w.set a (w.getD a 0 - 1)) (u ||| 2 ^ (5 * i + a)) (five_set h hne) hnd.2 (fun c hc => h5 c (.tail _ hc)) fun c hc => by
      have := hset c
      have hca : c ≠ a := fun q => hnd.1 (q ▸ hc)
      rw [if_neg hca] at this
      have := h0 c (.tail _ hc)
      (first | lia | omega)
    refine ⟨w', u', ?_, e2, fun c hc => ?_, fun k => ?_⟩
    · unfold giveF
      rw [if_neg hne, show (5 * (i : Int) + (a : Int)).toNat = 5 * i + a by (first | lia | omega), bit_or]
      exact e1
    · have x := e3 c hc
      have y := hset c
      by_cases q : c = a
      · subst q
        rw [if_neg hnd.1] at x
        rw [if_pos rfl] at y
        rw [if_pos (.head _)]
        (first | lia | omega)
      · rw [if_neg q] at y
        by_cases z : c ∈ l
        · rw [if_pos z] at x; rw [if_pos (.tail _ z)]; (first | lia | omega)
        · rw [if_neg z] at x; rw [if_neg (by simp [q, z])]; (first | lia | omega)
    · rw [e4, Nat.testBit_or, Nat.testBit_two_pow, Bool.or_assoc]
      congr 1
      rw [Bool.eq_iff_iff]
      simp only [Bool.or_eq_true, decide_eq_true_eq, List.mem_cons, exists_eq_or_imp]
      constructor
      · rintro (q | q)
        · exact .inl q.symm
        · exact .inr q
      · rintro (q | q)
        · exact .inl q.symm
        · exact .inr q
theorem giveF_fail (i : Nat) : ∀ (l : List Nat) (w : List Int) (T : Int), Five w → l.Nodup → (∀ c ∈ l, c < 5) → (∃ c ∈ l, wz w c = 0) → giveF i l (w, T) = none
  | [], _, _, _, _, _, h => by obtain ⟨c, h, _⟩ := h; cases h
  | a :: l, w, T, h, hn, h5, h0 => by
    unfold giveF
    split
    · rfl
    · rename_i hne
      have hg := five_ge h a
      have hza : wz w a ≠ 0 := by (first | lia | omega)
      have hnd := List.nodup_cons.mp hn
      refine giveF_fail i l _ _ (five_set h hne) hnd.2 (fun c hc => h5 c (.tail _ hc)) ?_
      obtain ⟨c, hc, hz⟩ := h0
      rcases List.mem_cons.mp hc with rfl | hc
      · exact absurd hz hza
      · refine ⟨c, hc, ?_⟩
        have := wz_set h (h5 a (.head _)) hza c
        (first | lia | omega)
def bt (u i c : Nat) : Nat := (u.testBit (5 * i + c)).toNat
def up (u : Nat) : Nat → Nat → Nat
  | 0, _ => 0
  | k + 1, c => up u k c + bt u k c
def rsum (u i : Nat) : Nat := bt u i 0 + bt u i 1 + bt u i 2 + bt u i 3 + bt u i 4
theorem up_congr {u u' c : Nat} : ∀ {k : Nat}, (∀ i, i < k → bt u i c = bt u' i c) → up u k c = up u' k c
  | 0, _ => rfl
  | k + 1, h => by
    unfold up
    rw [up_congr fun i hi => h i (by (first | lia | omega)), h k (by (first | lia | omega))]
def rsFrom (rows : List Int) (k : Nat) : List Nat := (rows.drop k).map Int.toNat
theorem rs_next {rows : List Int} (h : rows.length = 5) {k : Nat} (hk : k < 5) : rsFrom rows k = (rows.getD k 0).toNat :: rsFrom rows (k + 1) := by
  unfold rsFrom
  rw [List.drop_eq_getElem_cons (by (first | lia | omega)), List.map_cons]
  simp [List.getD, show k < rows.length by (first | lia | omega)]
theorem rs_end {rows : List Int} (h : rows.length = 5) : rsFrom rows 5 = [] := by
  unfold rsFrom
  rw [List.drop_eq_nil_of_le (by (first | lia | omega))]; rfl
theorem rows_le {rows : List Int} (h9 : ∀ x ∈ rows, 0 ≤ x ∧ x ≤ 5) (k : Nat) : (rows.getD k 0).toNat ≤ 5 := by
  by_cases hk : k < rows.length
  · have e : rows.getD k 0 = rows[k] := by simp [List.getD, hk]
    have := h9 rows[k] (List.getElem_mem hk)
    rw [e]; (first | lia | omega)
  · simp [List.getD, hk]
theorem gale_next {rows : List Int} {side : Nat} {w0 : List Int} {k : Nat} {st : List Int × Int} (h : galeF rows side w0 k = some st) : galeF rows side w0 (k + 1) = giveF k (pick side st.1 (rows.getD k 0).toNat) st := by
  show (galeF rows side w0 k).bind _ = _
  rw [h]; rfl
def ind (l : List Nat) (c : Nat) : Nat := if c ∈ l then 1 else 0
theorem ind_le (l : List Nat) (c : Nat) : ind l c ≤ 1 := by unfold ind; split <;> (first | lia | omega)
theorem ind_one {l : List Nat} {c : Nat} (h : ind l c = 1) : c ∈ l := by
  unfold ind at h
  split at h
  · assumption
  · (first | lia | omega)
theorem ind_zero {l : List Nat} {c : Nat} (h : ind l c = 0) : c ∉ l := by
  unfold ind at h
  split at h
  · (first | lia | omega)
  · assumption
section
variable {rows : List Int} {side : Nat} {w0 : List Int} (hl : rows.length = 5) (h9 : ∀ x ∈ rows, 0 ≤ x ∧ x ≤ 5) (hs : side < 2) (h0 : Five w0)
include hl h9 hs h0
theorem gale_inv (hB : Bd (rsFrom rows 0) (wz w0)) (hS : exc (wz w0) 0 = gx (rsFrom rows 0) 0) : ∀ k, k ≤ 5 → ∃ (w : List Int) (u : Nat), galeF rows side w0 k = some (w, (u : Int)) ∧ Five w ∧ Bd (rsFrom rows k) (wz w) ∧ exc (wz w) 0 = gx (rsFrom rows k) 0 ∧
    (∀ n, u.testBit n = true → n < 5 * k) ∧ (∀ c, c < 5 → wz w c + up u k c = wz w0 c) ∧ (∀ i, i < k → rsum u i = (rows.getD i 0).toNat) ∧
    ∀ i, i < k → ∀ c c', c < 5 → c' < 5 → u.testBit (5 * i + c) = true → u.testBit (5 * i + c') = false → wz w0 c' + up u i c ≤ wz w0 c + up u i c' := by
  intro k
  induction k with
  | zero => exact fun _ => ⟨w0, 0, rfl, h0, hB, hS, fun n hn => by simp at hn, fun c _ => rfl, fun i hi => by (first | lia | omega), fun i hi => by (first | lia | omega)⟩
  | succ k ih =>
    intro hk
    obtain ⟨w, u, e1, e2, e3, e4, e5, e6, e7, e8⟩ := ih (by (first | lia | omega))
    have hr := rows_le h9 k
    obtain ⟨p1, p2, p3, p4⟩ := pick_facts hs e2 hr
    have hrs := rs_next hl (show k < 5 by (first | lia | omega))
    have hsum : ind (pick side w (rows.getD k 0).toNat) 0 + ind (pick side w (rows.getD k 0).toNat) 1 + ind (pick side w (rows.getD k 0).toNat) 2 + ind (pick side w (rows.getD k 0).toNat) 3 + ind (pick side w (rows.getD k 0).toNat) 4 = (rows.getD k 0).toNat := (ind_sum p1 p2).trans p3
    have hdesc : ∀ c c', c < 5 → c' < 5 → ind (pick side w (rows.getD k 0).toNat) c = 1 → ind (pick side w (rows.getD k 0).toNat) c' = 0 → wz w c' ≤ wz w c := fun c c' a b x y => p4 c c' a b (ind_one x) (ind_zero y)
    rw [hrs] at e3 e4
    have hpos := gale_pos hr (fun c _ => ind_le _ c) hsum hdesc e3 e4
    obtain ⟨w', u', f1, f2, f3, f4⟩ := giveF_run k _ w u e2 p1 p2 fun c hc => hpos c (p2 c hc) (by unfold ind; rw [if_pos hc])
    have hf : ∀ c, c < 5 → wz w' c + ind (pick side w (rows.getD k 0).toNat) c = wz w c := f3
    have hold : ∀ i c, i < k → c < 5 → u'.testBit (5 * i + c) = u.testBit (5 * i + c) := fun i c hi hc => by
      rw [f4]
      have : ¬ ∃ c' ∈ pick side w (rows.getD k 0).toNat, 5 * i + c = 5 * k + c' := fun ⟨c', _, q⟩ => by (first | lia | omega)
      simp only [this, decide_false, Bool.or_false]
    have hnew : ∀ c, c < 5 → u'.testBit (5 * k + c) = decide (c ∈ pick side w (rows.getD k 0).toNat) := fun c hc => by
      rw [f4]
      have : u.testBit (5 * k + c) = false := by
        cases q : u.testBit (5 * k + c) with
        | false => rfl
        | true => have := e5 _ q; (first | lia | omega)
      rw [this, Bool.false_or]
      rw [Bool.eq_iff_iff, decide_eq_true_eq, decide_eq_true_eq]
      exact ⟨fun ⟨c', h, q⟩ => by have : c = c' := by (first | lia | omega)
                                  exact this ▸ h, fun h => ⟨c, h, rfl⟩⟩
    have hbn : ∀ c, c < 5 → bt u' k c = ind (pick side w (rows.getD k 0).toNat) c := fun c hc => by
      unfold bt ind
      rw [hnew c hc]
      split <;> simp_all
    have hup : ∀ i c, i ≤ k → c < 5 → up u' i c = up u i c := fun i c hi hc => up_congr fun j hj => by unfold bt; rw [hold j c (by (first | lia | omega)) hc]
    refine ⟨w', u', by rw [gale_next e1]; exact f1, f2, bd_step hr (fun c _ => ind_le _ c) hsum hf hdesc e3, ?_, ?_, ?_, ?_, ?_⟩
    · have o := one_sum hr
      have x : exc (wz w') 0 + (rows.getD k 0).toNat = exc (wz w) 0 := by
        rw [← hsum]; exact sum5eq (hf 0 (by decide)) (hf 1 (by decide)) (hf 2 (by decide)) (hf 3 (by decide)) (hf 4 (by decide))
      have y : gx ((rows.getD k 0).toNat :: rsFrom rows (k + 1)) 0 = gx (rsFrom rows (k + 1)) 0 + (rows.getD k 0).toNat := (sum5add _ _ _ _ _ _ _ _ _ _).trans (congrArg (gx (rsFrom rows (k + 1)) 0 + ·) o)
      exact Nat.add_right_cancel (x.trans (e4.trans y))
    · intro n hn
      rw [f4, Bool.or_eq_true, decide_eq_true_eq] at hn
      rcases hn with q | ⟨c, hc, q⟩
      · have := e5 n q; (first | lia | omega)
      · have := p2 c hc; (first | lia | omega)
    · intro c hc
      have a := e6 c hc
      have b := hf c hc
      show wz w' c + (up u' k c + bt u' k c) = _
      rw [hup k c (Nat.le_refl _) hc, hbn c hc]
      (first | lia | omega)
    · intro i hi
      rcases Nat.lt_or_eq_of_le (Nat.le_of_lt_succ hi) with hi | rfl
      · rw [← e7 i hi]
        unfold rsum bt
        rw [hold i 0 hi (by decide), hold i 1 hi (by decide), hold i 2 hi (by decide), hold i 3 hi (by decide), hold i 4 hi (by decide)]
      · unfold rsum
        rw [hbn 0 (by decide), hbn 1 (by decide), hbn 2 (by decide), hbn 3 (by decide), hbn 4 (by decide)]
        exact hsum
    · intro i hi c c' hc hc' b1 b2
      rw [hup i c (by (first | lia | omega)) hc, hup i c' (by (first | lia | omega)) hc']
      rcases Nat.lt_or_eq_of_le (Nat.le_of_lt_succ hi) with hi | rfl
      · exact e8 i hi c c' hc hc' (by rw [← hold i c hi hc]; exact b1) (by rw [← hold i c' hi hc']; exact b2)
      · rw [hnew c hc] at b1
        rw [hnew c' hc'] at b2
        have := p4 c c' hc hc' (of_decide_eq_true b1) (of_decide_eq_false b2)
        have a := e6 c hc
        have b := e6 c' hc'
        (first | lia | omega)
/-- what goes through keeps the sums -/
theorem gale_sum (hS : exc (wz w0) 0 = gx (rsFrom rows 0) 0) : ∀ k, k ≤ 5 → ∀ st, galeF rows side w0 k = some st → Five st.1 ∧ (∃ u : Nat, st.2 = (u : Int)) ∧ exc (wz st.1) 0 = gx (rsFrom rows k) 0 ∧ (Bd (rsFrom rows k) (wz st.1) → Bd (rsFrom rows 0) (wz w0)) := by
  intro k
  induction k with
  | zero =>
    intro _ st h
    cases h
    exact ⟨h0, ⟨0, rfl⟩, hS, id⟩
  | succ k ih =>
    intro hk st h
    cases e : galeF rows side w0 k with
    | none =>
      have h' : (galeF rows side w0 k).bind _ = some st := h
      rw [e] at h'
      cases h'
    | some st0 =>
      obtain ⟨w, T⟩ := st0
      obtain ⟨e2, ⟨u, eu⟩, e4, e3⟩ := ih (by (first | lia | omega)) _ e
      dsimp only at e2 eu e4 e3
      subst eu
      rw [gale_next e] at h
      dsimp only at h
      have hr := rows_le h9 k
      obtain ⟨p1, p2, p3, p4⟩ := pick_facts hs e2 hr
      have hrs := rs_next hl (show k < 5 by (first | lia | omega))
      have hsum : ind (pick side w (rows.getD k 0).toNat) 0 + ind (pick side w (rows.getD k 0).toNat) 1 + ind (pick side w (rows.getD k 0).toNat) 2 + ind (pick side w (rows.getD k 0).toNat) 3 + ind (pick side w (rows.getD k 0).toNat) 4 = (rows.getD k 0).toNat := (ind_sum p1 p2).trans p3
      have hnz : ∀ c ∈ pick side w (rows.getD k 0).toNat, wz w c ≠ 0 := fun c hc q => by
        rw [giveF_fail k _ w _ e2 p1 p2 ⟨c, hc, q⟩] at h
        cases h
      obtain ⟨w', u', f1, f2, f3, f4⟩ := giveF_run k _ w u e2 p1 p2 hnz
      rw [f1] at h
      cases h
      have hf : ∀ c, c < 5 → wz w' c + ind (pick side w (rows.getD k 0).toNat) c = wz w c := f3
      rw [hrs] at e4 e3
      refine ⟨f2, ⟨u', rfl⟩, ?_, fun hB => e3 (bd_back hr (fun c _ => ind_le _ c) hsum hf hB)⟩
      have o := one_sum hr
      have x : exc (wz w') 0 + (rows.getD k 0).toNat = exc (wz w) 0 := by
        rw [← hsum]; exact sum5eq (hf 0 (by decide)) (hf 1 (by decide)) (hf 2 (by decide)) (hf 3 (by decide)) (hf 4 (by decide))
      have y : gx ((rows.getD k 0).toNat :: rsFrom rows (k + 1)) 0 = gx (rsFrom rows (k + 1)) 0 + (rows.getD k 0).toNat := (sum5add _ _ _ _ _ _ _ _ _ _).trans (congrArg (gx (rsFrom rows (k + 1)) 0 + ·) o)
      exact Nat.add_right_cancel (x.trans (e4.trans y))
theorem gale_zero {w : List Int} (h : exc (wz w) 0 = gx (rsFrom rows 5) 0) : ∀ c, c < 5 → wz w c = 0 := by
  rw [rs_end hl] at h
  unfold exc gx cnt at h
  simp only [Nat.sub_zero] at h
  intro c hc
  rcases five_cases hc with (rfl | rfl) | rfl | rfl | rfl <;> (first | lia | omega)
theorem gale_bd (hS : exc (wz w0) 0 = gx (rsFrom rows 0) 0) : galeF rows side w0 5 ≠ none ↔ Bd (rsFrom rows 0) (wz w0) := by
  constructor
  · intro h
    obtain ⟨st, e⟩ := Option.ne_none_iff_exists'.mp h
    obtain ⟨_, _, b, c⟩ := gale_sum hl h9 hs h0 hS 5 (Nat.le_refl _) st e
    refine c fun v => ?_
    have z := gale_zero hl h9 hs h0 b
    unfold exc
    rw [z 0 (by decide), z 1 (by decide), z 2 (by decide), z 3 (by decide), z 4 (by decide)]
    simp
  · intro hB h
    obtain ⟨w, u, e, _⟩ := gale_inv hl h9 hs h0 hB hS 5 (Nat.le_refl _)
    rw [h] at e
    cases e
end
end
section
theorem up_a {A X m a v : Nat} (h : A = X + m) (hv : v ≤ a) : A + a = (X + (a - v)) + (m + v) := by
  rw [Nat.add_add_add_comm, Nat.sub_add_cancel hv, h]
theorem up_s {S Y m s v : Nat} (h : S ≤ Y + m) : S + s ≤ (Y + (s - v)) + (m + v) := by
  rw [Nat.add_add_add_comm]
  exact Nat.add_le_add h (Nat.le_add_of_sub_le (Nat.le_refl _))
theorem up_0 {s v : Nat} : s ≤ (s - v) + v := Nat.le_add_of_sub_le (Nat.le_refl _)
theorem maj_stop {X Y m A S : Nat} (ea : A = X + m) (hs : S ≤ Y + m) (h : A ≤ S) : X ≤ Y := Nat.le_of_add_le_add_right (ea ▸ Nat.le_trans h hs)
theorem maj_up {X Y a v y : Nat} (h : X ≤ Y) (c : a ≤ v) : X + (a - v) ≤ Y + y := Nat.add_le_add h (sub_b c)
theorem maj_to {a1 a2 a3 a4 a5 s1 s2 s3 s4 s5 : Nat} (ha : a2 ≤ a1 ∧ a3 ≤ a2 ∧ a4 ≤ a3 ∧ a5 ≤ a4) (h1 : a1 ≤ s1) (h2 : a1 + a2 ≤ s1 + s2) (h3 : a1 + a2 + a3 ≤ s1 + s2 + s3) (h4 : a1 + a2 + a3 + a4 ≤ s1 + s2 + s3 + s4) (h5 : a1 + a2 + a3 + a4 + a5 ≤ s1 + s2 + s3 + s4 + s5) (v : Nat) :
    (a1 - v) + (a2 - v) + (a3 - v) + (a4 - v) + (a5 - v) ≤ (s1 - v) + (s2 - v) + (s3 - v) + (s4 - v) + (s5 - v) := by
  obtain ⟨b1, b2, b3, b4⟩ := ha
  by_cases c1 : a1 ≤ v
  · have c2 := Nat.le_trans b1 c1
    have c3 := Nat.le_trans b2 c2
    have c4 := Nat.le_trans b3 c3
    exact maj_up (maj_up (maj_up (maj_up (sub_b c1) c2) c3) c4) (Nat.le_trans b4 c4)
  have e1 : a1 = (a1 - v) + v := (Nat.sub_add_cancel (Nat.le_of_not_le c1)).symm
  by_cases c2 : a2 ≤ v
  · have c3 := Nat.le_trans b2 c2
    have c4 := Nat.le_trans b3 c3
    exact maj_up (maj_up (maj_up (maj_up (maj_stop e1 up_0 h1) c2) c3) c4) (Nat.le_trans b4 c4)
  have e2 := up_a e1 (Nat.le_of_not_le c2)
  by_cases c3 : a3 ≤ v
  · have c4 := Nat.le_trans b3 c3
    exact maj_up (maj_up (maj_up (maj_stop e2 (up_s up_0) h2) c3) c4) (Nat.le_trans b4 c4)
  have e3 := up_a e2 (Nat.le_of_not_le c3)
  by_cases c4 : a4 ≤ v
  · exact maj_up (maj_up (maj_stop e3 (up_s (up_s up_0)) h3) c4) (Nat.le_trans b4 c4)
  have e4 := up_a e3 (Nat.le_of_not_le c4)
  by_cases c5 : a5 ≤ v
  · exact maj_up (maj_stop e4 (up_s (up_s (up_s up_0))) h4) c5
  exact maj_stop (up_a e4 (Nat.le_of_not_le c5)) (up_s (up_s (up_s (up_s up_0)))) h5
theorem maj_dn {A X m X5 Y5 Y S : Nat} (ha : A ≤ X + m) (hx : X ≤ X5) (h : X5 ≤ Y5) (hy : Y5 = Y) (es : S = Y + m) : A ≤ S := es ▸ Nat.le_trans ha (Nat.add_le_add_right (Nat.le_trans hx (hy ▸ h)) m)
theorem sub_z {s v : Nat} (X : Nat) (h : s ≤ v) : X + (s - v) = X := by rw [Nat.sub_eq_zero_of_le h]; rfl
theorem maj_of {a1 a2 a3 a4 a5 s1 s2 s3 s4 s5 : Nat} (hs : s2 ≤ s1 ∧ s3 ≤ s2 ∧ s4 ≤ s3 ∧ s5 ≤ s4) (h : ∀ v, (a1 - v) + (a2 - v) + (a3 - v) + (a4 - v) + (a5 - v) ≤ (s1 - v) + (s2 - v) + (s3 - v) + (s4 - v) + (s5 - v)) :
    a1 ≤ s1 ∧ a1 + a2 ≤ s1 + s2 ∧ a1 + a2 + a3 ≤ s1 + s2 + s3 ∧ a1 + a2 + a3 + a4 ≤ s1 + s2 + s3 + s4 ∧ a1 + a2 + a3 + a4 + a5 ≤ s1 + s2 + s3 + s4 + s5 := by
  obtain ⟨b1, b2, b3, b4⟩ := hs
  have q := fun (a b : Nat) => Nat.le_add_right a b
  have c13 := Nat.le_trans b2 b1
  have c14 := Nat.le_trans b3 c13
  have c24 := Nat.le_trans b3 b2
  refine ⟨?_, ?_, ?_, ?_, h 0⟩
  · exact maj_dn (m := s1) up_0 (Nat.le_trans (q _ _) (Nat.le_trans (q _ _) (Nat.le_trans (q _ _) (q _ _)))) (h s1) (by rw [sub_z _ (Nat.le_trans b4 c14), sub_z _ c14, sub_z _ c13, sub_z _ b1]) (Nat.sub_add_cancel (Nat.le_refl s1)).symm
  · exact maj_dn (up_s (v := s2) up_0) (Nat.le_trans (q _ _) (Nat.le_trans (q _ _) (q _ _))) (h s2) (by rw [sub_z _ (Nat.le_trans b4 c24), sub_z _ c24, sub_z _ b2]) (up_a (Nat.sub_add_cancel b1).symm (Nat.le_refl s2))
  · exact maj_dn (up_s (v := s3) (up_s up_0)) (Nat.le_trans (q _ _) (q _ _)) (h s3) (by rw [sub_z _ (Nat.le_trans b4 b3), sub_z _ b3]) (up_a (up_a (Nat.sub_add_cancel c13).symm b2) (Nat.le_refl s3))
  · exact maj_dn (up_s (v := s4) (up_s (up_s up_0))) (q _ _) (h s4) (by rw [sub_z _ b4]) (up_a (up_a (up_a (Nat.sub_add_cancel c14).symm c24) b3) (Nat.le_refl s4))
def cumc (rs : List Nat) : Nat → Nat
  | 0 => 0
  | k + 1 => cumc rs k + cnt rs (k + 1)
theorem cumc_nil : ∀ k, cumc [] k = 0
  | 0 => rfl
  | k + 1 => by unfold cumc cnt; rw [cumc_nil k]
theorem min_one (r k : Nat) : min r k + one (k + 1) r = min r (k + 1) := by
  unfold one
  split
  · rename_i h
    rw [Nat.min_eq_right (Nat.le_of_succ_le h), Nat.min_eq_right h]
  · rename_i h
    have q := Nat.le_of_not_lt h
    rw [Nat.min_eq_left q, Nat.min_eq_left (Nat.le_succ_of_le q)]; rfl
theorem cumc_cons (r : Nat) (rs : List Nat) : ∀ k, cumc (r :: rs) k = cumc rs k + min r k
  | 0 => by rw [Nat.min_zero]; rfl
  | k + 1 => by
    show cumc (r :: rs) k + (cnt rs (k + 1) + one (k + 1) r) = (cumc rs k + cnt rs (k + 1)) + min r (k + 1)
    rw [cumc_cons r rs k, Nat.add_add_add_comm, min_one]
theorem cast_min (n k : Nat) : ((min n k : Nat) : Int) = min (n : Int) (k : Int) := by
  rcases Nat.le_total n k with h | h
  · rw [Nat.min_eq_left h, Int.min_eq_left (Int.ofNat_le.mpr h)]
  · rw [Nat.min_eq_right h, Int.min_eq_right (Int.ofNat_le.mpr h)]
theorem min_cnt : ∀ {rows : List Int}, (∀ x ∈ rows, 0 ≤ x ∧ x ≤ 5) → ∀ k : Nat, (rows.map fun r => min r (k : Int)).sum = ((cumc (rows.map Int.toNat) k : Nat) : Int)
  | [], _, k => by rw [List.map_nil, List.map_nil, cumc_nil]; rfl
  | r :: rows, h, k => by
    have ih := min_cnt (rows := rows) (fun x hx => h x (.tail _ hx)) k
    obtain ⟨n, rfl⟩ := Int.eq_ofNat_of_zero_le (h r (.head _)).1
    rw [List.map_cons, List.map_cons, List.sum_cons, ih, cumc_cons, Int.toNat_natCast, Int.natCast_add, cast_min]
    exact Int.add_comm _ _
def excL (l : List Int) (v : Nat) : Nat := (l.map fun x => x.toNat - v).sum
theorem five_list {l : List Int} (h : l.length = 5) : ∃ a b c d e, l = [a, b, c, d, e] := by
  match l, h with
  | [a, b, c, d, e], _ => exact ⟨a, b, c, d, e, rfl⟩
theorem exc_list {w : List Int} (h : w.length = 5) (v : Nat) : exc (wz w) v = excL w v := by
  obtain ⟨a, b, c, d, e, rfl⟩ := five_list h
  unfold exc wz excL
  simp [List.getD]
  (first | lia | omega)
theorem excL_perm {l l' : List Int} (h : l.Perm l') (v : Nat) : excL l v = excL l' v := by
  unfold excL
  exact (h.map _).sum_nat
theorem over_bd {rows w : List Int} (hl : rows.length = 5) (h9 : ∀ x ∈ rows, 0 ≤ x ∧ x ≤ 5) (h5 : Five w) : ((List.range' 1 5).filter fun k => decide ((((w.mergeSort (· ≤ ·)).reverse.take k).sum) > ((rows.map fun r => min r (k : Int)).sum))) = [] ↔ Bd (rsFrom rows 0) (wz w) := by
  have hp : (w.mergeSort (· ≤ ·)).reverse.Perm w := (List.reverse_perm _).trans (List.mergeSort_perm w _)
  have hsort := List.pairwise_mergeSort (le := fun a b : Int => decide (a ≤ b)) (fun a b c h1 h2 => by simp at h1 h2 ⊢; (first | lia | omega)) (fun a b => by simp; (first | lia | omega)) w
  have hs : (w.mergeSort (· ≤ ·)).reverse.Pairwise fun a b => b ≤ a := List.pairwise_reverse.mpr (hsort.imp fun h => of_decide_eq_true h)
  generalize (w.mergeSort (· ≤ ·)).reverse = s at hp hs
  obtain ⟨a1, a2, a3, a4, a5, rfl⟩ := five_list (hp.length_eq.trans h5.1)
  have hpos : ∀ x ∈ [a1, a2, a3, a4, a5], 0 ≤ x ∧ x ≤ 5 := fun x hx => h5.2 x (hp.subset hx)
  have p1 := hpos a1 (by simp); have p2 := hpos a2 (by simp); have p3 := hpos a3 (by simp); have p4 := hpos a4 (by simp); have p5 := hpos a5 (by simp)
  simp only [List.pairwise_cons, List.mem_cons, List.not_mem_nil, or_false, forall_eq_or_imp, forall_eq] at hs
  have ers : rsFrom rows 0 = rows.map Int.toNat := rfl
  have hm : ∀ v, exc (wz w) v = (a1.toNat - v) + (a2.toNat - v) + (a3.toNat - v) + (a4.toNat - v) + (a5.toNat - v) := fun v => by
    rw [exc_list h5.1, ← excL_perm hp]
    unfold excL
    simp
    (first | lia | omega)
  have c1 := min_cnt h9 1; have c2 := min_cnt h9 2; have c3 := min_cnt h9 3; have c4 := min_cnt h9 4; have c5 := min_cnt h9 5
  rw [← ers] at c1 c2 c3 c4 c5
  have m1 := cnt_mono (rsFrom rows 0) (show 1 ≤ 2 by decide); have m2 := cnt_mono (rsFrom rows 0) (show 2 ≤ 3 by decide); have m3 := cnt_mono (rsFrom rows 0) (show 3 ≤ 4 by decide); have m4 := cnt_mono (rsFrom rows 0) (show 4 ≤ 5 by decide)
  have hk : ((List.range' 1 5).filter fun k => decide ((([a1, a2, a3, a4, a5].take k).sum) > ((rows.map fun r => min r (k : Int)).sum))) = [] ↔
      a1.toNat ≤ cnt (rsFrom rows 0) 1 ∧ a1.toNat + a2.toNat ≤ cnt (rsFrom rows 0) 1 + cnt (rsFrom rows 0) 2 ∧ a1.toNat + a2.toNat + a3.toNat ≤ cnt (rsFrom rows 0) 1 + cnt (rsFrom rows 0) 2 + cnt (rsFrom rows 0) 3 ∧
      a1.toNat + a2.toNat + a3.toNat + a4.toNat ≤ cnt (rsFrom rows 0) 1 + cnt (rsFrom rows 0) 2 + cnt (rsFrom rows 0) 3 + cnt (rsFrom rows 0) 4 ∧ a1.toNat + a2.toNat + a3.toNat + a4.toNat + a5.toNat ≤ cnt (rsFrom rows 0) 1 + cnt (rsFrom rows 0) 2 + cnt (rsFrom rows 0) 3 + cnt (rsFrom rows 0) 4 + cnt (rsFrom rows 0) 5 := by
    have er : List.range' 1 5 = [1, 2, 3, 4, 5] := by decide
    rw [er, List.filter_eq_nil_iff]
    simp only [List.mem_cons, List.not_mem_nil, or_false, forall_eq_or_imp, forall_eq, decide_eq_true_eq, c1, c2, c3, c4, c5, cumc, List.take_succ_cons, List.take_zero, List.sum_cons, List.sum_nil, Nat.reduceAdd, Nat.zero_add]
    clear c1 c2 c3 c4 c5 m1 m2 m3 m4 hm hp
    clear hs hsort hpos
    obtain ⟨b1, rfl⟩ := Int.eq_ofNat_of_zero_le p1.1
    obtain ⟨b2, rfl⟩ := Int.eq_ofNat_of_zero_le p2.1
    obtain ⟨b3, rfl⟩ := Int.eq_ofNat_of_zero_le p3.1
    obtain ⟨b4, rfl⟩ := Int.eq_ofNat_of_zero_le p4.1
    obtain ⟨b5, rfl⟩ := Int.eq_ofNat_of_zero_le p5.1
    clear p1 p2 p3 p4 p5
    simp only [Int.toNat_natCast, Int.add_zero]
    generalize cnt (rsFrom rows 0) 1 = n1
    generalize cnt (rsFrom rows 0) 2 = n2
    generalize cnt (rsFrom rows 0) 3 = n3
    generalize cnt (rsFrom rows 0) 4 = n4
    generalize cnt (rsFrom rows 0) 5 = n5
    refine and_congr ?_ (and_congr ?_ (and_congr ?_ (and_congr ?_ ?_))) <;> (constructor <;> intro h <;> (first | lia | omega))
  rw [hk]
  unfold Bd gx
  constructor
  · rintro ⟨h1, h2, h3, h4, h5'⟩ v
    rw [hm]
    exact maj_to ⟨Int.toNat_le_toNat hs.1.1, Int.toNat_le_toNat hs.2.1.1, Int.toNat_le_toNat hs.2.2.1.1, Int.toNat_le_toNat hs.2.2.2.1⟩ h1 h2 h3 h4 h5' v
  · intro h
    exact maj_of ⟨m1, m2, m3, m4⟩ fun v => by rw [← hm]; exact h v
theorem gx_zero : ∀ {rs : List Nat}, (∀ r ∈ rs, r ≤ 5) → gx rs 0 = rs.sum
  | [], _ => rfl
  | r :: rs, h => by
    have ih := gx_zero (rs := rs) fun x hx => h x (.tail _ hx)
    have o := one_sum (h r (.head _))
    unfold gx at ih ⊢
    simp only [cnt_cons, Nat.sub_zero, List.sum_cons] at ih ⊢
    (first | lia | omega)
/-- the chain: each entry comes from the one before -/
theorem chain_zero (w : List Int) : ∀ n, (chainTo w n).getD 0 [] = w
  | 0 => rfl
  | n + 1 => by
    have ih := chain_zero w n
    have hl := (chain_len w n).2
    show (match chainStep (lastL (chainTo w n)) with | none => chainTo w n | some v => chainTo w n ++ [v]).getD 0 [] = w
    split
    · exact ih
    · rw [List.getD, List.getElem?_append_left hl]
      exact ih
theorem chain_at (w : List Int) : ∀ n i, i + 1 < (chainTo w n).length → chainStep ((chainTo w n).getD i []) = some ((chainTo w n).getD (i + 1) [])
  | 0, i, h => by
    have : (chainTo w 0).length = 1 := rfl
    (first | lia | omega)
  | n + 1, i, h => by
    have ih := chain_at w n i
    revert h
    show i + 1 < (match chainStep (lastL (chainTo w n)) with | none => chainTo w n | some v => chainTo w n ++ [v]).length → chainStep ((match chainStep (lastL (chainTo w n)) with | none => chainTo w n | some v => chainTo w n ++ [v]).getD i []) = some ((match chainStep (lastL (chainTo w n)) with | none => chainTo w n | some v => chainTo w n ++ [v]).getD (i + 1) [])
    split
    · exact ih
    · rename_i v hv
      intro h
      rw [List.length_append, List.length_singleton] at h
      by_cases hi : i + 1 < (chainTo w n).length
      · have := ih hi
        simp only [List.getD, List.getElem?_append_left hi, List.getElem?_append_left (show i < (chainTo w n).length by (first | lia | omega))] at this ⊢
        exact this
      · have e : i + 1 = (chainTo w n).length := by (first | lia | omega)
        have e1 : (chainTo w n ++ [v]).getD i [] = lastL (chainTo w n) := by
          unfold lastL
          rw [List.getLast?_eq_getElem?, List.getD, List.getElem?_append_left (by (first | lia | omega))]
          congr 2
          (first | lia | omega)
        have e2 : (chainTo w n ++ [v]).getD (i + 1) [] = v := by
          rw [e, List.getD, List.getElem?_append_right (Nat.le_refl _)]
          simp
        rw [e1, e2]
        exact hv
theorem exc_at {f f' : Nat → Nat} {g : Nat} (hg : g < 5) (ho : ∀ c, c ≠ g → f' c = f c) (v : Nat) : exc f' v + (f g - v) = exc f v + (f' g - v) := by
  have a := five_cases hg
  unfold exc
  rcases a with (rfl | rfl) | rfl | rfl | rfl
  · rw [ho 1 (by decide), ho 2 (by decide), ho 3 (by decide), ho 4 (by decide)]; ac_rfl
  · rw [ho 0 (by decide), ho 2 (by decide), ho 3 (by decide), ho 4 (by decide)]; ac_rfl
  · rw [ho 0 (by decide), ho 1 (by decide), ho 3 (by decide), ho 4 (by decide)]; ac_rfl
  · rw [ho 0 (by decide), ho 1 (by decide), ho 2 (by decide), ho 4 (by decide)]; ac_rfl
  · rw [ho 0 (by decide), ho 1 (by decide), ho 2 (by decide), ho 3 (by decide)]; ac_rfl
theorem succ_up {x v : Nat} (h : v ≤ x) : x + 1 - v = (x - v) + 1 := Nat.succ_sub h
theorem move_eq {m1 m3 m4 p q v : Nat} (hp : v ≤ p) (hq : v ≤ q) (a : m1 + (p + 1 - v) = m3 + (p - v)) (b : m4 + (q - v) = m1 + (q + 1 - v)) : m3 = m4 := by
  rw [succ_up hp, Nat.add_right_comm m1 (p - v) 1 |> (Nat.add_assoc m1 (p - v) 1).symm.trans] at a
  rw [succ_up hq, Nat.add_right_comm m1 (q - v) 1 |> (Nat.add_assoc m1 (q - v) 1).symm.trans] at b
  exact (Nat.add_right_cancel a).symm.trans (Nat.add_right_cancel b).symm
theorem move_le {m1 m3 m4 p q v : Nat} (hpq : p ≤ q) (a : m1 + (p + 1 - v) = m3 + (p - v)) (b : m4 + (q - v) = m1 + (q + 1 - v)) : m3 ≤ m4 := by
  by_cases hp : v ≤ p
  · exact Nat.le_of_eq (move_eq hp (Nat.le_trans hp hpq) a b)
  · rw [Nat.sub_eq_zero_of_le (Nat.lt_of_not_le hp), Nat.sub_eq_zero_of_le (Nat.le_of_not_le hp)] at a
    have c : m1 + (q - v) ≤ m4 + (q - v) := b ▸ Nat.add_le_add_left (Nat.sub_le_sub_right (Nat.le_succ q) v) m1
    exact (show m1 = m3 from a) ▸ Nat.le_of_add_le_add_right c
theorem exc_move {f f' : Nat → Nat} {g t : Nat} (hg : g < 5) (ht : t < 5) (hne : g ≠ t) (h1 : f' g + 1 = f g) (h2 : f' t = f t + 1) (ho : ∀ c, c ≠ g → c ≠ t → f' c = f c) (hle : f g ≤ f t) (v : Nat) : exc f v ≤ exc f' v ∧ exc f 0 = exc f' 0 := by
  have e1 := fun v => exc_at (f := f) (f' := fun c => if c = g then f' g else f c) hg (fun c hc => by rw [if_neg hc]) v
  have e2 := fun v => exc_at (f := fun c => if c = g then f' g else f c) (f' := f') ht (fun c hc => by
    by_cases q : c = g
    · rw [if_pos q, q]
    · rw [if_neg q]; exact ho c q hc) v
  simp only [if_true, if_neg (Ne.symm hne), ← h1, h2] at e1 e2
  have hpq : f' g ≤ f t := Nat.le_of_succ_le (Nat.le_trans (Nat.le_of_eq h1) hle)
  exact ⟨move_le hpq (e1 v) (e2 v), move_eq (Nat.zero_le _) (Nat.zero_le _) (e1 0) (e2 0)⟩
theorem chain_step {w v : List Int} (h5 : Five w) (h : chainStep w = some v) : Five v ∧ (∀ x, exc (wz w) x ≤ exc (wz v) x) ∧ exc (wz w) 0 = exc (wz v) 0 := by
  unfold chainStep at h
  split at h
  · cases h
  rename_i h1
  split at h
  · cases h
  rename_i h2
  cases h
  have hp : posL w ≠ [] := fun q => h1 (.inl q)
  have hf : freeL w ≠ [] := fun q => h1 (.inr q)
  have hgt : giver w ≠ taker w := fun q => h2 (.inl q)
  have hle : ¬ w.getD (giver w) 0 > w.getD (taker w) 0 := fun q => h2 (.inr q)
  have hg := givers_ne h5 hp
  have ht := takers_ne h5 hf
  have hg5 := giver_lt hg
  have ht5 := taker_lt ht
  have hgp := (minL_pos hp).1
  have hgv := giver_val hg
  have f5 := five_moved h5 hp hf hgt
  have z := five_ge h5 (giver w)
  have z2 := five_ge h5 (taker w)
  have e1 : (moved w).getD (taker w) 0 = w.getD (taker w) 0 + 1 := by
    unfold moved
    rw [getD_set_ne hgt, List.getD, List.getElem?_set, if_pos rfl, if_pos (by rw [List.length_set, h5.1]; exact ht5)]
    rfl
  have e2 : (moved w).getD (giver w) 0 = w.getD (giver w) 0 - 1 := by
    unfold moved
    rw [getD_set_ne (fun q => hgt q.symm), List.getD, List.getElem?_set, if_pos rfl, if_pos (by rw [h5.1]; exact hg5)]
    rfl
  have e3 : ∀ c, c ≠ giver w → c ≠ taker w → (moved w).getD c 0 = w.getD c 0 := fun c a b => by
    unfold moved
    rw [getD_set_ne (fun q => b q.symm), getD_set_ne (fun q => a q.symm)]
  have m := fun x => exc_move (f := wz w) (f' := wz (moved w)) hg5 ht5 hgt (by unfold wz at z ⊢; rw [e2]; (first | lia | omega)) (by unfold wz at z2 ⊢; rw [e1]; (first | lia | omega)) (fun c a b => by unfold wz; rw [e3 c a b]) (by (first | lia | omega)) x
  exact ⟨f5, fun x => (m x).1, (m 0).2⟩
theorem chain_five {w : List Int} (h5 : Five w) (n : Nat) : ∀ i, i < (chainTo w n).length → Five ((chainTo w n).getD i []) ∧ exc (wz ((chainTo w n).getD i [])) 0 = exc (wz w) 0
  | 0, _ => by rw [chain_zero]; exact ⟨h5, rfl⟩
  | i + 1, hi => by
    obtain ⟨a, b⟩ := chain_five h5 n i (by (first | lia | omega))
    obtain ⟨c, _, d⟩ := chain_step a (chain_at w n i hi)
    exact ⟨c, d.symm.trans b⟩
theorem chain_mono {w : List Int} (h5 : Five w) (n : Nat) {rs : List Nat} : ∀ d i, i + d < (chainTo w n).length → Bd rs (wz ((chainTo w n).getD (i + d) [])) → Bd rs (wz ((chainTo w n).getD i []))
  | 0, _, _, h => h
  | d + 1, i, hi, h => by
    refine chain_mono h5 n d i (by (first | lia | omega)) fun v => ?_
    obtain ⟨_, m, _⟩ := chain_step (chain_five h5 n (i + d) (by (first | lia | omega))).1 (chain_at w n (i + d) (by (first | lia | omega)))
    exact Nat.le_trans (m v) (h v)
end
section
def zsOf (t : Nat) : List Int := (bitsTo t 25).map fun k => ((k : Nat) : Int)
def rowsOf (t : Nat) : List Int := (List.range 5).map (rowC (zsOf t))
def colsOf (t : Nat) : List Int := (List.range 5).map (colC (zsOf t))
theorem filt_len (q : Nat → Bool) : ∀ l : List Nat, (l.filter q).length = (l.map fun k => (q k).toNat).sum
  | [] => rfl
  | a :: l => by
    rw [List.map_cons, List.sum_cons, ← filt_len q l, List.filter_cons]
    cases q a
    · simp
    · simp only [if_true, List.length_cons, Bool.toNat_true]; (first | lia | omega)
theorem zs_len (t : Nat) (P : Int → Bool) (L : List Nat) (h : (List.range 25).filter (P ∘ fun k => ((k : Nat) : Int)) = L) : ((zsOf t).filter P).length = (L.map fun k => (t.testBit k).toNat).sum := by
  unfold zsOf bitsTo
  rw [List.filter_map, List.length_map, List.filter_filter, ← filt_len, ← h, List.filter_filter]
  congr 1
  exact List.filter_congr fun k _ => Bool.and_comm ..
theorem row_bits (t : Nat) {i : Nat} (hi : i < 5) : rowC (zsOf t) i = ((rsum t i : Nat) : Int) := by
  rw [row_same]
  unfold rowD
  have : ((List.range 25).filter ((fun z : Int => decide (z.fdiv 5 = 0 + (i : Int))) ∘ fun k => ((k : Nat) : Int))) = [5 * i + 0, 5 * i + 1, 5 * i + 2, 5 * i + 3, 5 * i + 4] := by
    rcases i with _ | _ | _ | _ | _ | i <;> first | decide | (first | lia | omega)
  rw [zs_len t _ _ this]
  unfold rsum bt
  simp only [List.map_cons, List.map_nil, List.sum_cons, List.sum_nil]
  congr 1
  (first | lia | omega)
theorem up_five (t c : Nat) : up t 5 c = bt t 0 c + bt t 1 c + bt t 2 c + bt t 3 c + bt t 4 c := by
  unfold up up up up up up
  (first | lia | omega)
theorem col_bits (t : Nat) {c : Nat} (hc : c < 5) : colC (zsOf t) c = ((up t 5 c : Nat) : Int) := by
  rw [col_same]
  unfold colD
  have : ((List.range 25).filter ((fun z : Int => decide (z.fmod 5 = 0 + (c : Int))) ∘ fun k => ((k : Nat) : Int))) = [5 * 0 + c, 5 * 1 + c, 5 * 2 + c, 5 * 3 + c, 5 * 4 + c] := by
    rcases c with _ | _ | _ | _ | _ | c <;> first | decide | (first | lia | omega)
  rw [zs_len t _ _ this, up_five]
  unfold bt
  simp only [List.map_cons, List.map_nil, List.sum_cons, List.sum_nil]
  congr 1
  (first | lia | omega)
theorem bt_le (t i c : Nat) : bt t i c ≤ 1 := by unfold bt; exact Bool.toNat_le _
theorem rows_eq (t : Nat) : rowsOf t = [((rsum t 0 : Nat) : Int), ((rsum t 1 : Nat) : Int), ((rsum t 2 : Nat) : Int), ((rsum t 3 : Nat) : Int), ((rsum t 4 : Nat) : Int)] := by
  unfold rowsOf
  rw [← row_bits t (show 0 < 5 by (first | lia | omega)), ← row_bits t (show 1 < 5 by (first | lia | omega)), ← row_bits t (show 2 < 5 by (first | lia | omega)), ← row_bits t (show 3 < 5 by (first | lia | omega)), ← row_bits t (show 4 < 5 by (first | lia | omega))]
  rfl
theorem cols_eq (t : Nat) : colsOf t = [((up t 5 0 : Nat) : Int), ((up t 5 1 : Nat) : Int), ((up t 5 2 : Nat) : Int), ((up t 5 3 : Nat) : Int), ((up t 5 4 : Nat) : Int)] := by
  unfold colsOf
  rw [← col_bits t (show 0 < 5 by (first | lia | omega)), ← col_bits t (show 1 < 5 by (first | lia | omega)), ← col_bits t (show 2 < 5 by (first | lia | omega)), ← col_bits t (show 3 < 5 by (first | lia | omega)), ← col_bits t (show 4 < 5 by (first | lia | omega))]
  rfl
theorem rsum_le (t i : Nat) : rsum t i ≤ 5 := by
  have a := bt_le t i 0; have b := bt_le t i 1; have c := bt_le t i 2; have d := bt_le t i 3; have e := bt_le t i 4
  unfold rsum; (first | lia | omega)
theorem up_le (t c : Nat) : up t 5 c ≤ 5 := by
  have a := bt_le t 0 c; have b := bt_le t 1 c; have c' := bt_le t 2 c; have d := bt_le t 3 c; have e := bt_le t 4 c
  rw [up_five]; (first | lia | omega)
theorem rows_five (t : Nat) : (rowsOf t).length = 5 ∧ ∀ x ∈ rowsOf t, 0 ≤ x ∧ x ≤ 5 := by
  rw [rows_eq]
  refine ⟨rfl, fun x hx => ?_⟩
  have a := rsum_le t 0; have b := rsum_le t 1; have c := rsum_le t 2; have d := rsum_le t 3; have e := rsum_le t 4
  simp only [List.mem_cons, List.not_mem_nil, or_false] at hx
  (first | lia | omega)
theorem cols_five (t : Nat) : Five (colsOf t) := by
  rw [cols_eq]
  refine ⟨rfl, fun x hx => ?_⟩
  have a := up_le t 0; have b := up_le t 1; have c := up_le t 2; have d := up_le t 3; have e := up_le t 4
  simp only [List.mem_cons, List.not_mem_nil, or_false] at hx
  (first | lia | omega)
theorem rs_rows (t : Nat) : rsFrom (rowsOf t) 0 = [rsum t 0, rsum t 1, rsum t 2, rsum t 3, rsum t 4] := by
  unfold rsFrom
  rw [rows_eq]
  rfl
theorem row_get (t : Nat) {i : Nat} (hi : i < 5) : ((rowsOf t).getD i 0).toNat = rsum t i := by
  rw [rows_eq]
  rcases i with _ | _ | _ | _ | _ | i <;> first | rfl | (first | lia | omega)
theorem col_get (t : Nat) {c : Nat} (hc : c < 5) : wz (colsOf t) c = up t 5 c := by
  unfold wz
  rw [cols_eq]
  rcases c with _ | _ | _ | _ | _ | c <;> first | rfl | (first | lia | omega)
theorem exc_congr {f g : Nat → Nat} (h : ∀ c, c < 5 → f c = g c) (v : Nat) : exc f v = exc g v := by
  unfold exc
  rw [h 0 (by (first | lia | omega)), h 1 (by (first | lia | omega)), h 2 (by (first | lia | omega)), h 3 (by (first | lia | omega)), h 4 (by (first | lia | omega))]
theorem tab_bd (t : Nat) : Bd (rsFrom (rowsOf t) 0) (wz (colsOf t)) ∧ exc (wz (colsOf t)) 0 = gx (rsFrom (rowsOf t) 0) 0 := by
  have l := fun i => rsum_le t i
  have b := fun i c (_ : c < 5) => bt_le t i c
  have h5 : Bd [] (fun _ => 0) := fun v => by unfold exc; simp
  have h4 : Bd [rsum t 4] (fun c => bt t 4 c) := bd_back (d := bt t 4) (l 4) (b 4) rfl (fun c _ => by (first | lia | omega)) h5
  have h3 : Bd [rsum t 3, rsum t 4] (fun c => bt t 3 c + bt t 4 c) := bd_back (d := bt t 3) (l 3) (b 3) rfl (fun c _ => by (first | lia | omega)) h4
  have h2 : Bd [rsum t 2, rsum t 3, rsum t 4] (fun c => bt t 2 c + bt t 3 c + bt t 4 c) := bd_back (d := bt t 2) (l 2) (b 2) rfl (fun c _ => by (first | lia | omega)) h3
  have h1 : Bd [rsum t 1, rsum t 2, rsum t 3, rsum t 4] (fun c => bt t 1 c + bt t 2 c + bt t 3 c + bt t 4 c) := bd_back (d := bt t 1) (l 1) (b 1) rfl (fun c _ => by (first | lia | omega)) h2
  have h0 : Bd [rsum t 0, rsum t 1, rsum t 2, rsum t 3, rsum t 4] (fun c => bt t 0 c + bt t 1 c + bt t 2 c + bt t 3 c + bt t 4 c) := bd_back (d := bt t 0) (l 0) (b 0) rfl (fun c _ => by (first | lia | omega)) h1
  have hc : ∀ c, c < 5 → wz (colsOf t) c = bt t 0 c + bt t 1 c + bt t 2 c + bt t 3 c + bt t 4 c := fun c hc => by rw [col_get t hc, up_five]
  rw [rs_rows]
  refine ⟨fun v => by rw [exc_congr hc]; exact h0 v, ?_⟩
  rw [exc_congr hc, gx_zero (by simp only [List.mem_cons, List.not_mem_nil, or_false, forall_eq_or_imp, forall_eq]; exact ⟨l 0, l 1, l 2, l 3, l 4⟩)]
  unfold exc rsum
  simp only [List.sum_cons, List.sum_nil]
  (first | lia | omega)
/-- what Gale's rule makes of a table's own sums: a table of the same sums, greedy -/
theorem gale_made (t : Nat) (side : Nat) (hs : side < 2) : ∃ (st : List Int × Int) (u : Nat), galeF (rowsOf t) side (colsOf t) 5 = some st ∧ st.2 = (u : Int) ∧ u < 2 ^ 25 ∧ (∀ i, i < 5 → rsum u i = rsum t i) ∧ (∀ c, c < 5 → up u 5 c = up t 5 c) ∧
    ∀ i, i < 5 → ∀ c c', c < 5 → c' < 5 → u.testBit (5 * i + c) = true → u.testBit (5 * i + c') = false → up u 5 c' + up u i c ≤ up u 5 c + up u i c' := by
  obtain ⟨a1, a2⟩ := tab_bd t
  obtain ⟨w, u, e1, e2, e3, e4, e5, e6, e7, e8⟩ := gale_inv (rows_five t).1 (rows_five t).2 hs (cols_five t) a1 a2 5 (Nat.le_refl _)
  have z := gale_zero (rows_five t).1 (rows_five t).2 hs (cols_five t) e4
  have hc : ∀ c, c < 5 → up u 5 c = up t 5 c := fun c hc => by
    have x := e6 c hc
    have y := z c hc
    rw [col_get t hc] at x
    (first | lia | omega)
  refine ⟨_, u, e1, rfl, ?_, fun i hi => by rw [e7 i hi, row_get t hi], hc, fun i hi c c' h1 h2 b1 b2 => ?_⟩
  · refine Nat.lt_pow_two_of_testBit u fun i hi => ?_
    cases q : u.testBit i with
    | false => rfl
    | true => have := e5 i q; (first | lia | omega)
  · have := e8 i hi c c' h1 h2 b1 b2
    rw [col_get t h1, col_get t h2] at this
    rw [hc c h1, hc c' h2]
    exact this
theorem same_sums {t u : Nat} (h1 : ∀ i, i < 5 → rsum u i = rsum t i) (h2 : ∀ c, c < 5 → up u 5 c = up t 5 c) : rowsOf u = rowsOf t ∧ colsOf u = colsOf t := by
  rw [rows_eq, rows_eq, cols_eq, cols_eq, h1 0 (by (first | lia | omega)), h1 1 (by (first | lia | omega)), h1 2 (by (first | lia | omega)), h1 3 (by (first | lia | omega)), h1 4 (by (first | lia | omega)), h2 0 (by (first | lia | omega)), h2 1 (by (first | lia | omega)), h2 2 (by (first | lia | omega)), h2 3 (by (first | lia | omega)), h2 4 (by (first | lia | omega))]
  exact ⟨rfl, rfl⟩
def overQ (rows great : List Int) (k : Nat) : Bool := decide ((great.take k).sum > (rows.map fun r => min r (k : Int)).sum)
def overL (rows w : List Int) : List Nat := (List.range' 1 5).filter (overQ rows (w.mergeSort (· ≤ ·)).reverse)
theorem entry_bd (t : Nat) {side : Nat} (hs : side < 2) {i : Nat} (hi : i < (chainTo (colsOf t) 20).length) : galeF (rowsOf t) side ((chainTo (colsOf t) 20).getD i []) 5 ≠ none ↔ Bd (rsFrom (rowsOf t) 0) (wz ((chainTo (colsOf t) 20).getD i [])) := by
  obtain ⟨a, b⟩ := chain_five (cols_five t) 20 i hi
  exact gale_bd (rows_five t).1 (rows_five t).2 hs a (b.trans (tab_bd t).2)
theorem over_iff (t : Nat) (ht : t < 2 ^ 25) (side : Nat) (hs : side < 2) (i : Nat) (hi : i < (chainTo (colsOf t) 20).length) : overL (rowsOf t) ((chainTo (colsOf t) 20).getD i []) = [] ↔ galeF (rowsOf t) side ((chainTo (colsOf t) 20).getD i []) 5 ≠ none := by
  rw [entry_bd t hs hi]
  exact over_bd (rows_five t).1 (rows_five t).2 (chain_five (cols_five t) 20 i hi).1
theorem chain_down (t : Nat) (ht : t < 2 ^ 25) (side : Nat) (hs : side < 2) : Down (fun i => !(galeF (rowsOf t) side ((chainTo (colsOf t) 20).getD i []) 5).isNone) (chainTo (colsOf t) 20).length := by
  have key : ∀ i, i < (chainTo (colsOf t) 20).length → ((!(galeF (rowsOf t) side ((chainTo (colsOf t) 20).getD i []) 5).isNone) = true ↔ Bd (rsFrom (rowsOf t) 0) (wz ((chainTo (colsOf t) 20).getD i []))) := fun i hi => by
    rw [← entry_bd t hs hi]
    cases galeF (rowsOf t) side ((chainTo (colsOf t) 20).getD i []) 5 <;> simp
  intro i j hij hj h
  refine (key i (by (first | lia | omega))).mpr ?_
  have := (key j hj).mp h
  obtain ⟨d, rfl⟩ : ∃ d, j = i + d := ⟨j - i, by (first | lia | omega)⟩
  exact chain_mono (cols_five t) 20 d i hj this
end
section
theorem low_row : ((List.range 5).all fun i => (List.range 32).all fun a => a == 0 || (List.range 5).any fun c => lowB (a * 2 ^ (5 * i)) == 2 ^ (5 * i + c) && a.testBit c) = true := by decide +kernel
theorem mask_bit (i n : Nat) : (rowM i).testBit n = (decide (5 * i ≤ n) && decide (n < 5 * i + 5)) := by
  unfold rowM
  rw [show (31 : Nat) = 2 ^ 5 - 1 from rfl, Nat.mul_comm, Nat.testBit_two_pow_mul, Nat.testBit_two_pow_sub_one]
  by_cases h : 5 * i ≤ n
  · simp only [h, decide_true, Bool.true_and, ge_iff_le]
    rw [Bool.eq_iff_iff, decide_eq_true_eq, decide_eq_true_eq]
    (first | lia | omega)
  · simp only [h, decide_false, Bool.false_and, ge_iff_le]
theorem but_bit (x y n : Nat) : (butB x y).testBit n = (x.testBit n && !y.testBit n) := by
  unfold butB
  rw [Nat.testBit_xor, Nat.testBit_and]
  cases x.testBit n <;> cases y.testBit n <;> rfl
/-- the lowest one of a number that lies in row i -/
theorem low_pick {x i : Nat} (hi : i < 5) (hx : ∀ n, x.testBit n = true → 5 * i ≤ n ∧ n < 5 * i + 5) (h0 : x ≠ 0) : ∃ c, c < 5 ∧ lowB x = 2 ^ (5 * i + c) ∧ x.testBit (5 * i + c) = true := by
  have hb : ∀ m, (x / 2 ^ (5 * i)).testBit m = x.testBit (5 * i + m) := fun m => by rw [Nat.testBit_div_two_pow, Nat.add_comm]
  have ha : x / 2 ^ (5 * i) < 32 := by
    refine Nat.lt_pow_two_of_testBit (n := 5) _ fun m hm => ?_
    rw [hb]
    cases q : x.testBit (5 * i + m) with
    | false => rfl
    | true => have := hx _ q; (first | lia | omega)
  have he : x = x / 2 ^ (5 * i) * 2 ^ (5 * i) := by
    refine Nat.eq_of_testBit_eq fun n => ?_
    rw [Nat.mul_comm, Nat.testBit_two_pow_mul]
    by_cases h : 5 * i ≤ n
    · rw [decide_eq_true h, Bool.true_and, hb]
      congr 1
      (first | lia | omega)
    · rw [decide_eq_false h, Bool.false_and]
      cases q : x.testBit n with
      | false => rfl
      | true => have := hx _ q; (first | lia | omega)
  have hne : x / 2 ^ (5 * i) ≠ 0 := fun q => h0 (by rw [he, q, Nat.zero_mul])
  have h := low_row
  rw [List.all_eq_true] at h
  have h1 := h i (List.mem_range.mpr hi)
  rw [List.all_eq_true] at h1
  have h2 := h1 _ (List.mem_range.mpr ha)
  rw [Bool.or_eq_true, beq_iff_eq, List.any_eq_true] at h2
  obtain ⟨c, hc, h3⟩ := h2.resolve_left hne
  rw [Bool.and_eq_true, beq_iff_eq, ← he, hb] at h3
  exact ⟨c, List.mem_range.mp hc, h3.1, h3.2⟩
def S5 (f : Nat → Nat) : Nat := f 0 + f 1 + f 2 + f 3 + f 4
theorem S5_at {f f' : Nat → Nat} {g : Nat} (hg : g < 5) (ho : ∀ c, c ≠ g → f' c = f c) : S5 f' + f g = S5 f + f' g := exc_at hg ho 0
theorem S5_two {f f' : Nat → Nat} {g m : Nat} (hg : g < 5) (hm : m < 5) (hne : g ≠ m) (hs : f' g + f' m = f g + f m) (ho : ∀ c, c ≠ g → c ≠ m → f' c = f c) : S5 f' = S5 f := by
  have e1 := S5_at (f := f) (f' := fun c => if c = g then f' g else f c) hg fun c hc => by (try dsimp only); rw [if_neg hc]
  have e2 := S5_at (f := fun c => if c = g then f' g else f c) (f' := f') hm fun c hc => by
    (try dsimp only)
    by_cases q : c = g
    · rw [if_pos q, q]
    · rw [if_neg q]; exact ho c q hc
  (try dsimp only at e1 e2)
  rw [if_pos rfl] at e1
  rw [if_neg (fun q => hne q.symm)] at e2
  (first | lia | omega)
theorem S5_congr {f g : Nat → Nat} (h : ∀ c, c < 5 → f c = g c) : S5 f = S5 g := by
  unfold S5
  rw [h 0 (by decide), h 1 (by decide), h 2 (by decide), h 3 (by decide), h 4 (by decide)]
theorem S5_le {f g : Nat → Nat} (h : ∀ c, c < 5 → f c ≤ g c) : S5 f ≤ S5 g := sum5le (h 0 (by decide)) (h 1 (by decide)) (h 2 (by decide)) (h 3 (by decide)) (h 4 (by decide))
theorem S5_eq_le {f g : Nat → Nat} (h : ∀ c, c < 5 → f c ≤ g c) (hs : S5 f = S5 g) : ∀ c, c < 5 → f c = g c := by
  intro x hx
  refine Nat.le_antisymm (h x hx) (Nat.le_of_not_lt fun q => ?_)
  have k : ∀ c, c < 5 → f c + (if c = x then 1 else 0) ≤ g c := fun c hc => by
    split
    · rename_i e
      rw [e]; exact q
    · exact h c hc
  have z := sum5dn (k 0 (by decide)) (k 1 (by decide)) (k 2 (by decide)) (k 3 (by decide)) (k 4 (by decide))
  rw [at_sum x hx] at z
  exact Nat.not_succ_le_self (S5 f) (Nat.le_trans z (Nat.le_of_eq hs.symm))
theorem bt_one {t i c : Nat} : bt t i c = 1 ↔ t.testBit (5 * i + c) = true := by unfold bt; cases t.testBit (5 * i + c) <;> simp
theorem bt_zero {t i c : Nat} : bt t i c = 0 ↔ t.testBit (5 * i + c) = false := by unfold bt; cases t.testBit (5 * i + c) <;> simp
theorem rsum_S (t i : Nat) : rsum t i = S5 (bt t i) := rfl
theorem up_S (t c : Nat) : up t 5 c = S5 fun i => bt t i c := up_five t c
/-- columns of row i that are in T and not in U -/
def mis (T U i : Nat) : Nat := S5 fun c => bt T i c * (1 - bt U i c)
theorem bt_or (t i c : Nat) : bt t i c = 0 ∨ bt t i c = 1 := by unfold bt; cases t.testBit (5 * i + c) <;> simp
theorem mis_bal {T U i : Nat} (h : rsum T i = rsum U i) : mis T U i = mis U T i ∧ mis T U i ≤ 2 := by
  have key : ∀ c, bt T i c * (1 - bt U i c) + bt U i c = bt U i c * (1 - bt T i c) + bt T i c ∧ bt T i c * (1 - bt U i c) + bt U i c * (1 - bt T i c) ≤ 1 := fun c => by
    rcases bt_or T i c with e | e <;> rcases bt_or U i c with e2 | e2 <;> rw [e, e2] <;> decide
  have e : mis T U i + rsum U i = mis U T i + rsum T i := (sum5eq (key 0).1 (key 1).1 (key 2).1 (key 3).1 (key 4).1).trans (sum5add _ _ _ _ _ _ _ _ _ _)
  rw [h] at e
  have e := Nat.add_right_cancel e
  have l : mis T U i + mis U T i ≤ 5 := sum5dn (key 0).2 (key 1).2 (key 2).2 (key 3).2 (key 4).2
  rw [← e] at l
  exact ⟨e, by (first | lia | omega)⟩
theorem mis_zero {T U i : Nat} (h : rsum T i = rsum U i) (h0 : mis T U i = 0) : ∀ c, c < 5 → bt T i c = bt U i c := by
  refine S5_eq_le (fun c hc => ?_) h
  have := S5_eq_le (f := fun _ => 0) (g := fun c => bt T i c * (1 - bt U i c)) (fun _ _ => Nat.zero_le _) h0.symm c hc
  (try dsimp only at this)
  rcases bt_or T i c with e | e <;> rcases bt_or U i c with e2 | e2 <;> rw [e, e2] at this ⊢ <;> first | decide | cases this
theorem row_same_of {T U i : Nat} (h : ∀ c, c < 5 → bt T i c = bt U i c) : T &&& rowM i = U &&& rowM i := by
  refine Nat.eq_of_testBit_eq fun n => ?_
  rw [Nat.testBit_and, Nat.testBit_and, mask_bit]
  by_cases q : 5 * i ≤ n ∧ n < 5 * i + 5
  · have := h (n - 5 * i) (by (first | lia | omega))
    unfold bt at this
    rw [show 5 * i + (n - 5 * i) = n by (first | lia | omega)] at this
    have : T.testBit n = U.testBit n := by cases e1 : T.testBit n <;> cases e2 : U.testBit n <;> rw [e1, e2] at this <;> first | rfl | cases this
    rw [this]
  · have : (decide (5 * i ≤ n) && decide (n < 5 * i + 5)) = false := by
      rw [Bool.and_eq_false_iff, decide_eq_false_iff_not, decide_eq_false_iff_not]; (first | lia | omega)
    rw [this, Bool.and_false, Bool.and_false]
theorem row_mis {T U i : Nat} (h : T &&& rowM i = U &&& rowM i) : mis T U i = 0 := by
  have e : ∀ c, c < 5 → bt T i c = bt U i c := fun c hc => by
    have := congrArg (fun x => x.testBit (5 * i + c)) h
    (try dsimp only at this)
    rw [Nat.testBit_and, Nat.testBit_and, mask_bit, decide_eq_true (show 5 * i ≤ 5 * i + c by (first | lia | omega)), decide_eq_true (show 5 * i + c < 5 * i + 5 by (first | lia | omega))] at this
    simp only [Bool.and_true] at this
    unfold bt
    rw [this]
  have : mis T U i = S5 fun _ => 0 := S5_congr fun c hc => by
    rw [e c hc]
    rcases bt_or U i c with q | q <;> rw [q]
  rw [this]; rfl
theorem but_in (T U i : Nat) : ∀ n, (butB (T &&& rowM i) (U &&& rowM i)).testBit n = true → (5 * i ≤ n ∧ n < 5 * i + 5) ∧ T.testBit n = true ∧ U.testBit n = false := fun n h => by
  rw [but_bit, Nat.testBit_and, Nat.testBit_and, mask_bit] at h
  by_cases q : 5 * i ≤ n ∧ n < 5 * i + 5
  · rw [decide_eq_true q.1, decide_eq_true q.2] at h
    simp only [Bool.and_true, Bool.and_eq_true, Bool.not_eq_true'] at h
    exact ⟨q, h.1, h.2⟩
  · have : (decide (5 * i ≤ n) && decide (n < 5 * i + 5)) = false := by
      rw [Bool.and_eq_false_iff, decide_eq_false_iff_not, decide_eq_false_iff_not]; (first | lia | omega)
    rw [this] at h
    simp at h
theorem but_ne {T U i : Nat} (h : mis T U i ≠ 0) : butB (T &&& rowM i) (U &&& rowM i) ≠ 0 := fun q => by
  refine h ?_
  have : mis T U i = S5 fun _ => 0 := S5_congr fun c hc => by
    have z : (butB (T &&& rowM i) (U &&& rowM i)).testBit (5 * i + c) = false := by rw [q]; simp
    rw [but_bit, Nat.testBit_and, Nat.testBit_and, mask_bit, decide_eq_true (show 5 * i ≤ 5 * i + c by (first | lia | omega)), decide_eq_true (show 5 * i + c < 5 * i + 5 by (first | lia | omega))] at z
    simp only [Bool.and_true] at z
    unfold bt
    cases e1 : T.testBit (5 * i + c) <;> cases e2 : U.testBit (5 * i + c) <;> simp_all
  rw [this]; rfl
structure LInv (T U i : Nat) : Prop where
  lt : T < 2 ^ 25
  row : ∀ r, r < 5 → rsum T r = rsum U r
  col : ∀ c, c < 5 → up T 5 c = up U 5 c
  same : ∀ r c, r < i → c < 5 → bt T r c = bt U r c
/-- a row below that has come and not gone -/
theorem below_has {T U i g m : Nat} (hi : i < 4) (I : LInv T U i) (hg : g < 5) (hm : m < 5) (h1 : bt T i g = 1) (h2 : bt T i m = 0) (hgr : up U 5 g + up U i m ≤ up U 5 m + up U i g) :
    ∃ j, j < 4 - i ∧ bt T (i + 1 + j) m = 1 ∧ bt T (i + 1 + j) g = 0 := by
  apply Classical.byContradiction
  intro hn
  have hle : ∀ j, j < 4 - i → bt T (i + 1 + j) m ≤ bt T (i + 1 + j) g := fun j hj => by
    rcases bt_or T (i + 1 + j) m with e | e
    · rw [e]; exact Nat.zero_le _
    · rcases bt_or T (i + 1 + j) g with e2 | e2
      · exact absurd ⟨j, hj, e, e2⟩ hn
      · rw [e, e2]; exact Nat.le_refl _
  have c1 := I.col g hg
  have c2 := I.col m hm
  have s := fun r (h : r < i) => And.intro (I.same r g h hg) (I.same r m h hm)
  rw [up_five] at c1 c2
  have q : (i = 0 ∨ i = 1) ∨ i = 2 ∨ i = 3 := by (first | lia | omega)
  rcases q with (rfl | rfl) | rfl | rfl
  · have l0 := hle 0 (by (first | lia | omega)); have l1 := hle 1 (by (first | lia | omega)); have l2 := hle 2 (by (first | lia | omega)); have l3 := hle 3 (by (first | lia | omega))
    simp only [up, Nat.reduceAdd] at hgr l0 l1 l2 l3
    rw [up_five] at c1 c2
    (first | lia | omega)
  · have l0 := hle 0 (by (first | lia | omega)); have l1 := hle 1 (by (first | lia | omega)); have l2 := hle 2 (by (first | lia | omega))
    have s0 := s 0 (by (first | lia | omega))
    simp only [up, Nat.reduceAdd] at hgr l0 l1 l2
    rw [up_five] at c1 c2
    (first | lia | omega)
  · have l0 := hle 0 (by (first | lia | omega)); have l1 := hle 1 (by (first | lia | omega))
    have s0 := s 0 (by (first | lia | omega)); have s1 := s 1 (by (first | lia | omega))
    simp only [up, Nat.reduceAdd] at hgr l0 l1
    rw [up_five] at c1 c2
    (first | lia | omega)
  · have l0 := hle 0 (by (first | lia | omega))
    have s0 := s 0 (by (first | lia | omega)); have s1 := s 1 (by (first | lia | omega)); have s2 := s 2 (by (first | lia | omega))
    simp only [up, Nat.reduceAdd] at hgr l0
    rw [up_five] at c1 c2
    (first | lia | omega)
/-- T with the four bits of two rows and two columns turned over -/
theorem swap_inv {T T' U i f g m : Nat} (hi : i < f) (hf : f < 5) (I : LInv T U i) (hg : g < 5) (hm : m < 5) (hne : g ≠ m) (t1 : bt T i g = 1) (t2 : bt T i m = 0) (t3 : bt T f m = 1) (t4 : bt T f g = 0) (u1 : bt U i g = 0) (u2 : bt U i m = 1) (hlt : T' < 2 ^ 25)
    (b1 : bt T' i g = 0) (b2 : bt T' i m = 1) (b3 : bt T' f m = 0) (b4 : bt T' f g = 1) (hr : ∀ r c, r < 5 → c < 5 → r ≠ i → r ≠ f → bt T' r c = bt T r c) (hc : ∀ r c, r < 5 → c < 5 → c ≠ g → c ≠ m → bt T' r c = bt T r c) :
    LInv T' U i ∧ mis T' U i + 1 = mis T U i := by
  have rows : ∀ r, r < 5 → rsum T' r = rsum T r := fun r hr5 => by
    rw [rsum_S, rsum_S]
    have ho : ∀ c, c ≠ g → c ≠ m → (fun c => if c < 5 then bt T' r c else 0) c = (fun c => if c < 5 then bt T r c else 0) c := fun c h1 h2 => by
      (try dsimp only)
      by_cases q : c < 5
      · rw [if_pos q, if_pos q]; exact hc r c hr5 q h1 h2
      · rw [if_neg q, if_neg q]
    have := S5_two (f := fun c => if c < 5 then bt T r c else 0) (f' := fun c => if c < 5 then bt T' r c else 0) hg hm hne (by
      (try dsimp only)
      rw [if_pos hg, if_pos hm, if_pos hg, if_pos hm]
      by_cases q : r = i
      · subst q; (first | lia | omega)
      · by_cases q2 : r = f
        · subst q2; (first | lia | omega)
        · rw [hr r g hr5 hg q q2, hr r m hr5 hm q q2]) ho
    exact (S5_congr fun c hc => by rw [if_pos hc]).symm.trans (this.trans (S5_congr fun c hc => by rw [if_pos hc]))
  have cols : ∀ c, c < 5 → up T' 5 c = up T 5 c := fun c hc5 => by
    rw [up_S, up_S]
    have ho : ∀ r, r ≠ i → r ≠ f → (fun r => if r < 5 then bt T' r c else 0) r = (fun r => if r < 5 then bt T r c else 0) r := fun r h1 h2 => by
      (try dsimp only)
      by_cases q : r < 5
      · rw [if_pos q, if_pos q]; exact hr r c q hc5 h1 h2
      · rw [if_neg q, if_neg q]
    have := S5_two (f := fun r => if r < 5 then bt T r c else 0) (f' := fun r => if r < 5 then bt T' r c else 0) (show i < 5 by (first | lia | omega)) hf (by (first | lia | omega)) (by
      (try dsimp only)
      rw [if_pos (show i < 5 by (first | lia | omega)), if_pos hf, if_pos (show i < 5 by (first | lia | omega)), if_pos hf]
      by_cases q : c = g
      · subst q; (first | lia | omega)
      · by_cases q2 : c = m
        · subst q2; (first | lia | omega)
        · rw [hc i c (by (first | lia | omega)) hc5 q q2, hc f c hf hc5 q q2]) ho
    exact (S5_congr fun c hc => by rw [if_pos hc]).symm.trans (this.trans (S5_congr fun c hc => by rw [if_pos hc]))
  refine ⟨⟨hlt, fun r h => (rows r h).trans (I.row r h), fun c h => (cols c h).trans (I.col c h), fun r c h h2 => (hr r c (by (first | lia | omega)) h2 (by (first | lia | omega)) (by (first | lia | omega))).trans (I.same r c h h2)⟩, ?_⟩
  have ho : ∀ c, c ≠ g → (fun c => if c < 5 then bt T' i c * (1 - bt U i c) else 0) c = (fun c => if c < 5 then bt T i c * (1 - bt U i c) else 0) c := fun c h1 => by
    (try dsimp only)
    by_cases q : c < 5
    · rw [if_pos q, if_pos q]
      by_cases q2 : c = m
      · subst q2; rw [u2, Nat.sub_self, Nat.mul_zero, Nat.mul_zero]
      · rw [hc i c (by (first | lia | omega)) q h1 q2]
    · rw [if_neg q, if_neg q]
  have := S5_at (f := fun c => if c < 5 then bt T i c * (1 - bt U i c) else 0) (f' := fun c => if c < 5 then bt T' i c * (1 - bt U i c) else 0) hg ho
  (try dsimp only at this)
  rw [if_pos hg, if_pos hg, b1, t1, u1] at this
  have e1 : mis T' U i = S5 fun c => if c < 5 then bt T' i c * (1 - bt U i c) else 0 := S5_congr fun c hc => by rw [if_pos hc]
  have e2 : mis T U i = S5 fun c => if c < 5 then bt T i c * (1 - bt U i c) else 0 := S5_congr fun c hc => by rw [if_pos hc]
  rw [e1, e2]
  (first | lia | omega)
end
section
theorem two_bits (a b n : Nat) : (2 ^ a ||| 2 ^ b).testBit n = decide (n = a ∨ n = b) := by
  rw [Nat.testBit_or, Nat.testBit_two_pow, Nat.testBit_two_pow, Bool.eq_iff_iff, Bool.or_eq_true, decide_eq_true_eq, decide_eq_true_eq, decide_eq_true_eq]
  (first | lia | omega)
theorem elem_iff {T i j g m : Nat} (hne : g ≠ m) : (T / 2 ^ (5 * (1 + j))) &&& (2 ^ (5 * i + g) ||| 2 ^ (5 * i + m)) = 2 ^ (5 * i + m) ↔ T.testBit (5 * (i + 1 + j) + m) = true ∧ T.testBit (5 * (i + 1 + j) + g) = false := by
  have hb : ∀ n, ((T / 2 ^ (5 * (1 + j))) &&& (2 ^ (5 * i + g) ||| 2 ^ (5 * i + m))).testBit n = (T.testBit (n + 5 * (1 + j)) && decide (n = 5 * i + g ∨ n = 5 * i + m)) := fun n => by
    rw [Nat.testBit_and, two_bits, Nat.testBit_div_two_pow]
  constructor
  · intro h
    have h1 := hb (5 * i + m)
    have h2 := hb (5 * i + g)
    rw [h, Nat.testBit_two_pow] at h1 h2
    rw [show 5 * i + m + 5 * (1 + j) = 5 * (i + 1 + j) + m by (first | lia | omega)] at h1
    rw [show 5 * i + g + 5 * (1 + j) = 5 * (i + 1 + j) + g by (first | lia | omega)] at h2
    rw [decide_eq_true rfl, decide_eq_true (.inr rfl), Bool.and_true] at h1
    rw [decide_eq_false (by (first | lia | omega)), decide_eq_true (.inl rfl), Bool.and_true] at h2
    exact ⟨h1.symm, h2.symm⟩
  · rintro ⟨h1, h2⟩
    refine Nat.eq_of_testBit_eq fun n => ?_
    rw [hb, Nat.testBit_two_pow]
    by_cases q : n = 5 * i + m
    · subst q
      rw [show 5 * i + m + 5 * (1 + j) = 5 * (i + 1 + j) + m by (first | lia | omega), h1, decide_eq_true (.inr rfl), decide_eq_true rfl]; rfl
    · by_cases q2 : n = 5 * i + g
      · subst q2
        rw [show 5 * i + g + 5 * (1 + j) = 5 * (i + 1 + j) + g by (first | lia | omega), h2, Bool.false_and]
        exact (decide_eq_false (by (first | lia | omega))).symm
      · rw [decide_eq_false (by (first | lia | omega)), Bool.and_false]
        exact (decide_eq_false (by (first | lia | omega))).symm
theorem flip_bit {T a b s n : Nat} : (T ^^^ ((2 ^ a ||| 2 ^ b) ||| (2 ^ a ||| 2 ^ b) * 2 ^ s)).testBit n = (T.testBit n ^^ decide (n = a ∨ n = b ∨ n = a + s ∨ n = b + s)) := by
  rw [Nat.testBit_xor, Nat.testBit_or, two_bits, Nat.mul_comm (2 ^ a ||| 2 ^ b), Nat.testBit_two_pow_mul, two_bits]
  congr 1
  rw [Bool.eq_iff_iff, Bool.or_eq_true, Bool.and_eq_true, decide_eq_true_eq, decide_eq_true_eq, decide_eq_true_eq, decide_eq_true_eq]
  (first | lia | omega)
theorem turn_next {T U i : Nat} (hi : i < 4) (I : LInv T U i)
    (hgr : ∀ i, i < 5 → ∀ c c', c < 5 → c' < 5 → U.testBit (5 * i + c) = true → U.testBit (5 * i + c') = false → up U 5 c' + up U i c ≤ up U 5 c + up U i c')
    (hne : T &&& rowM i ≠ U &&& rowM i) : ∃ T', turnF T U i = some T' ∧ LInv T' U i ∧ mis T' U i + 1 = mis T U i := by
  have hrow := I.row i (by (first | lia | omega))
  have hm0 : mis T U i ≠ 0 := fun q => hne (row_same_of (mis_zero hrow q))
  have hm1 : mis U T i ≠ 0 := fun q => hm0 ((mis_bal hrow).1.trans q)
  obtain ⟨g, hg, eg, bg⟩ := low_pick (show i < 5 by (first | lia | omega)) (fun n h => (but_in T U i n h).1) (but_ne hm0)
  obtain ⟨m, hm, em, bm⟩ := low_pick (show i < 5 by (first | lia | omega)) (fun n h => (but_in U T i n h).1) (but_ne hm1)
  obtain ⟨_, tg, ug⟩ := but_in T U i _ bg
  obtain ⟨_, um, tm⟩ := but_in U T i _ bm
  have hgm : g ≠ m := fun q => by rw [q, tm] at tg; cases tg
  have hp : pairB (T &&& rowM i) (U &&& rowM i) = 2 ^ (5 * i + g) ||| 2 ^ (5 * i + m) := by unfold pairB; rw [eg, em]
  obtain ⟨j1, hj1, x1, x2⟩ := below_has hi I hg hm (bt_one.mpr tg) (bt_zero.mpr tm) (hgr i (by (first | lia | omega)) m g hm hg um ug)
  have hmem : 2 ^ (5 * i + m) ∈ belowL T i (2 ^ (5 * i + g) ||| 2 ^ (5 * i + m)) := by
    unfold belowL
    exact List.mem_map.mpr ⟨j1, List.mem_range.mpr hj1, (elem_iff hgm).mpr ⟨bt_one.mp x1, bt_zero.mp x2⟩⟩
  obtain ⟨j0, ej0⟩ : ∃ j0, j0 = (belowL T i (2 ^ (5 * i + g) ||| 2 ^ (5 * i + m))).idxOf (2 ^ (5 * i + m)) := ⟨_, rfl⟩
  have hj0 : j0 < (belowL T i (2 ^ (5 * i + g) ||| 2 ^ (5 * i + m))).length := ej0 ▸ List.idxOf_lt_length_of_mem hmem
  have hj4 : j0 < 4 - i := by rw [belowL_len] at hj0; exact hj0
  have hat : (T / 2 ^ (5 * (1 + j0))) &&& (2 ^ (5 * i + g) ||| 2 ^ (5 * i + m)) = 2 ^ (5 * i + m) := by
    have h := List.getElem_idxOf (x := 2 ^ (5 * i + m)) (xs := belowL T i (2 ^ (5 * i + g) ||| 2 ^ (5 * i + m))) (ej0 ▸ hj0)
    simp only [← ej0] at h
    unfold belowL at h
    rw [List.getElem_map, List.getElem_range] at h
    exact h
  obtain ⟨f1, f2⟩ := (elem_iff hgm).mp hat
  have ht : turnF T U i = some (T ^^^ ((2 ^ (5 * i + g) ||| 2 ^ (5 * i + m)) ||| (2 ^ (5 * i + g) ||| 2 ^ (5 * i + m)) * 2 ^ (5 * j0 + 5))) := by
    unfold turnF
    rw [if_neg hne, hp, em, if_pos hmem, ← ej0]
  refine ⟨_, ht, ?_⟩
  have hb : ∀ r c, bt (T ^^^ ((2 ^ (5 * i + g) ||| 2 ^ (5 * i + m)) ||| (2 ^ (5 * i + g) ||| 2 ^ (5 * i + m)) * 2 ^ (5 * j0 + 5))) r c = (T.testBit (5 * r + c) ^^ decide (5 * r + c = 5 * i + g ∨ 5 * r + c = 5 * i + m ∨ 5 * r + c = 5 * i + g + (5 * j0 + 5) ∨ 5 * r + c = 5 * i + m + (5 * j0 + 5))).toNat := fun r c => by
    unfold bt; rw [flip_bit]
  refine swap_inv (f := i + 1 + j0) (g := g) (m := m) (by (first | lia | omega)) (by (first | lia | omega)) I hg hm hgm (bt_one.mpr tg) (bt_zero.mpr tm) (bt_one.mpr f1) (bt_zero.mpr f2) (bt_zero.mpr ug) (bt_one.mpr um) ?_ ?_ ?_ ?_ ?_ ?_ ?_
  · refine Nat.lt_pow_two_of_testBit _ fun n hn => ?_
    rw [flip_bit, decide_eq_false (by (first | lia | omega)), Nat.testBit_lt_two_pow (Nat.lt_of_lt_of_le I.lt (Nat.pow_le_pow_right (by decide) hn))]
    rfl
  · rw [hb, decide_eq_true (.inl rfl), tg]; rfl
  · rw [hb, decide_eq_true (.inr (.inl rfl)), tm]; rfl
  · rw [hb, decide_eq_true (by (first | lia | omega)), f1]; rfl
  · rw [hb, decide_eq_true (by (first | lia | omega)), f2]; rfl
  · intro r c hr hc h1 h2
    rw [hb, decide_eq_false (by (first | lia | omega))]
    unfold bt
    cases T.testBit (5 * r + c) <;> rfl
  · intro r c hr hc h1 h2
    rw [hb, decide_eq_false (by (first | lia | omega))]
    unfold bt
    cases T.testBit (5 * r + c) <;> rfl
theorem turns_go {T U i : Nat} (hi : i < 4) (I : LInv T U i)
    (hgr : ∀ i, i < 5 → ∀ c c', c < 5 → c' < 5 → U.testBit (5 * i + c) = true → U.testBit (5 * i + c') = false → up U 5 c' + up U i c ≤ up U 5 c + up U i c') :
    ∀ n, ∃ T', turnsF T U i n = some T' ∧ LInv T' U i ∧ mis T' U i ≤ mis T U i - n
  | 0 => ⟨T, rfl, I, Nat.le_refl _⟩
  | n + 1 => by
    obtain ⟨T1, e, I1, m1⟩ := turns_go hi I hgr n
    by_cases q : T1 &&& rowM i = U &&& rowM i
    · refine ⟨T1, ?_, I1, by rw [row_mis q]; exact Nat.zero_le _⟩
      show (turnsF T U i n).bind _ = _
      rw [e]
      show turnF T1 U i = some T1
      unfold turnF
      rw [if_pos q]
    · obtain ⟨T2, e2, I2, m2⟩ := turn_next hi I1 hgr q
      refine ⟨T2, ?_, I2, by (first | lia | omega)⟩
      show (turnsF T U i n).bind _ = _
      rw [e]
      exact e2
theorem led_go {T U : Nat} (hT : T < 2 ^ 25) (hr : ∀ i, i < 5 → rsum T i = rsum U i) (hc : ∀ c, c < 5 → up T 5 c = up U 5 c)
    (hgr : ∀ i, i < 5 → ∀ c c', c < 5 → c' < 5 → U.testBit (5 * i + c) = true → U.testBit (5 * i + c') = false → up U 5 c' + up U i c ≤ up U 5 c + up U i c') :
    ∀ k, k ≤ 4 → ∃ T', ledF T U k = some T' ∧ LInv T' U k
  | 0, _ => ⟨T, rfl, ⟨hT, hr, hc, fun r c h _ => by (first | lia | omega)⟩⟩
  | k + 1, hk => by
    obtain ⟨T1, e, I1⟩ := led_go hT hr hc hgr k (by (first | lia | omega))
    obtain ⟨T2, e2, I2, m2⟩ := turns_go (show k < 4 by (first | lia | omega)) I1 hgr 2
    have hm := (mis_bal (I1.row k (by (first | lia | omega)))).2
    have hz := mis_zero (I2.row k (by (first | lia | omega))) (by (first | lia | omega))
    refine ⟨T2, ?_, ⟨I2.lt, I2.row, I2.col, fun r c h h2 => ?_⟩⟩
    · show (ledF T U k).bind _ = _
      rw [e]
      exact e2
    · rcases Nat.lt_or_eq_of_le (Nat.le_of_lt_succ h) with h | rfl
      · exact I2.same r c h h2
      · exact hz c h2
theorem led_ok {T U : Nat} (hT : T < 2 ^ 25) (hU : U < 2 ^ 25) (hr : ∀ i, i < 5 → rsum T i = rsum U i) (hc : ∀ c, c < 5 → up T 5 c = up U 5 c)
    (hgr : ∀ i, i < 5 → ∀ c c', c < 5 → c' < 5 → U.testBit (5 * i + c) = true → U.testBit (5 * i + c') = false → up U 5 c' + up U i c ≤ up U 5 c + up U i c') : ledF T U 4 = some U := by
  obtain ⟨T', e, I⟩ := led_go hT hr hc hgr 4 (Nat.le_refl _)
  rw [e]
  congr 1
  have h4 : ∀ c, c < 5 → bt T' 4 c = bt U 4 c := fun c hc5 => by
    have := I.col c hc5
    rw [up_five, up_five] at this
    have a := I.same 0 c (by (first | lia | omega)) hc5; have b := I.same 1 c (by (first | lia | omega)) hc5; have c' := I.same 2 c (by (first | lia | omega)) hc5; have d := I.same 3 c (by (first | lia | omega)) hc5
    (first | lia | omega)
  refine Nat.eq_of_testBit_eq fun n => ?_
  by_cases q : n < 25
  · have hh : bt T' (n / 5) (n % 5) = bt U (n / 5) (n % 5) := by
      by_cases q4 : n / 5 < 4
      · exact I.same _ _ q4 (by (first | lia | omega))
      · rw [show n / 5 = 4 by (first | lia | omega)]; exact h4 _ (by (first | lia | omega))
    unfold bt at hh
    rw [show 5 * (n / 5) + n % 5 = n by (first | lia | omega)] at hh
    cases e1 : T'.testBit n <;> cases e2 : U.testBit n <;> rw [e1, e2] at hh <;> first | rfl | cases hh
  · have le : 2 ^ 25 ≤ 2 ^ n := Nat.pow_le_pow_right (by decide) (by (first | lia | omega))
    rw [Nat.testBit_lt_two_pow (Nat.lt_of_lt_of_le I.lt le), Nat.testBit_lt_two_pow (Nat.lt_of_lt_of_le hU le)]
theorem gale_ok (t : Nat) (ht : t < 2 ^ 25) (side : Nat) (hs : side < 2) : ∃ (st : List Int × Int) (u : Nat), galeF (rowsOf t) side (colsOf t) 5 = some st ∧ st.2 = (u : Int) ∧ u < 2 ^ 25 ∧ rowsOf u = rowsOf t ∧ colsOf u = colsOf t ∧ ledF t u 4 = some u := by
  obtain ⟨st, u, e1, e2, e3, e4, e5, e6⟩ := gale_made t side hs
  obtain ⟨f1, f2⟩ := same_sums e4 e5
  exact ⟨st, u, e1, e2, e3, f1, f2, led_ok ht e3 (fun i hi => (e4 i hi).symm) (fun c hc => (e5 c hc).symm) e6⟩
end
section
theorem ESpec.mono {K : Params → Frag} {k : Nat} {f : Addr} {pos : List Value} {kw : List (Str × Value)} {ws : List (Addr × Obj)} {Pre Pre' : Heap → Nat → Prop} {Post Post' : Value → Heap → Nat → Nat → Prop} (H : ESpec K k f pos kw ws Pre Post) (h1 : ∀ h t, Pre' h t → Pre h t) (h2 : ∀ v h a b, Post v h a b → Post' v h a b) : ESpec K k f pos kw ws Pre' Post' := by
  unfold ESpec
  intro prog w p loose mean mg mb dp un gd cn cs a ccd cl outer A₀ base h₀ L m s Q E B F N X T hk hd hu hpre hret
  exact H prog w p loose mean mg mb dp un gd cn cs a ccd cl outer A₀ base h₀ L m s Q E B F N X T hk hd hu (h1 _ _ hpre) fun v h' tk a b c d => hret v h' tk a b c (h2 _ _ _ _ d)
def tri (q : CE) : Addr × List Value × List Int := (q.adr, q.vals, q.nums)
theorem tri_refs (ch : List CE) : (ch.map tri).map (fun q => Value.ref q.1) = refsOf ch := by unfold refsOf; rw [List.map_map]; rfl
theorem tri_getD (ch : List CE) (i : Nat) : ((ch.map tri).getD i (0, [], [])).2.2 = (ch.map (·.nums)).getD i [] := by
  simp only [List.getD, List.getElem?_map]
  cases ch[i]? <;> rfl
theorem step_c (lC rl al : Addr) (rv : List Value) (rn : List Int) (side : Nat) (ts : Tok) (ch : List CE) (w0 : List Int) (ps ps3 : Array Value) (hr : IntsAre rv rn) (hr5 : rn.length = 5) (hr9 : ∀ x ∈ rn, 0 ≤ x ∧ x ≤ 5) (hch : ∀ q ∈ ch, IntsAre q.vals q.nums ∧ Five q.nums ∧ q.adr ≠ al) (hs : side < 2) (hal : al ≠ 149) (ha3 : al ≠ 163) (har : rl ≠ al) (hac : lC ≠ al) (hn : ch.map (·.nums) = chainTo w0 20)
    (hD : Down (fun i => !(galeF rn side ((chainTo w0 20).getD i []) 5).isNone) (chainTo w0 20).length) :
    ESpec hd54.heap_1 10 168 [.ref lC, .ref rl, .int (side : Int) ts, .ref al] [] [(163, tabObj ps3), (149, tabObj ps), (al, W.listOf #[] 0)]
      (fun h _ => h.IsList lC (refsOf ch).toArray ∧ h.IsList rl rv.toArray ∧ (∀ q ∈ ch, h.get? q.adr = some (W.listOf q.vals.toArray q.cap)) ∧ TabL h gqual ps [] ∧ TabL h squal ps3 [])
      (fun v h' _ _ => ∃ (r : Nat) (t : Tok) (av : List Value) (an : Nat), v = .int (r : Int) t ∧ Cut (fun i => !(galeF rn side ((chainTo w0 20).getD i []) 5).isNone) (chainTo w0 20).length r ∧ 0 < av.length ∧ 2 ^ (av.length - 1) ≤ ch.length ∧ av.length ≤ 6 ∧ h'.get? al = some (W.listOf av.toArray an) ∧ (∃ ps', h'.get? 149 = some (tabObj ps')) ∧ ∃ ps', h'.get? 163 = some (tabObj ps')) := by
  have hl : ch.length = (chainTo w0 20).length := by rw [← hn, List.length_map]
  have hl2 := chain_len w0 20
  have hl3 : (ch.map tri).length = (chainTo w0 20).length := by rw [List.length_map, hl]
  have hf : (fun i => !(galeF rn side ((ch.map tri).getD i (0, [], [])).2.2 5).isNone) = fun i => !(galeF rn side ((chainTo w0 20).getD i []) 5).isNone := funext fun i => by rw [tri_getD, hn]
  have H := step_e lC rl al rv rn side ts (ch.map tri) ps ps3 hr hr5 hr9 (fun q hq => by
    obtain ⟨x, hx, rfl⟩ := List.mem_map.mp hq
    exact hch x hx) hs hal ha3 har hac (by rw [hl3]; (first | lia | omega)) (by rw [hf, hl3]; exact hD)
  refine H.mono (fun h t hp => ⟨by rw [tri_refs]; exact hp.1, hp.2.1, fun q hq => ?_, hp.2.2.2⟩) fun v h a b hp => ?_
  · obtain ⟨x, hx, rfl⟩ := List.mem_map.mp hq
    exact ⟨_, hp.2.2.1 x hx, rfl, _, rfl⟩
  · obtain ⟨r, t, av, an, e1, e2, e3, e4⟩ := hp
    rw [hf, hl3] at e2
    rw [hl3] at e3
    obtain ⟨a1, a2⟩ := ask_done e3 hl2.2
    refine ⟨r, t, av, an, e1, e2, a1, by rw [hl]; exact a2, ?_, e4⟩
    apply Classical.byContradiction
    intro q
    have : 2 ^ 6 ≤ 2 ^ (av.length - 1) := Nat.pow_le_pow_right (by decide) (by (first | lia | omega))
    (first | lia | omega)
theorem list_not_tab {h : Heap} {a b : Addr} {vs : List Value} {n : Nat} {ps : Array Value} (h1 : h.get? a = some (W.listOf vs.toArray n)) (h2 : h.get? b = some (tabObj ps)) : a ≠ b := fun e => by
  rw [e, h2] at h1
  cases h1
end
section
section
variable {prog : Program} {w : World} {A : Around} {E : Value → Shared → Prop} {s : Shared} {l : Addr} {vs : List Value} {ns : List Int}
theorem sum_kp {Q : Value → Shared → Prop} (hh : A.handled = none) (hl : s.heap.IsList l vs.toArray) (hi : IntsAre vs ns)
    (h : ∀ h' (t : Tok) tk, Kp s.heap h' → Q (.int ns.sum t) { s with heap := h', toks := tk }) : wpAny (model prog w) A (call (.builtin "sum") [.ref l]) Q E s := by
  obtain ⟨xs, hx⟩ := hi.allInts.items
  have hn : numsOf vs.toArray.toList = ns := by rw [show vs.toArray.toList = vs from rfl, hi.numsOf]
  rw [hx] at hl hn
  rw [nums_intItems] at hn
  refine sum_intListG hh hl fun h' tk t' hk => ?_
  have := h h' t' tk hk
  rw [preSum_eq, List.take_of_length_le (by simp), hn]
  exact this
/-- l[:y] -/
theorem upto_kp {value slice : PySem.Expr} {a : Heap} {b : Array GenState} {c : Drawn} {d : OsState} {tk : Nat} {y : Int} {u : Tok} {Q : Value → Shared → Prop} (hl : a.IsList l vs.toArray) (hi : IntsAre vs ns) (h0 : 0 ≤ y) (hz : vs.length ≤ 1000)
    (h : ∀ h' D ws, Kp a h' → h'.IsList D (List.toArray ws) → IntsAre ws (ns.take y.toNat) → Q (.ref D) { heap := h', gens := b, drawn := c, toks := tk, os := d })
    (hs : subscripted slice false (.ref l) (.ref a.objs.size) = operate [.ref a.objs.size, .ref l] (getItem (.ref l) (.ref a.objs.size)) := by with_unfolding_all rfl)
    (ht : ∀ r, letTemporaryGo value (.ref l) r = pure () := by intro _; with_unfolding_all rfl) :
    wpAny (model prog w) A (subscriptTail value slice (.ref l) (.ref a.objs.size)) Q E { heap := a.push { cls := .type "slice", data := .fields #[.none, .int y u, .none] }, gens := b, drawn := c, toks := tk, os := d } := by
  refine subscriptTail_ops (Heap.IsList.typeIs (s := { heap := a.push { cls := .type "slice", data := .fields #[.none, .int y u, .none] }, gens := b, drawn := c, toks := tk, os := d }) (hl.push _)) list_getitem_lookup
    (wpAny_getItem_list_slice (hl.push _) (Heap.IsSliceOf.new ..) .none (.int y u) .none (by simp) ?_ (by rw [sizeLine_eq, List.size_toArray]; (first | lia | omega))) hs ht
  refine h _ _ (slicePick vs.toArray none (some y) none).toList (fun b o e => Heap.get?_push_of_some _ (Heap.get?_push_of_some _ e)) ⟨_, Heap.get?_push_size _ rfl, rfl, 0, ?_⟩ (kmk_upto hi h0)
  rw [Array.toArray_toList]
theorem min2_kp {a b : Int} {t u : Tok} {Q : Value → Shared → Prop} (hh : A.handled = none)
    (h : ∀ h' (t : Tok) tk, Kp s.heap h' → Q (.int (min a b) t) { s with heap := h', toks := tk }) : wpAny (model prog w) A (call (.builtin "min") [.int a t, .int b u]) Q E s := by
  refine min_two_ints hh fun h' tk hk => ?_
  by_cases hc : b < a
  · rw [if_pos hc]; have := h h' u tk hk; rwa [show min a b = b by (first | lia | omega)] at this
  · rw [if_neg hc]; have := h h' t tk hk; rwa [show min a b = a by (first | lia | omega)] at this
end
section
variable {prog : Program} {w : World} {A : Around} {E : Value → Shared → Prop} {s : Shared} {env : Env}
/-- y = [elt for x in iter if ..], x a cell of the comprehension, y a name of the frame's own -/
theorem compq_assignCT {elt iter : PySem.Expr} {x y : Str} {px py : Pos} {ifs : List PySem.Expr} {scope : Scope} {cl : List (Str × Addr)} {pos spos : Pos} {Q : Flow → Shared → Prop} (pre post : List (Str × NameKind))
    (hsw : swapsWith (.ListComp elt [⟨.Name x px, iter, ifs, 0⟩] scope pos) (some (.Name y py)) spos.line env = pure true)
    (hclos : closureFor scope env = pure cl) (hsp : scope.names = pre ++ (x, .cell) :: post) (h1 : ∀ y ∈ pre, y.2 ≠ .cell) (h2 : ∀ y ∈ post, y.2 ≠ .cell) (hkind : scope.kind = .function)
    (hnames : ∀ z ∈ scope.names, z.2 = .local → scope.names.lookup z.1 = some .local) (hx : scope.names.lookup x = some .cell)
    (hy : env.kindOf y = some .local) (hp : (env.scope.kind == .class || (env.scope.kind == .module && env.locals != env.globals)) = false)
    (h : wpAny (model prog w) A (eval iter env) (fun xv s₁ => s.toks ≤ s₁.toks → Halt (CGoA prog w A xv s₁ env.locals y (fun J i v ys h tk => ∀ C c, h.IsCell c (some v) → (∃ m, h.Ns C m) → s₁.heap.get? C = none → s₁.heap.get? c = none → CStep prog w A (compEnvC scope ((x, c) :: cl) C env) elt ifs s₁ (J (i + 1)) ys h tk) Q)) E s)
    (hs : ∀ x, foldedSetIterable iter env x = pure x := by intro _; rfl) :
    wpAny (model prog w) A (exec (.Assign [.Name y py] (.ListComp elt [⟨.Name x px, iter, ifs, 0⟩] scope pos) spos) env) Q E s := by
  rw [exec_Assign_Name_used _ _ _ _ hsw]
  refine wpAny_bind (wpAny_standAt (wpAny_bind ?_))
  show wpAny _ A (do let _ ← comprehension (.ListComp elt [⟨.Name x px, iter, ifs, 0⟩] scope pos) scope env _ (newList []) false (eval iter env) (some (assign (.Name y py) env))) _ _ s
  refine wpAny_bind (wpAny_mono (wpAny_comprehension_free (use := some (assign (.Name y py) env)) (Q := fun _ s' => Q .next s') rfl hs hclos hkind hnames
    (wpAny_mono (wpAny_toks (wpAny_mono h (fun _ _ x => x) fun _ _ x _ => x)) (fun xv s₁ G => ?_) fun _ _ e => e)) (fun _ s' hq => wpAny_pure (wpAny_pure hq)) fun _ _ e => e)
  obtain ⟨n, P, J, h₀, m, F, hsz, hsrc, hmono, hJ, step, done⟩ := G.out
  refine compq_coreC (RR := fun acc C => compPost (model prog w) A E (some (assign (.Name y py) env)) (fun _ s' => Q .next s') acc C)
    (Done := fun v s' => ∃ D ys, v = .ref D ∧ J n ys s'.toks ∧ s₁.toks ≤ s'.toks ∧ s'.heap.PlainList D (List.toArray ys) ∧ s₁.heap.objs.size ≤ D ∧ Kp s₁.heap s'.heap) pre post hsp h1 h2 hkind hx
    ⟨n, P, J, hsz, hsrc, hmono, hJ, step, fun D ys h tk a b c d e => ⟨D, ys, rfl, a, b, c, d, e⟩⟩ ?_
  intro D C h tk mC hCD hm hC₀ _ hDs hk hd
  obtain ⟨D', ys, e0, hJ', hT, hpl, hle, hkp⟩ := hd h (Heap.SameBut.refl ..)
  cases e0
  dsimp only at hJ' hT hpl hkp
  have hLs : env.locals < s₁.heap.objs.size := F.ns.lt
  have F' : Fr h₀ env.locals h m := F.keeps hkp
  have hCL : C ≠ env.locals := fun q => by
    obtain ⟨o, _, _, e, _⟩ := F.ns
    rw [q] at hC₀; rw [hC₀] at e; cases e
  have hDL : D ≠ env.locals := Nat.ne_of_gt (Nat.lt_of_lt_of_le hLs hle)
  show wpAny _ A (assign (.Name y py) env (.ref D)) _ _ _
  refine wpAny_assign_Name (wpAny_storeName_local hy F'.ns (fun h₂ hn₂ hs₂ => ?_) hp)
  have hL₀ : h₀.get? env.locals = none := Heap.get?_none_of_le F'.above
  have F₂ : Fr h₀ env.locals h₂ (fun z => if z = y then some (.ref D) else m z) := ⟨hn₂, fun b o e => hs₂.extBut b o (fun q => by rw [q, hL₀] at e; cases e) (F'.keep b o e), F'.above⟩
  have hC₁ : h₀.get? C = none := by
    cases q : h₀.get? C with
    | none => rfl
    | some o => have := F.keep _ _ q; rw [hC₀] at this; cases this
  refine ⟨mC, hm.sameBut hs₂ hCL, fun h₃ hs₃ => done D ys h₃ _ (hmono _ _ _ _ hJ' (Nat.le_succ _)) (Nat.le_succ_of_le hT) ?_ hle (F₂.change hs₃ hCL hC₁) fun b o hb e => ?_⟩
  · exact (hpl.extBut hs₂.extBut hDL).extBut hs₃.extBut (Ne.symm hCD)
  · exact hs₃.extBut b o (fun q => by rw [q, hC₀] at e; cases e) (hs₂.extBut b o hb (hkp b o e))
end
theorem frHeap {g h : Heap} {L : Addr} {m : Str → Option Value} (_ : Fr g L h m) : ∃ x : Heap, x = h := ⟨h, rfl⟩
theorem refs_at {ch : List CE} {i : Nat} {x : Value} (h : (refsOf ch)[i]? = some x) : ∃ q ∈ ch, x = .ref q.adr ∧ ch[i]? = some q := by
  unfold refsOf at h
  rw [List.getElem?_map] at h
  cases e : ch[i]? with
  | none => rw [e] at h; cases h
  | some q =>
    rw [e] at h
    exact ⟨q, List.mem_of_getElem? e, (Option.some.inj h).symm, rfl⟩
theorem cell_ne {h : Heap} {a b : Addr} {o : Obj} {vs : Array Value} {n : Nat} {v : Option Value} (h1 : h.get? a = some o) (hd : o.data = .cell v) (h2 : h.get? b = some (W.listOf vs n)) : b ≠ a := fun e => by
  rw [e, h1] at h2
  cases h2
  cases hd
theorem take_map_snoc {α β : Type} (f : α → β) {l : List α} {k : Nat} (h : k < l.length) : (l.take (k + 1)).map f = (l.take k).map f ++ [f l[k]] := by
  rw [List.take_succ_eq_append_getElem h, List.map_append]; rfl
theorem range1_snoc (j : Nat) : List.range' 1 (j + 1) = List.range' 1 j ++ [1 + j] := by
  rw [List.range'_concat]; simp
theorem over_yes {rows gr : List Int} {j : Nat} (h : (gr.take (1 + (j : Int)).toNat).sum > (rows.map fun r => min r (1 + (j : Int))).sum) : castL ((List.range' 1 (j + 1)).filter (overQ rows gr)) = castL ((List.range' 1 j).filter (overQ rows gr)) ++ [1 + (j : Int)] := by
  have e : overQ rows gr (1 + j) = true := by
    unfold overQ
    rw [show (1 + (j : Int)).toNat = 1 + j by (first | lia | omega)] at h
    exact decide_eq_true (by rw [show (((1 + j : Nat)) : Int) = 1 + (j : Int) by (first | lia | omega)]; exact h)
  rw [range1_snoc, List.filter_append]
  simp only [List.filter_cons, e, if_true, List.filter_nil]
  rw [cast_snoc]
  simp
theorem over_no {rows gr : List Int} {j : Nat} (h : ¬ (gr.take (1 + (j : Int)).toNat).sum > (rows.map fun r => min r (1 + (j : Int))).sum) : castL ((List.range' 1 (j + 1)).filter (overQ rows gr)) = castL ((List.range' 1 j).filter (overQ rows gr)) := by
  have e : overQ rows gr (1 + j) = false := by
    unfold overQ
    rw [show (1 + (j : Int)).toNat = 1 + j by (first | lia | omega)] at h
    exact decide_eq_false (by rw [show (((1 + j : Nat)) : Int) = 1 + (j : Int) by (first | lia | omega)]; exact h)
  rw [range1_snoc, List.filter_append]
  simp [List.filter_cons, e]
theorem over_cut {t side r i : Nat} {ch : List CE} {q : CE} {gr : List Int} (ht : t < 2 ^ 25) (hs : side < 2) (hc : ch.map (·.nums) = chainTo (colsOf t) 20) (hq : ch[i]? = some q) (hi : i < ch.length) (hg : gr = (q.nums.mergeSort (· ≤ ·)).reverse)
    (hcut : Cut (fun i => !(galeF (rowsOf t) side ((chainTo (colsOf t) 20).getD i []) 5).isNone) (chainTo (colsOf t) 20).length r) :
    decide (castL ((List.range' 1 5).filter (overQ (rowsOf t) gr)) = []) = decide (i < r) := by
  have hl : ch.length = (chainTo (colsOf t) 20).length := by rw [← hc, List.length_map]
  have e : (chainTo (colsOf t) 20).getD i [] = q.nums := by rw [← hc]; simp [List.getD, hq]
  have h := over_iff t ht side hs i (hl ▸ hi)
  rw [e] at h
  have h2 : castL ((List.range' 1 5).filter (overQ (rowsOf t) gr)) = [] ↔ overL (rowsOf t) q.nums = [] := by unfold castL overL; rw [List.map_eq_nil_iff, hg]
  have h3 : i < r ↔ galeF (rowsOf t) side q.nums 5 ≠ none := by
    constructor
    · intro hlt
      have := hcut.2.1 i hlt
      dsimp only at this
      rw [e] at this
      intro q9
      rw [q9] at this
      cases this
    · intro hne
      apply Classical.byContradiction
      intro hn
      have := hcut.2.2 i (by (first | lia | omega)) (by (first | lia | omega))
      dsimp only at this
      rw [e] at this
      obtain ⟨st, es⟩ := Option.ne_none_iff_exists'.mp hne
      rw [es] at this
      cases this
  rw [Bool.eq_iff_iff, decide_eq_true_eq, decide_eq_true_eq, h2, h, h3]
theorem bne_lt (i r : Nat) : (decide (i < r) != decide ((i : Int) < (r : Int))) = false := by
  by_cases h : i < r
  · rw [decide_eq_true h, decide_eq_true (Int.ofNat_lt.mpr h)]; rfl
  · rw [decide_eq_false h, decide_eq_false (fun q => h (Int.ofNat_lt.mp q))]; rfl
/-- two sorted orders of the same numbers are one -/
theorem sorted_one : ∀ {a b : List Int}, a.Perm b → a.Pairwise (· ≤ ·) → b.Pairwise (· ≤ ·) → a = b := fun h h1 h2 => List.Perm.eq_of_pairwise (fun _ _ _ _ x y => Int.le_antisymm x y) h1 h2 h
theorem great_eq {ns ns' : List Int} (hp : ns'.Perm ns) (hs : ns'.Pairwise (· ≤ ·)) : ns' = ns.mergeSort (· ≤ ·) := by
  refine sorted_one (hp.trans (List.mergeSort_perm ns _).symm) hs ?_
  have := List.pairwise_mergeSort (le := fun a b : Int => decide (a ≤ b)) (fun a b c h1 h2 => by simp at h1 h2 ⊢; (first | lia | omega)) (fun a b => by simp; (first | lia | omega)) ns
  exact this.imp fun h => of_decide_eq_true h
end
section
theorem load_W1 : (fun (_ : OpenLaw) (_ : Params → Frag) => True) PySem.Challenge.rw_wb0054_01 hd54.heap_1 := by
  w_top off
  k_fill
  trivial
local macro_rules | `(tactic| walk_at "execs cons") => `(tactic| (k_here; with_reducible refine tok_genP ?_; intro tk9 htk9; (try dsimp only at htk9); (try k_fold)))
local macro_rules | `(tactic| walk_at "eval Name") => `(tactic| (k_here; (first | (with_reducible show wpAny _ _ (eval _ (compEnvC _ _ _ (compEnvC _ _ _ _))) _ _ _) | (name_kind "cell"; (with_reducible show wpAny _ _ (eval _ (compEnvC _ _ _ _)) _ _ _))); (refine halt ?_)))
local macro_rules | `(tactic| walk_at "call type:enumerate") => `(tactic| (k_here; k_dflt (refine' call_enumerate_list ?k1 ?_; (case k1 => exact kso_isList (by assumption) (by exact .tail _ (.tail _ (.tail _ (.tail _ (.tail _ (.tail _ (.tail _ (.head _)))))))) rfl); k_whole); intro h9 he9 hit9 hsz9 hk9))
local macro_rules | `(tactic| walk_at "exec For Tuple Call cons nil") => `(tactic| (k_here; k_dflt (refine for_rule ?_)))
local macro_rules | `(tactic| walk_at "exec For Tuple Call") => `(tactic| (k_here; k_dflt (refine for_rule ?_)))
local macro_rules | `(tactic| walk_at "exec Assign cons ListComp") => `(tactic| (k_here; k_dflt (refine' compq_assignCT [(Str.ofString ".0", .local)] [(Str.ofString "sum", .globalImplicit), (Str.ofString "great", .free), (Str.ofString "rows", .free)] ?r1 ?r2 ?ra ?rb ?rc ?r4 ?r5 ?r6 ?r7 ?r8 ?_; (case r1 => exact rfl); (case r2 => exact rfl); (case ra => rfl); (case rb => decide); (case rc => decide); (case r4 => rfl); (case r5 => decide); (case r6 => rfl); (case r7 => rfl); (case r8 => rfl))))
local macro_rules | `(tactic| walk_at $s:str) => if ("|call ref|call builtin:sum|call builtin:str.split|subscriptTail Name Slice ref ref|call builtin:hex|call builtin:len|compareOp NotEq ref ref|binaryOp Pow int int|call builtin:sorted|subscriptTail Call Slice ref ref|compareOp Eq ref ref|call builtin:min|eval ListComp|".splitOn ("|" ++ s.getString ++ "|")).length > 1 then `(tactic| (refine halt ?_)) else Lean.Macro.throwUnsupported
def tabsL : List (Addr × Addr) := [(167, 163), (153, 149)]
theorem law_top {prog : Program} {w : World} {s : Shared} {mg mb : Str → Option Value} {p : Program} {loose : List Str} {mean : ExcName → Option Value} (T : Top p loose mean mg mb s.heap) (X : (hd54.heap_1 w.params).In s.heap) (hT9 : TabsAt [(167, 163), (153, 149)] s.heap) (htk : 450 ≤ s.toks)
    (sl : Addr) (sv : List Value) (sn : List Int) (hsl : s.heap.IsList sl sv.toArray) (hi : IntsAre sv sn) (h63 : sn.length ≤ 63) {R : Result → Shared → Prop}
    (hR : ∀ h' tk, Kp (ghostOf s.heap [(167, 163), (153, 149)]) h' → (∃ ps, h'.get? 163 = some (tabObj ps)) → (∃ ps, h'.get? 149 = some (tabObj ps)) → R (.ok (.ret (.bool true))) { s with heap := h', toks := tk }) :
    codeAny (model prog w) callerA (.call (.ref 183) ⟨[.ref sl], []⟩) R s := by
  k_dflt (refine' enterTop (binds := [(Str.ofString "script", .ref sl)]) ?k1 ?k2 ?k3 ?k4 ?k6 ?k7 ?k9 ?kB ?kN ?_ ?c2 ?c3 ?c4; (case k1 => exact X); (case k2 => exact T); (case k3 => exact hT9); (case k4 => kernel_rfl); (case k6 => k_is); (case k7 => k_is); (case k9 => exact BindsTo.of_eq rfl); (case kB => exact rfl); (case kN => decide); (case c2 => exact rfl); (case c3 => exact rfl); (case c4 => exact rfl); k_whole; intro g' L' h' tk' cells' eg' ht' F' N' Y' lt' B' X' T'; (try simp only [tabNews, List.map_cons, List.map_nil] at lt'); (try k_lt lt'); k_cells Y'; (try simp only [tabNews, List.map_cons, List.map_nil, List.cons_append, List.nil_append] at N'); (try dsimp only); (try k_lift B'); (try k_fold))
  refine let_fold3 (P := fun (M : Model) (A : Around) (en : Env) => wpAny M A (execs _ en) _ _ _) _ _ _ ?_; intro M9 A9 en9; show wpAny M9 A9 (execs _ en9) _ _ _
  rename_i oG oR oP oT0 dG dR dP dT0
  have dG : oG.data = .cell none := dG
  have dR : oR.data = .cell none := dR
  have dP : oP.data = .cell none := dP
  have hsl' : g'.IsList sl sv.toArray := eg' ▸ ghost_list hT9 hsl
  have hszv : sv.toArray.size ≤ sizeLine := by rw [sizeLine_eq, List.size_toArray, hi.length]; (first | (law_clear; lia) | lia | omega)
  k_steps
  unfold Halt
  (try k_fold)
  refine' kmk_slice3_lit (s := ⟨_, _, _, _, _⟩) ?a1 ?a2 ?a3 ?a4 ?a5 ?a6 ?a7 (rfl) ?_ ?a8 ?a9 ?a0
  case a1 => k_asm
  case a2 => k_asm
  case a3 => exact hsl'.at fun o e => Fr.keep F' _ _ e
  case a4 => kmk_part
  case a5 => kmk_part
  case a6 => kmk_part
  case a7 => decide
  case a8 => with_unfolding_all rfl
  case a9 => kmk_pure
  case a0 => exact hszv
  intro D1 h1 F1 N1 lD1
  obtain ⟨ms1, hm1⟩ := pick_ints hi none (some 60) (some 2)
  k_steps
  unfold Halt
  (try k_fold)
  refine sumT rfl F1 N1 ⟨_, (N1 _ (.head _)).1, rfl, _, rfl⟩ hm1 fun h2 tk2 t2 hk2 F2 N2 => ?_
  replace N2 := newsSub N2 fun q hq => .tail _ hq
  clear F1 N1
  (try dsimp only at hk2)
  k_steps
  unfold Halt
  (try k_fold)
  refine' kmk_slice_ints (s := ⟨_, _, _, _, _⟩) ?b1 ?b2 ?b3 ?b4 ?b5 hi (kmk_upto hi (y := 60) (by decide)) rfl ?_ ?b6 ?b7 ?b8
  case b1 => k_asm
  case b2 => k_asm
  case b3 => exact hsl'.at fun o e => Fr.keep F2 _ _ e
  case b4 => kmk_part
  case b5 => kmk_part
  case b6 => with_unfolding_all rfl
  case b7 => kmk_pure
  case b8 => exact hszv
  intro D3 ws3 h3 F3 N3 lD3 hm3 _ _
  k_steps
  unfold Halt
  (try k_fold)
  refine sumT rfl F3 N3 ⟨_, (N3 _ (.head _)).1, rfl, _, rfl⟩ hm3 fun h4 tk4 t4 hk4 F4 N4 => ?_
  replace N4 := newsSub N4 fun q hq => .tail _ hq
  clear F3 N3
  (try dsimp only at hk4)
  obtain ⟨tN, htN, etN⟩ := fmod_nat (3032267 + ms1.sum) 33554432 (by decide)
  obtain ⟨dN, hdN, edN⟩ := fmod_nat (3 + (List.take (Int.toNat 60) sn).sum) 16 (by decide)
  have etN : (3032267 + ms1.sum).fmod 33554432 = (tN : Int) := etN
  have edN : (3 + (List.take (Int.toNat 60) sn).sum).fmod 16 = (dN : Int) := edN
  k_steps
  unfold Halt
  (try k_fold)
  (rename Fr _ _ _ _ => F5)
  (rename News _ _ _ _ => N5)
  simp only [edN, fmod8, fdiv8] at F5
  (rename Obj => oT)
  (rename Obj.data _ = Data.cell (some (Value.int ((3032267 + ms1.sum).fmod 33554432) _)) => dT)
  rw [etN] at dT
  obtain ⟨bN, ebN⟩ : ∃ bN, bN = dN % 8 := ⟨_, rfl⟩
  obtain ⟨sN, esN⟩ : ∃ sN, sN = dN / 8 := ⟨_, rfl⟩
  have hbN : bN < 8 := by (first | (law_clear; lia) | lia | omega)
  have hsN : sN < 2 := by (first | (law_clear; lia) | lia | omega)
  rw [← ebN, ← esN] at F5
  have hlen := names_len
  refine split0_tok (x := namesLit) F5 N5 names_one ?_ (by rw [sizeLine_eq]; (first | (law_clear; lia) | lia | omega)) (by rw [sizeLine_eq]; (first | (law_clear; lia) | lia | omega))
  intro D6 lnm h6 k6 hlnm hk6 hnm6 F6 N6 lD6
  rw [names_words] at hlnm
  (try dsimp only at hk6 hnm6)
  (try k_lt lD6)
  k_steps
  unfold Halt
  (try k_fold)
  k_dflt (refine' compq_evalT ?r1 ?r2 ?r3 ?r4 ?r5 ?_; (case r1 => exact rfl); (case r2 => decide); (case r3 => rfl); (case r4 => decide); (case r5 => rfl))
  k_steps
  unfold Halt
  (try k_fold)
  (rename _ ≤ _ => htR)
  (try dsimp only at htR)
  (rename Fr _ _ _ _ => F7)
  (rename News _ _ _ _ => N7)
  (rename IsRange _ _ _ _ _ _ _ _ => R7)
  refine CGo.intro ⟨22, (fun j v => ∃ t, v = .int (10 + (j : Int)) t ∧ _ ≤ t), (fun j ys tk => 450 ≤ tk ∧ ∃ l, ys = strValues l ∧ l.map (·.1) = (List.range j).map (fun j => flagW (10 + j)) ∧ ∀ p ∈ l, tokIn 450 tk p.2), (by rw [sizeLine_eq]; (first | (law_clear; lia) | lia | omega)), SrcT.range rfl R7 (by decide) (by decide), (fun _ _ _ _ q l => ⟨Nat.le_trans q.1 l, by obtain ⟨l', a, b, c⟩ := q.2; exact ⟨l', a, b, fun p hp => (c p hp).up l⟩⟩), ⟨by (try dsimp only); (first | (law_clear; lia) | lia | omega), [], rfl, rfl, fun p hp => by cases hp⟩, ?g1, ?g2⟩
  case g1 =>
    rintro j v ys h tk hj ⟨tj, rfl, htj⟩ ⟨hJ0, l, rfl, hJ1, hJ2⟩ hT hk C m₂ hC hm₂ hCn
    refine CStep.nil ?_
    have F9' := F7.keeps hk
    have N9' := N7.grown hk
    clear F7 N7
    k_steps
    unfold Halt
    (try k_fold)
    have ej : (1 : Int) * 2 ^ (10 + (j : Int)).toNat = ((2 ^ (10 + j) : Nat) : Int) := by rw [show (10 + (j : Int)).toNat = 10 + j by (first | (law_clear; lia) | lia | omega)]; simp
    refine P.hex_of_int ?_ (by rw [ej, sizeLine_eq]; have := (flag_fact (k := 10 + j) (by (first | (law_clear; lia) | lia | omega))).2.2.2; (first | (law_clear; lia) | lia | omega))
    have ef : baseText "0x" 16 ((2 ^ (10 + j) : Nat) : Int) = flagW (10 + j) := by unfold flagW; rw [if_neg (by (first | (law_clear; lia) | lia | omega))]
    rw [ej, ef]
    k_steps
    refine ⟨h, _, rfl, Kp.rfl, fun _ => ⟨by (try dsimp only); (first | (law_clear; lia) | lia | omega), l ++ [(flagW (10 + j), _)], by unfold strValues; rw [List.map_append]; rfl, by rw [List.map_append, hJ1, List.range_succ, List.map_append]; rfl, fun p hp => ?_⟩⟩
    rcases List.mem_append.mp hp with hp | hp
    · exact (hJ2 p hp).up (by (try dsimp only); (first | (law_clear; lia) | lia | omega))
    · rw [List.mem_singleton.mp hp]; constructor <;> ((try dsimp only); (first | (law_clear; lia) | lia | omega))
  case g2 =>
    rintro D7 ys7 h7 tk7 ⟨hJ0, l7, rfl, hJ1, hJ2⟩ hT7 hD7 hge7 hk7
    (try dsimp only at hT7)
    have F8 := F7.keeps hk7
    obtain ⟨nn7, N8⟩ := plain_news (N7.grown hk7) F7 hk7 hD7 hge7
    have lD7 := fun p hp => Nat.lt_of_lt_of_le (Heap.lt_size (N7 p hp).1) hge7
    (try k_lt lD7)
    clear F7 N7
    have N9 := news_swap2 N8
    clear N8
    have hl7 : l7.length = 22 := by have := congrArg List.length hJ1; simpa using this
    have hl6 : lnm.length = 10 := by have := congrArg List.length hlnm; simpa [flagNames] using this
    refine iadd_lists F8 N9 (.head _) (by
      intro q hq
      rcases (mc hq).imp_right fun h => (mc h).imp_right fun h => (mc h).imp_right fun h => (mc h).imp_right fun h => (mc h).imp_right fun h => (mc h).imp_right mc1 with rfl | rfl | rfl | rfl | rfl | rfl | rfl <;> exact neN (by (try dsimp only); (first | (law_clear; lia) | lia | omega))) (by simp only [strValues, List.length_map]; (first | (law_clear; lia) | lia | omega)) (by simp only [strValues, List.length_map]; (first | (law_clear; lia) | lia | omega)) fun h9 n9 F9 N10 => ?_
    clear F8 N9
    rw [show strValues lnm ++ strValues l7 = strValues (lnm ++ l7) by unfold strValues; rw [List.map_append]] at N10
    k_steps
    unfold Halt
    (try k_fold)
    have hnm : (lnm ++ l7).map (·.1) = (List.range 32).map flagW := by
      rw [List.map_append, hlnm, hJ1, show 32 = 10 + 22 from rfl, List.range_add, List.map_append, List.map_map]
      rfl
    have hnt : ∀ p ∈ lnm ++ l7, 450 ≤ p.2 ∧ p.2 < tk7 := fun p hp => (List.mem_append.mp hp).elim (fun hp => tok_lnm (hnm6 p hp) (by (first | (law_clear; lia) | lia | omega)) (by (first | (law_clear; lia) | lia | omega))) fun hp => hJ2 p hp
    (rename Fr _ _ _ _ => F11)
    (rename News _ _ _ _ => N11)
    refine PSpec.useA (A₀ := _) (told_p tN bN _ _ D6 _ (lnm ++ l7) tk7 hnm hnt htN hbN hJ0) (by k_asm) (by k_asm) (by k_asm) (by assumption) (by k_asm) (by exact rfl) (by exact rfl) (by (try dsimp +zetaDelta only [ktrTop, Around.deeper]); first | (first | (law_clear; lia) | lia | omega) | decide) (by (try dsimp +zetaDelta only [ktrTop, Around.deeper]); first | (first | (law_clear; lia) | lia | omega) | decide) (⟨⟨_, (N11 (D6, _) (by k_mem)).1, rfl, _, rfl⟩, by (try dsimp only); (first | (law_clear; lia) | lia | omega), rfl⟩) ?_; intro v9 h9 tk9 F9 N9 kp9 ht9 hz9 hp9; (try dsimp only at hp9 ht9 hz9 kp9)
    obtain ⟨tup, pl, rl, cl', pv, rv, cv, np, nr, nc, rfl, e1, e2, e3, e4, i1, i2, i3, x1, x2, x3, x4⟩ := hp9
    have y1 : ∀ (a : Addr) (o : Obj), (a, o) ∈ [(L' + 1 + 1 + 1 + 1, oG), (L' + 1 + 1 + 1, oR), (L' + 1 + 1, oP), (L' + 1, oT), (163, tabObj #[]), (149, tabObj #[])] → tup ≠ a ∧ pl ≠ a ∧ rl ≠ a ∧ cl' ≠ a := by
      intro a o hq
      have hm := (N11 (a, o) (by rcases (mc hq).imp_right fun h => (mc h).imp_right fun h => (mc h).imp_right fun h => (mc h).imp_right fun h => (mc h).imp_right mc1 with h | h | h | h | h | h <;> first | (rw [h]; first | exact mem_at 0 rfl | exact mem_at 1 rfl | exact mem_at 2 rfl | exact mem_at 3 rfl | exact mem_at 4 rfl | exact mem_at 5 rfl | exact mem_at 6 rfl | exact mem_at 7 rfl | exact mem_at 8 rfl | exact mem_at 9 rfl | exact mem_at 10 rfl | exact mem_at 11 rfl | exact mem_at 12 rfl | exact mem_at 13 rfl) | exact .tail _ (h) | exact .tail _ (.tail _ (h)) | exact .tail _ (.tail _ (.tail _ (h))) | exact .tail _ (.tail _ (.tail _ (.tail _ (h)))) | exact .tail _ (.tail _ (.tail _ (.tail _ (.tail _ (h))))) | exact .tail _ (.tail _ (.tail _ (.tail _ (.tail _ (.tail _ (h)))))) | exact .tail _ (.tail _ (.tail _ (.tail _ (.tail _ (.tail _ (.tail _ (h))))))) | exact .tail _ (.tail _ (.tail _ (.tail _ (.tail _ (.tail _ (.tail _ (.tail _ (h)))))))) | exact .tail _ (.tail _ (.tail _ (.tail _ (.tail _ (.tail _ (.tail _ (.tail _ (.tail _ (h))))))))) | exact .tail _ (.tail _ (.tail _ (.tail _ (.tail _ (.tail _ (.tail _ (.tail _ (.tail _ (.tail _ (h)))))))))) | exact .tail _ (.tail _ (.tail _ (.tail _ (.tail _ (.tail _ (.tail _ (.tail _ (.tail _ (.tail _ (.tail _ (h))))))))))))).1
      exact ⟨fresh_lt hm x1, fresh_lt hm x2, fresh_lt hm x3, fresh_lt hm x4⟩
    have N12 := news_fresh F11 x1 e1 (news_fresh F11 x2 e2 (news_fresh F11 x3 e3 (news_fresh F11 x4 e4 N9)))
    clear N9 N11
    k_steps
    (rename Fr _ _ _ _ => F13)
    (rename News _ _ _ _ => N13)
    obtain ⟨bg, ebg⟩ : ∃ bg, bg = [(tup, { cls := Value.type "tuple", data := Data.seq #[Value.ref pl, Value.ref rl, Value.ref cl'] }), (pl, listOf pv.toArray np), (rl, listOf rv.toArray nr), (cl', listOf cv.toArray nc), (D6, listOf (strValues (lnm ++ l7)).toArray n9), (163, tabObj #[]), (149, tabObj #[])] := ⟨_, rfl⟩
    have N14 : News g' L' _ ((L' + 1 + 1 + 1 + 1, oG) :: (L' + 1 + 1 + 1, oR) :: (L' + 1 + 1, oP) :: (L' + 1, oT) :: bg) := newsSub N13 (by
      intro q hq
      rw [ebg] at hq
      rcases (mc hq).imp_right fun h => (mc h).imp_right fun h => (mc h).imp_right fun h => (mc h).imp_right fun h => (mc h).imp_right fun h => (mc h).imp_right fun h => (mc h).imp_right fun h => (mc h).imp_right fun h => (mc h).imp_right fun h => (mc h).imp_right mc1 with h | h | h | h | h | h | h | h | h | h | h <;> first | (rw [h]; first | exact mem_at 0 rfl | exact mem_at 1 rfl | exact mem_at 2 rfl | exact mem_at 3 rfl | exact mem_at 4 rfl | exact mem_at 5 rfl | exact mem_at 6 rfl | exact mem_at 7 rfl | exact mem_at 8 rfl | exact mem_at 9 rfl | exact mem_at 10 rfl | exact mem_at 11 rfl | exact mem_at 12 rfl | exact mem_at 13 rfl) | exact .tail _ (h) | exact .tail _ (.tail _ (h)) | exact .tail _ (.tail _ (.tail _ (h))) | exact .tail _ (.tail _ (.tail _ (.tail _ (h)))) | exact .tail _ (.tail _ (.tail _ (.tail _ (.tail _ (h))))) | exact .tail _ (.tail _ (.tail _ (.tail _ (.tail _ (.tail _ (h)))))) | exact .tail _ (.tail _ (.tail _ (.tail _ (.tail _ (.tail _ (.tail _ (h))))))) | exact .tail _ (.tail _ (.tail _ (.tail _ (.tail _ (.tail _ (.tail _ (.tail _ (h)))))))) | exact .tail _ (.tail _ (.tail _ (.tail _ (.tail _ (.tail _ (.tail _ (.tail _ (.tail _ (h))))))))) | exact .tail _ (.tail _ (.tail _ (.tail _ (.tail _ (.tail _ (.tail _ (.tail _ (.tail _ (.tail _ (h)))))))))) | exact .tail _ (.tail _ (.tail _ (.tail _ (.tail _ (.tail _ (.tail _ (.tail _ (.tail _ (.tail _ (.tail _ (h))))))))))))
    clear N13
    have hbg : ∀ q ∈ bg, q.1 ≠ L' + 1 ∧ q.1 ≠ L' + 1 + 1 ∧ q.1 ≠ L' + 1 + 1 + 1 ∧ q.1 ≠ L' + 1 + 1 + 1 + 1 := by
      intro q hq
      have z1 := y1 (L' + 1) oT (by simp)
      have z2 := y1 (L' + 1 + 1) oP (by simp)
      have z3 := y1 (L' + 1 + 1 + 1) oR (by simp)
      have z4 := y1 (L' + 1 + 1 + 1 + 1) oG (by simp)
      rw [ebg] at hq
      rcases (mc hq).imp_right fun h => (mc h).imp_right fun h => (mc h).imp_right fun h => (mc h).imp_right fun h => (mc h).imp_right fun h => (mc h).imp_right mc1 with rfl | rfl | rfl | rfl | rfl | rfl | rfl
      · exact ⟨z1.1, z2.1, z3.1, z4.1⟩
      · exact ⟨z1.2.1, z2.2.1, z3.2.1, z4.2.1⟩
      · exact ⟨z1.2.2.1, z2.2.2.1, z3.2.2.1, z4.2.2.1⟩
      · exact ⟨z1.2.2.2, z2.2.2.2, z3.2.2.2, z4.2.2.2⟩
      · exact ⟨neN (by (try dsimp only); (first | (law_clear; lia) | lia | omega)), neN (by (try dsimp only); (first | (law_clear; lia) | lia | omega)), neN (by (try dsimp only); (first | (law_clear; lia) | lia | omega)), neN (by (try dsimp only); (first | (law_clear; lia) | lia | omega))⟩
      · exact ⟨neN (by (try dsimp only); (first | (law_clear; lia) | lia | omega)), neN (by (try dsimp only); (first | (law_clear; lia) | lia | omega)), neN (by (try dsimp only); (first | (law_clear; lia) | lia | omega)), neN (by (try dsimp only); (first | (law_clear; lia) | lia | omega))⟩
      · exact ⟨neN (by (try dsimp only); (first | (law_clear; lia) | lia | omega)), neN (by (try dsimp only); (first | (law_clear; lia) | lia | omega)), neN (by (try dsimp only); (first | (law_clear; lia) | lia | omega)), neN (by (try dsimp only); (first | (law_clear; lia) | lia | omega))⟩
    have mpl : (pl, listOf pv.toArray np) ∈ bg := by rw [ebg]; exact .tail _ (.head _)
    have mrl : (rl, listOf rv.toArray nr) ∈ bg := by rw [ebg]; exact .tail _ (.tail _ (.head _))
    have mcl : (cl', listOf cv.toArray nc) ∈ bg := by rw [ebg]; exact .tail _ (.tail _ (.tail _ (.head _)))
    have mnm : (D6, listOf (strValues (lnm ++ l7)).toArray n9) ∈ bg := by rw [ebg]; exact .tail _ (.tail _ (.tail _ (.tail _ (.head _))))
    have m163 : (163, tabObj #[]) ∈ bg := by rw [ebg]; exact .tail _ (.tail _ (.tail _ (.tail _ (.tail _ (.head _)))))
    have m149 : (149, tabObj #[]) ∈ bg := by rw [ebg]; exact .tail _ (.tail _ (.tail _ (.tail _ (.tail _ (.tail _ (.head _))))))
    refine' storeX_C F13 N14 ?s1 (.tail (neN (by (try dsimp only); (first | (law_clear; lia) | lia | omega))) (.tail (neN (by (try dsimp only); (first | (law_clear; lia) | lia | omega))) (.head ?s2))) dP ?_ ?s3 ?s4
    case s1 => rfl
    case s3 => rfl
    case s4 => rfl
    case s2 => exact fun q hq => (List.mem_cons.mp hq).elim (fun e => by rw [e]; exact neN (by (try dsimp only); (first | (law_clear; lia) | lia | omega))) fun h => (hbg q h).2.1
    intro h14 oP1 F15 N16 dP1
    clear F13 N14
    (try dsimp only at N16)
    k_steps
    (rename Fr _ _ _ _ => F17)
    refine' storeX_C F17 N16 ?s1 (.tail (neN (by (try dsimp only); (first | (law_clear; lia) | lia | omega))) (.head ?s2)) dR ?_ ?s3 ?s4
    case s1 => rfl
    case s3 => rfl
    case s4 => rfl
    case s2 => exact fun q hq => (List.mem_cons.mp hq).elim (fun e => by rw [e]; exact neN (by (try dsimp only); (first | (law_clear; lia) | lia | omega))) fun h => (List.mem_cons.mp h).elim (fun e => by rw [e]; exact neN (by (try dsimp only); (first | (law_clear; lia) | lia | omega))) fun h => (hbg q h).2.2.1
    intro h16 oR1 F18 N18 dR1
    clear F17 N16
    (try dsimp only at N18)
    k_steps
    unfold Halt
    (try k_fold)
    k_dflt (refine' compq_evalT ?r1 ?r2 ?r3 ?r4 ?r5 ?_; (case r1 => exact rfl); (case r2 => decide); (case r3 => rfl); (case r4 => decide); (case r5 => rfl))
    k_steps
    unfold Halt
    (try k_fold)
    (rename _ ≤ _ => htR1)
    (try dsimp only at htR1)
    (rename Fr _ _ _ _ => F19)
    (rename News _ _ _ _ => N19)
    (rename IsRange _ _ _ _ _ _ _ _ => R19)
    refine CGo.intro ⟨25, (fun j v => ∃ t, v = .int (0 + (j : Int)) t ∧ _ ≤ t), (fun j ys _ => IntsAre ys (castL ((List.range j).filter tN.testBit))), (by rw [sizeLine_eq]; (first | (law_clear; lia) | lia | omega)), SrcT.range rfl R19 (by decide) (by decide), (fun _ _ _ _ q _ => q), .nil, ?g3, ?g4⟩
    case g3 =>
      rintro j v ys h tk hj ⟨tj, rfl, htj⟩ hJ hT hk C m₂ hC hm₂ hCn
      refine CStep.one ?_
      have F9' := F19.keeps hk
      have N9' := N19.grown hk
      clear F19 N19
      k_steps
      · have hb := (bit_iff tN j).mp (by assumption)
        exact ⟨h, _, rfl, Kp.rfl, fun _ => by show IntsAre _ _; rw [rfilt_yes hb, cast_snoc, Int.zero_add]; exact ints_snoc hJ _ _⟩
      · have hb : tN.testBit j = false := by
          cases e : tN.testBit j with
          | false => rfl
          | true => exact absurd ((bit_iff tN j).mpr e) (by assumption)
        exact ⟨h, _, rfl, Kp.rfl, fun _ => by show IntsAre _ _; rw [rfilt_no hb]; exact hJ⟩
    case g4 =>
      intro D20 ys20 h20 tk20 hJ20 hT20 hD20 hge20 hk20
      (try dsimp only at hT20)
      have F20 := F19.keeps hk20
      obtain ⟨nn20, N20⟩ := plain_news (N19.grown hk20) F19 hk20 hD20 hge20
      clear F19 N19
      (try dsimp only)
      k_steps
      unfold Halt
      (try k_fold)
      refine ke_ne_ints ⟨_, (N20 (pl, _) (.tail _ (.tail _ (.tail _ (.tail _ (.tail _ mpl)))))).1, rfl, _, rfl⟩ ⟨_, (N20 _ (.head _)).1, rfl, _, rfl⟩ i1 hJ20 (room_law _) ?_
      rw [show (!decide (((bitsTo tN 25).map fun k => ((k : Nat) : Int)) = castL ((List.range 25).filter tN.testBit))) = false by rw [show ((bitsTo tN 25).map fun k => ((k : Nat) : Int)) = castL ((List.range 25).filter tN.testBit) from rfl, decide_eq_true rfl]; rfl]
      replace N20 := newsSub N20 fun q hq => .tail _ hq
      k_steps
      unfold Halt
      (try k_fold)
      k_dflt (refine' compq_evalCT [(Str.ofString ".0", .local)] [(Str.ofString "len", .globalImplicit), (Str.ofString "places", .free)] ?r1 ?r2 ?r3 ?r4 ?r5 ?r6 ?r7 ?_; (case r1 => exact rfl); (case r2 => rfl); (case r3 => decide); (case r4 => decide); (case r5 => rfl); (case r6 => decide); (case r7 => rfl))
      k_steps
      unfold Halt
      (try k_fold)
      (rename _ ≤ _ => htR2)
      (try dsimp only at htR2)
      (rename Fr _ _ _ _ => F21)
      (rename News _ _ _ _ => N21)
      (rename IsRange _ _ _ _ _ _ _ _ => R21)
      obtain ⟨zs, ezs⟩ : ∃ zs : List Int, zs = (bitsTo tN 25).map fun k => ((k : Nat) : Int) := ⟨_, rfl⟩
      rw [← ezs] at i1 i2 i3
      have hzl : zs.length ≤ 25 := by rw [ezs, List.length_map]; unfold bitsTo; have := List.length_filter_le tN.testBit (List.range 25); rw [List.length_range] at this; exact this
      refine CGo.intro ⟨5, (fun j v => ∃ t, v = .int (0 + (j : Int)) t ∧ _ ≤ t), (fun j ys _ => IntsAre ys ((List.range j).map (rowD zs))), (by rw [sizeLine_eq]; (first | (law_clear; lia) | lia | omega)), SrcT.range rfl R21 (by decide) (by decide), (fun _ _ _ _ q _ => q), .nil, ?g5, ?g6⟩
      case g5 =>
        rintro j v ys h tk hj ⟨tj, rfl, htj⟩ hJ hT hk C c hIc hCns hCn hcn
        refine CStep.nil ?_
        have F9' := F21.keeps hk
        have N9' := N21.grown hk
        clear F21 N21
        k_steps
        unfold Halt
        (try k_fold)
        k_dflt (refine' compq_eval ?r1 ?r2 ?r3 ?r4 ?r5 ?_; (case r1 => exact rfl); (case r2 => decide); (case r3 => rfl); (case r4 => decide); (case r5 => rfl))
        (try dsimp only)
        k_steps
        unfold Halt
        (try k_fold)
        refine CGo.intro ⟨pv.length, (fun k v => pv[k]? = some v), (fun k ys _ => IntsAre ys ((zs.take k).filter fun z => decide (z.fdiv 5 = 0 + (j : Int)))), ?u1, SrcT.list rfl ⟨_, (N9' (pl, _) (.tail _ (.tail _ (.tail _ (.tail _ mpl))))).1, rfl, _, rfl⟩, (fun _ _ _ _ q _ => q), .nil, ?u2, ?u3⟩
        case u1 => rw [i1.length, sizeLine_eq]; (first | (law_clear; lia) | lia | omega)
        case u2 =>
          intro k v ys2 h2 tk2' hk2 hP2 hJ2' hT2' hkk C2 m₂ hC2 hm2 hC2n
          refine CStep.one ?_
          obtain ⟨hz9, t9, rfl⟩ := ints_at_map i1 hP2
          have F9'' := F9'.keeps hkk
          have N9'' := N9'.grown hkk
          have hIc2 := hIc.keeps hkk
          clear F9' N9'
          (try dsimp only)
          k_steps
          unfold Halt
          (try k_fold)
          refine nameN_loc hC2 hm2 rfl rfl rfl ?_
          k_steps
          unfold Halt
          (try k_fold)
          refine nameN_cell hIc2 rfl rfl rfl ?_
          k_steps
          · unfold Halt
            refine nameN_loc hC2 hm2 rfl rfl rfl ?_
            exact ⟨h2, _, rfl, Kp.rfl, fun _ => by show IntsAre _ _; rw [filt_yes hz9 (decide_eq_true (by assumption))]; exact ints_snoc hJ2' _ _⟩
          · exact ⟨h2, _, rfl, Kp.rfl, fun _ => by show IntsAre _ _; rw [filt_no hz9 (decide_eq_false (by assumption))]; exact hJ2'⟩
        case u3 =>
          intro D23 ys23 h23 tk23 hJ23 hT23 hD23 hge23 hk23
          rw [i1.length, List.take_length] at hJ23
          (try dsimp only)
          k_steps
          unfold Halt
          (try k_fold)
          refine len_of hD23.isList rfl (by have e1 := hJ23.length; have e2 := List.length_filter_le (fun z => decide (z.fdiv 5 = 0 + (j : Int))) zs; (first | (law_clear; lia) | lia | omega)) ?_
          have eD : rowD zs j = (ys23.length : Int) := by unfold rowD; rw [hJ23.length]
          exact ⟨h23, _, rfl, hk23, fun _ => by show IntsAre _ _; rw [range_snoc, eD]; exact ints_snoc hJ _ _⟩
      case g6 =>
        intro D22 ys22 h22 tk22 hJ22 hT22 hD22 hge22 hk22
        (try dsimp only at hT22)
        have F22 := F21.keeps hk22
        obtain ⟨nn22, N22⟩ := plain_news (N21.grown hk22) F21 hk22 hD22 hge22
        clear F21 N21
        (try dsimp only)
        k_steps
        unfold Halt
        (try k_fold)
        refine ke_ne_ints ⟨_, (N22 (rl, _) (.tail _ (.tail _ (.tail _ (.tail _ (.tail _ mrl)))))).1, rfl, _, rfl⟩ ⟨_, (N22 _ (.head _)).1, rfl, _, rfl⟩ i2 hJ22 (room_law _) ?_
        rw [rows_same, decide_eq_true rfl]
        (try dsimp only [Bool.not_true])
        replace N22 := newsSub N22 fun q hq => .tail _ hq
        k_steps
        unfold Halt
        (try k_fold)
        k_dflt (refine' compq_evalCT [(Str.ofString ".0", .local)] [(Str.ofString "len", .globalImplicit), (Str.ofString "places", .free)] ?r1 ?r2 ?r3 ?r4 ?r5 ?r6 ?r7 ?_; (case r1 => exact rfl); (case r2 => rfl); (case r3 => decide); (case r4 => decide); (case r5 => rfl); (case r6 => decide); (case r7 => rfl))
        k_steps
        unfold Halt
        (try k_fold)
        (rename _ ≤ _ => htR3)
        (try dsimp only at htR3)
        (rename Fr _ _ _ _ => F24)
        (rename News _ _ _ _ => N24)
        (rename IsRange _ _ _ _ _ _ _ _ => R24)
        refine CGo.intro ⟨5, (fun j v => ∃ t, v = .int (0 + (j : Int)) t ∧ _ ≤ t), (fun j ys _ => IntsAre ys ((List.range j).map (colD zs))), (by rw [sizeLine_eq]; (first | (law_clear; lia) | lia | omega)), SrcT.range rfl R24 (by decide) (by decide), (fun _ _ _ _ q _ => q), .nil, ?g7, ?g8⟩
        case g7 =>
          rintro j v ys h tk hj ⟨tj, rfl, htj⟩ hJ hT hk C c hIc hCns hCn hcn
          refine CStep.nil ?_
          have F9' := F24.keeps hk
          have N9' := N24.grown hk
          clear F24 N24
          k_steps
          unfold Halt
          (try k_fold)
          k_dflt (refine' compq_eval ?r1 ?r2 ?r3 ?r4 ?r5 ?_; (case r1 => exact rfl); (case r2 => decide); (case r3 => rfl); (case r4 => decide); (case r5 => rfl))
          (try dsimp only)
          k_steps
          unfold Halt
          (try k_fold)
          refine CGo.intro ⟨pv.length, (fun k v => pv[k]? = some v), (fun k ys _ => IntsAre ys ((zs.take k).filter fun z => decide (z.fmod 5 = 0 + (j : Int)))), ?v1, SrcT.list rfl ⟨_, (N9' (pl, _) (.tail _ (.tail _ (.tail _ (.tail _ mpl))))).1, rfl, _, rfl⟩, (fun _ _ _ _ q _ => q), .nil, ?v2, ?v3⟩
          case v1 => rw [i1.length, sizeLine_eq]; (first | (law_clear; lia) | lia | omega)
          case v2 =>
            intro k v ys2 h2 tk2' hk2 hP2 hJ2' hT2' hkk C2 m₂ hC2 hm2 hC2n
            refine CStep.one ?_
            obtain ⟨hz9, t9, rfl⟩ := ints_at_map i1 hP2
            have F9'' := F9'.keeps hkk
            have N9'' := N9'.grown hkk
            have hIc2 := hIc.keeps hkk
            clear F9' N9'
            (try dsimp only)
            k_steps
            unfold Halt
            (try k_fold)
            refine nameN_loc hC2 hm2 rfl rfl rfl ?_
            k_steps
            unfold Halt
            (try k_fold)
            refine nameN_cell hIc2 rfl rfl rfl ?_
            k_steps
            · unfold Halt
              refine nameN_loc hC2 hm2 rfl rfl rfl ?_
              exact ⟨h2, _, rfl, Kp.rfl, fun _ => by show IntsAre _ _; rw [filt_yes hz9 (decide_eq_true (by assumption))]; exact ints_snoc hJ2' _ _⟩
            · exact ⟨h2, _, rfl, Kp.rfl, fun _ => by show IntsAre _ _; rw [filt_no hz9 (decide_eq_false (by assumption))]; exact hJ2'⟩
          case v3 =>
            intro D23 ys23 h23 tk23 hJ23 hT23 hD23 hge23 hk23
            rw [i1.length, List.take_length] at hJ23
            (try dsimp only)
            k_steps
            unfold Halt
            (try k_fold)
            refine len_of hD23.isList rfl (by have e1 := hJ23.length; have e2 := List.length_filter_le (fun z => decide (z.fmod 5 = 0 + (j : Int))) zs; (first | (law_clear; lia) | lia | omega)) ?_
            have eD : colD zs j = (ys23.length : Int) := by unfold colD; rw [hJ23.length]
            exact ⟨h23, _, rfl, hk23, fun _ => by show IntsAre _ _; rw [range_snoc, eD]; exact ints_snoc hJ _ _⟩
        case g8 =>
          intro D26 ys26 h26 tk26 hJ26 hT26 hD26 hge26 hk26
          (try dsimp only at hT26)
          have F26 := F24.keeps hk26
          obtain ⟨nn26, N26⟩ := plain_news (N24.grown hk26) F24 hk26 hD26 hge26
          clear F24 N24
          (try dsimp only)
          k_steps
          unfold Halt
          (try k_fold)
          refine ke_ne_ints ⟨_, (N26 (cl', _) (.tail _ (.tail _ (.tail _ (.tail _ (.tail _ mcl)))))).1, rfl, _, rfl⟩ ⟨_, (N26 _ (.head _)).1, rfl, _, rfl⟩ i3 hJ26 (room_law _) ?_
          rw [cols_same, decide_eq_true rfl]
          (try dsimp only [Bool.not_true])
          replace N26 := newsSub N26 fun q hq => .tail _ hq
          k_steps
          unfold Halt
          (try k_fold)
          have e2' : (List.range 5).map (rowC zs) = rowsOf tN := by rw [ezs]; rfl
          have e3' : (List.range 5).map (colC zs) = colsOf tN := by rw [ezs]; rfl
          rw [e2'] at i2
          rw [e3'] at i3
          obtain ⟨st, uN, hgal, hst, huN, hru, hcu, hled⟩ := gale_ok tN htN sN hsN
          (rename Fr _ _ _ _ => F27)
          (rename News _ _ _ _ => N27)
          have hTL : ∀ (h : Heap) (q : Str), TabL h q #[] [] := fun h q => ⟨trivial, (fun q hq => by cases hq), fun pos cv e => by simp [codeAmong] at e⟩
          refine ESpec.useA (A₀ := _) (gale_e rl cl' rv cv (rowsOf tN) (colsOf tN) sN _ #[] i2 i3 (rows_five tN).1 (rows_five tN).2 (cols_five tN) hsN) (by k_asm) (by k_asm) (by k_asm) (fun q hq => by rw [List.mem_singleton.mp hq]; exact .tail _ (.tail _ (.tail _ (.tail _ m149)))) (by assumption) (by k_asm) (by exact rfl) (by exact rfl) (by (try dsimp +zetaDelta only [ktrTop, Around.deeper]); first | (first | (law_clear; lia) | lia | omega) | decide) (by (try dsimp +zetaDelta only [ktrTop, Around.deeper]); first | (first | (law_clear; lia) | lia | omega) | decide) (⟨⟨_, (N27 (rl, _) (.tail _ (.tail _ (.tail _ (.tail _ mrl))))).1, rfl, _, rfl⟩, ⟨_, (N27 (cl', _) (.tail _ (.tail _ (.tail _ (.tail _ mcl))))).1, rfl, _, rfl⟩, hTL _ _⟩) ?_; intro v9 h9 tk9 F9 N9 kp9 ht9 hz9 hp9; (try dsimp only at hp9 ht9 hz9 kp9)
          obtain ⟨hp9, ps9, hg149, hT149⟩ := hp9
          rcases hp9 with ⟨_, hx⟩ | ⟨st', t9, hx, rfl⟩
          · rw [hgal] at hx; cases hx
          rw [hgal] at hx
          cases hx
          rw [hst]
          obtain ⟨ex9, hTG, Nx9⟩ := tab_open F9 hT149
          have w9 := y1 149 (tabObj #[]) (by simp)
          obtain ⟨bf, ebf⟩ : ∃ bf, bf = [(tup, { cls := Value.type "tuple", data := Data.seq #[Value.ref pl, Value.ref rl, Value.ref cl'] }), (pl, listOf pv.toArray np), (rl, listOf rv.toArray nr), (cl', listOf cv.toArray nc), (D6, listOf (strValues (lnm ++ l7)).toArray n9), (163, tabObj #[])] := ⟨_, rfl⟩
          have hbf : ∀ q ∈ bf, q ∈ bg ∧ q.1 ≠ 149 := by
            intro q hq
            refine ⟨by rw [ebg, ebf] at *; rcases (mc hq).imp_right fun h => (mc h).imp_right fun h => (mc h).imp_right fun h => (mc h).imp_right fun h => (mc h).imp_right mc1 with h | h | h | h | h | h <;> first | (rw [h]; first | exact mem_at 0 rfl | exact mem_at 1 rfl | exact mem_at 2 rfl | exact mem_at 3 rfl | exact mem_at 4 rfl | exact mem_at 5 rfl | exact mem_at 6 rfl | exact mem_at 7 rfl | exact mem_at 8 rfl | exact mem_at 9 rfl | exact mem_at 10 rfl | exact mem_at 11 rfl | exact mem_at 12 rfl | exact mem_at 13 rfl) | exact .tail _ (h) | exact .tail _ (.tail _ (h)) | exact .tail _ (.tail _ (.tail _ (h))) | exact .tail _ (.tail _ (.tail _ (.tail _ (h)))) | exact .tail _ (.tail _ (.tail _ (.tail _ (.tail _ (h))))) | exact .tail _ (.tail _ (.tail _ (.tail _ (.tail _ (.tail _ (h)))))) | exact .tail _ (.tail _ (.tail _ (.tail _ (.tail _ (.tail _ (.tail _ (h))))))) | exact .tail _ (.tail _ (.tail _ (.tail _ (.tail _ (.tail _ (.tail _ (.tail _ (h)))))))) | exact .tail _ (.tail _ (.tail _ (.tail _ (.tail _ (.tail _ (.tail _ (.tail _ (.tail _ (h))))))))) | exact .tail _ (.tail _ (.tail _ (.tail _ (.tail _ (.tail _ (.tail _ (.tail _ (.tail _ (.tail _ (h)))))))))) | exact .tail _ (.tail _ (.tail _ (.tail _ (.tail _ (.tail _ (.tail _ (.tail _ (.tail _ (.tail _ (.tail _ (h))))))))))), ?_⟩
            rw [ebf] at hq
            rcases (mc hq).imp_right fun h => (mc h).imp_right fun h => (mc h).imp_right fun h => (mc h).imp_right fun h => (mc h).imp_right mc1 with rfl | rfl | rfl | rfl | rfl | rfl
            · exact w9.1
            · exact w9.2.1
            · exact w9.2.2.1
            · exact w9.2.2.2
            · exact neN (by (try dsimp only); (first | (law_clear; lia) | lia | omega))
            · exact neN (by decide)
          have N28 : News g' L' h9 ((L' + 1 + 1 + 1 + 1, oG) :: (L' + 1 + 1 + 1, oR1) :: (L' + 1 + 1, oP1) :: (L' + 1, oT) :: (149, tabObj ps9) :: (bf ++ ex9)) := newsSub ((N9 ((L' + 1 + 1 + 1 + 1, oG) :: (L' + 1 + 1 + 1, oR1) :: (L' + 1 + 1, oP1) :: (L' + 1, oT) :: (149, tabObj ps9) :: bf) (by
            intro q hq
            rcases (mc hq).imp_right fun h => (mc h).imp_right fun h => (mc h).imp_right fun h => (mc h).imp_right fun h => (mc h) with h | h | h | h | h | h
            · exact .inl ⟨by rw [h]; exact .head _, by rw [h]; simp only [List.map_cons, List.map_nil, List.mem_singleton]; exact neN (by (first | (law_clear; lia) | lia | omega))⟩
            · exact .inl ⟨by rw [h]; exact .tail _ (.head _), by rw [h]; simp only [List.map_cons, List.map_nil, List.mem_singleton]; exact neN (by (first | (law_clear; lia) | lia | omega))⟩
            · exact .inl ⟨by rw [h]; exact .tail _ (.tail _ (.head _)), by rw [h]; simp only [List.map_cons, List.map_nil, List.mem_singleton]; exact neN (by (first | (law_clear; lia) | lia | omega))⟩
            · exact .inl ⟨by rw [h]; exact .tail _ (.tail _ (.tail _ (.head _))), by rw [h]; simp only [List.map_cons, List.map_nil, List.mem_singleton]; exact neN (by (first | (law_clear; lia) | lia | omega))⟩
            · exact .inr ⟨by rw [h]; exact .head _, by rw [h]; exact hg149⟩
            · exact .inl ⟨.tail _ (.tail _ (.tail _ (.tail _ (hbf q h).1))), by simp only [List.map_cons, List.map_nil, List.mem_singleton]; exact (hbf q h).2⟩)).append Nx9) (by
            intro q hq
            simp only [List.mem_cons, List.mem_append] at hq ⊢
            rcases hq with h | h | h | h | h | h | h <;> simp only [h, true_or, or_true])
          clear N9 N27 F27 Nx9
          k_steps
          unfold Halt
          (try k_fold)
          (rename Fr _ _ _ _ => F29)
          (rename News _ _ _ _ => N29)
          have mnm2 : (D6, listOf (strValues (lnm ++ l7)).toArray n9) ∈ bf := by rw [ebf]; exact .tail _ (.tail _ (.tail _ (.tail _ (.head _))))
          refine PSpec.useA (A₀ := _) (told_p uN bN _ _ D6 _ (lnm ++ l7) tk7 hnm hnt huN hbN hJ0) (by k_asm) (by k_asm) (by k_asm) (by assumption) (by k_asm) (by exact rfl) (by exact rfl) (by (try dsimp +zetaDelta only [ktrTop, Around.deeper]); first | (first | (law_clear; lia) | lia | omega) | decide) (by (try dsimp +zetaDelta only [ktrTop, Around.deeper]); first | (first | (law_clear; lia) | lia | omega) | decide) (⟨⟨_, (N29 (D6, _) (.tail _ (.tail _ (.tail _ (.tail _ (.tail _ (mem_l mnm2))))))).1, rfl, _, rfl⟩, by (try dsimp only); (first | (law_clear; lia) | lia | omega), rfl⟩) ?_; intro v9 h9 tk9 F9 N9 kp9 ht9 hz9 hp9; (try dsimp only at hp9 ht9 hz9 kp9)
          obtain ⟨tup2, pl2, rl2, cl2, pv2, rv2, cv2, np2, nr2, nc2, rfl, f1, f2, f3, f4, k1, k2, k3, z1, z2, z3, z4⟩ := hp9
          have e4' : (List.range 5).map (rowC ((bitsTo uN 25).map fun k => ((k : Nat) : Int))) = rowsOf tN := by rw [← hru]; rfl
          have e5' : (List.range 5).map (colC ((bitsTo uN 25).map fun k => ((k : Nat) : Int))) = colsOf tN := by rw [← hcu]; rfl
          rw [e4'] at k2
          rw [e5'] at k3
          have N30 := news_fresh F29 z1 f1 (news_fresh F29 z3 f3 (news_fresh F29 z4 f4 N9))
          clear N9 N29 F29
          k_steps
          unfold Halt
          (try k_fold)
          refine slice_tuple_from (s := ⟨_, _, _, _, _⟩) (a := 1) F9 N30 ⟨_, (N30 _ (.head _)).1, rfl, _, rfl⟩ (by show 1 ≤ 1; decide) (by show 1 ≤ 3; decide) (fun h31 F31 N31 => ?_) (by with_unfolding_all rfl) (by intro _; with_unfolding_all rfl) (by show 3 ≤ sizeLine; decide)
          clear N30
          k_steps
          unfold Halt
          (try k_fold)
          (rename Fr _ _ _ _ => F32)
          (rename News _ _ _ _ => N32)
          have mrl2 : (rl, listOf rv.toArray nr) ∈ bf := by rw [ebf]; exact .tail _ (.tail _ (.head _))
          have mcl2 : (cl', listOf cv.toArray nc) ∈ bf := by rw [ebf]; exact .tail _ (.tail _ (.tail _ (.head _)))
          refine ne_pairs (N32 _ (.tail _ (.head _))).1 (N32 _ (.head _)).1 ⟨_, (N32 (rl2, _) (.tail _ (.tail _ (.tail _ (.head _))))).1, rfl, _, rfl⟩ ⟨_, (N32 (cl2, _) (.tail _ (.tail _ (.tail _ (.tail _ (.head _)))))).1, rfl, _, rfl⟩
            ⟨_, (N32 (rl, _) (.tail _ (.tail _ (.tail _ (.tail _ (.tail _ (.tail _ (.tail _ (.tail _ (.tail _ (.tail _ (mem_l mrl2)))))))))))).1, rfl, _, rfl⟩ ⟨_, (N32 (cl', _) (.tail _ (.tail _ (.tail _ (.tail _ (.tail _ (.tail _ (.tail _ (.tail _ (.tail _ (.tail _ (mem_l mcl2)))))))))))).1, rfl, _, rfl⟩ k2 k3 i2 i3 (room_law _) ?_
          replace N32 := newsSub N32 fun q hq => .tail _ (.tail _ (.tail _ (.tail _ (.tail _ hq))))
          k_steps
          unfold Halt
          (try k_fold)
          refine PSpec.useA (A₀ := _) (led_p tN uN uN _ _ hled) (by k_asm) (by k_asm) (by k_asm) (by assumption) (by k_asm) (by exact rfl) (by exact rfl) (by (try dsimp +zetaDelta only [ktrTop, Around.deeper]); first | (first | (law_clear; lia) | lia | omega) | decide) (by (try dsimp +zetaDelta only [ktrTop, Around.deeper]); first | (first | (law_clear; lia) | lia | omega) | decide) (trivial) ?_; intro v9 h9 tk9 F9 N9 kp9 ht9 hz9 hp9; (try dsimp only at hp9 ht9 hz9 kp9)
          obtain ⟨tL, rfl⟩ := hp9
          k_steps
          · exact absurd (Eq.refl (uN : Int)) (by assumption)
          unfold Halt
          (try k_fold)
          (rename Fr _ _ _ _ => F33)
          (rename News _ _ _ _ => N33)
          refine PSpec.useA (A₀ := _) (chain_p cl' cv (colsOf tN) _ i3 (cols_five tN)) (by k_asm) (by k_asm) (by k_asm) (by assumption) (by k_asm) (by exact rfl) (by exact rfl) (by (try dsimp +zetaDelta only [ktrTop, Around.deeper]); first | (first | (law_clear; lia) | lia | omega) | decide) (by (try dsimp +zetaDelta only [ktrTop, Around.deeper]); first | (first | (law_clear; lia) | lia | omega) | decide) (⟨⟨_, (N33 (cl', _) (.tail _ (.tail _ (.tail _ (.tail _ (.tail _ (mem_l mcl2))))))).1, rfl, _, rfl⟩, rfl⟩) ?_; intro v9 h9 tk9 F9 N9 kp9 ht9 hz9 hp9; (try dsimp only at hp9 ht9 hz9 kp9)
          obtain ⟨CL, ch, ccap, rfl, c1, c2, c3, c4⟩ := hp9
          obtain ⟨nw, enw⟩ : ∃ nw, nw = ch.map CE.obj ++ (bf ++ ex9) := ⟨_, rfl⟩
          have N34 : News g' L' h9 ((L' + 1 + 1 + 1 + 1, oG) :: (L' + 1 + 1 + 1, oR1) :: (L' + 1 + 1, oP1) :: (L' + 1, oT) :: (149, tabObj ps9) :: (CL, W.listOf (refsOf ch).toArray ccap) :: nw) := newsSub (news_fresh F33 c2 c1 (news_many F33 N9 fun q hq => ⟨(c4 q hq).2.2.1, (c4 q hq).2.2.2⟩)) (by
            intro q hq
            subst enw
            simp only [List.mem_cons, List.mem_append] at hq ⊢
            rcases hq with h | h | h | h | h | h | h | h | h <;> simp only [h, true_or, or_true])
          clear N9 N33
          (rename _ ≤ tk9 => htk33)
          k_steps
          unfold Halt
          (try k_fold)
          (rename Fr _ _ _ _ => F35)
          (rename News _ _ _ _ => N35)
          rename_i AL h35a lA DT h35b lD h35c h35d h35e tk35 htk35
          have lA9 : @LT.lt Nat _ 149 AL := ltN lA.2.2.2.2.1
          have lAC : @LT.lt Nat _ CL AL := ltN lA.2.2.2.2.2.1
          have lAn := kst_ltOf lA.2.2.2.2.2.2
          have mrlw : (rl, W.listOf rv.toArray nr) ∈ nw := by rw [enw]; exact mem_r (mem_l mrl2)
          have m163w : (163, tabObj #[]) ∈ nw := by rw [enw, ebf]; exact mem_r (mem_l (.tail _ (.tail _ (.tail _ (.tail _ (.tail _ (.head _)))))))
          have mchw : ∀ q ∈ ch, q.obj ∈ nw := fun q hq => by rw [enw]; exact mem_l (List.mem_map_of_mem hq)
          have mexw : ∀ q ∈ ex9, q ∈ nw := fun q hq => by rw [enw]; exact mem_r (mem_r hq)
          have up35 : ∀ q ∈ nw, h35e.get? q.1 = some q.2 := fun q hq => (N35 q (.tail _ (.tail _ (.tail _ (.tail _ (.tail _ (.tail _ (.tail _ (.tail _ hq))))))))).1
          have hws : ∀ q ∈ [(163, tabObj #[]), (149, tabObj ps9), (AL, W.listOf #[] 0)], q ∈ (DT, { cls := Value.type "tuple", data := Data.seq #[Value.ref CL, Value.ref AL] }) :: (AL, W.listOf #[] 0) :: (L' + 1 + 1 + 1 + 1, oG) :: (L' + 1 + 1 + 1, oR1) :: (L' + 1 + 1, oP1) :: (L' + 1, oT) :: (149, tabObj ps9) :: (CL, W.listOf (refsOf ch).toArray ccap) :: nw := by
            intro q hq
            rcases (mc hq).imp_right fun h => (mc h).imp_right mc1 with rfl | rfl | rfl
            · exact .tail _ (.tail _ (.tail _ (.tail _ (.tail _ (.tail _ (.tail _ (.tail _ m163w)))))))
            · exact .tail _ (.tail _ (.tail _ (.tail _ (.tail _ (.tail _ (.head _))))))
            · exact .tail _ (.head _)
          refine ESpec.useA (A₀ := _) (step_c CL rl AL rv (rowsOf tN) sN _ ch (colsOf tN) ps9 #[] i2 (rows_five tN).1 (rows_five tN).2 (fun q hq => ⟨(c4 q hq).1, (c4 q hq).2.1, Nat.ne_of_lt (lAn _ (mchw q hq))⟩) hsN (Nat.ne_of_gt lA9) (Nat.ne_of_gt (lAn _ m163w)) (Nat.ne_of_lt (lAn _ mrlw)) (Nat.ne_of_lt lAC) c3 (chain_down tN htN sN hsN)) (by k_asm) (by k_asm) (by k_asm) (hws) (by assumption) (by k_asm) (by exact rfl) (by exact rfl) (by (try dsimp +zetaDelta only [ktrTop, Around.deeper]); first | (first | (law_clear; lia) | lia | omega) | decide) (by (try dsimp +zetaDelta only [ktrTop, Around.deeper]); first | (first | (law_clear; lia) | lia | omega) | decide) (⟨⟨_, (N35 (CL, _) (.tail _ (.tail _ (.tail _ (.tail _ (.tail _ (.tail _ (.tail _ (.head _))))))))).1, rfl, _, rfl⟩, ⟨_, up35 _ mrlw, rfl, _, rfl⟩, (fun q hq => up35 _ (mchw q hq)), tab_close F35 N35 hTG (fun q hq => .tail _ (.tail _ (.tail _ (.tail _ (.tail _ (.tail _ (.tail _ (.tail _ (mexw q hq))))))))), hTL _ _⟩) ?_; intro v9 h9 tk9 F9 N9 kp9 ht9 hz9 hp9; (try dsimp only at hp9 ht9 hz9 kp9)
          obtain ⟨rN, tr, av, an, rfl, hcut, hav0, hav1, hav2, hga, ⟨psB, hgB⟩, ⟨psC, hgC⟩⟩ := hp9
          obtain ⟨nz, enz⟩ : ∃ nz, nz = ch.map CE.obj ++ [(rl, W.listOf rv.toArray nr)] := ⟨_, rfl⟩
          have hnz : ∀ q ∈ nz, q ∈ nw ∧ ∃ (vs : List Value) (n : Nat), q.2 = W.listOf vs.toArray n := fun q hq => by
            rw [enz] at hq
            rcases List.mem_append.mp hq with hq | hq
            · obtain ⟨x, hx, rfl⟩ := List.mem_map.mp hq
              exact ⟨mchw x hx, _, _, rfl⟩
            · rw [List.mem_singleton.mp hq]; exact ⟨mrlw, _, _, rfl⟩
          have hnz2 : ∀ q ∈ nz, q.1 ∉ [(163, tabObj #[]), (149, tabObj ps9), (AL, W.listOf #[] 0)].map (·.1) := fun q hq hm => by
            obtain ⟨h1, vs, n, h2⟩ := hnz q hq
            have hg := up35 q h1
            rw [h2] at hg
            simp only [List.map_cons, List.map_nil, List.mem_cons, List.not_mem_nil, or_false] at hm
            rcases hm with e | e | e
            · exact list_not_tab hg (up35 _ m163w) e
            · exact list_not_tab hg (N35 (149, _) (.tail _ (.tail _ (.tail _ (.tail _ (.tail _ (.tail _ (.head _)))))))).1 e
            · exact Nat.ne_of_lt (lAn q h1) e
          have N36 : News g' L' h9 ((L' + 1 + 1 + 1 + 1, oG) :: (L' + 1 + 1 + 1, oR1) :: (L' + 1 + 1, oP1) :: (L' + 1, oT) :: (149, tabObj psB) :: (163, tabObj psC) :: (AL, W.listOf av.toArray an) :: (CL, W.listOf (refsOf ch).toArray ccap) :: nz) := N9 _ (by
            have nn : ∀ a : Addr, @LT.lt Nat _ 163 a → a ≠ AL → a ∉ [(163, tabObj #[]), (149, tabObj ps9), (AL, W.listOf #[] 0)].map (·.1) := fun a h1 h2 hm => by
              simp only [List.map_cons, List.map_nil, List.mem_cons, List.not_mem_nil, or_false] at hm
              rcases hm with e | e | e
              · exact Nat.ne_of_gt h1 e
              · exact Nat.ne_of_gt (Nat.lt_trans (by decide) h1) e
              · exact h2 e
            intro q hq
            rcases (mc hq).imp_right fun h => (mc h).imp_right fun h => (mc h).imp_right fun h => (mc h).imp_right fun h => (mc h).imp_right fun h => (mc h).imp_right fun h => (mc h).imp_right fun h => (mc h) with h | h | h | h | h | h | h | h | h
            · exact .inl ⟨by rw [h]; exact .tail _ (.tail _ (.head _)), by rw [h]; exact nn _ (by (first | (law_clear; lia) | lia | omega)) (Nat.ne_of_lt lA.1)⟩
            · exact .inl ⟨by rw [h]; exact .tail _ (.tail _ (.tail _ (.head _))), by rw [h]; exact nn _ (by (first | (law_clear; lia) | lia | omega)) (Nat.ne_of_lt lA.2.1)⟩
            · exact .inl ⟨by rw [h]; exact .tail _ (.tail _ (.tail _ (.tail _ (.head _)))), by rw [h]; exact nn _ (by (first | (law_clear; lia) | lia | omega)) (Nat.ne_of_lt lA.2.2.1)⟩
            · exact .inl ⟨by rw [h]; exact .tail _ (.tail _ (.tail _ (.tail _ (.tail _ (.head _))))), by rw [h]; exact nn _ (by (first | (law_clear; lia) | lia | omega)) (Nat.ne_of_lt lA.2.2.2.1)⟩
            · exact .inr ⟨by rw [h]; exact .tail _ (.head _), by rw [h]; exact hgB⟩
            · exact .inr ⟨by rw [h]; exact .head _, by rw [h]; exact hgC⟩
            · exact .inr ⟨by rw [h]; exact .tail _ (.tail _ (.head _)), by rw [h]; exact hga⟩
            · refine .inl ⟨by rw [h]; exact .tail _ (.tail _ (.tail _ (.tail _ (.tail _ (.tail _ (.tail _ (.head _))))))), fun hm => ?_⟩
              have hg := (N35 (CL, _) (.tail _ (.tail _ (.tail _ (.tail _ (.tail _ (.tail _ (.tail _ (.head _))))))))).1
              rw [h] at hm
              simp only [List.map_cons, List.map_nil, List.mem_cons, List.not_mem_nil, or_false] at hm
              rcases hm with e | e | e
              · exact list_not_tab hg (up35 _ m163w) e
              · exact list_not_tab hg (N35 (149, _) (.tail _ (.tail _ (.tail _ (.tail _ (.tail _ (.tail _ (.head _)))))))).1 e
              · exact Nat.ne_of_lt lAC e
            · exact .inl ⟨.tail _ (.tail _ (.tail _ (.tail _ (.tail _ (.tail _ (.tail _ (.tail _ (hnz q h).1))))))), hnz2 q h⟩)
          clear N9 N35 F35
          k_steps
          unfold Halt
          (try k_fold)
          (rename News _ _ _ _ => N37)
          refine len_of (vs := av) ⟨_, (N37 (AL, _) (.tail _ (.tail _ (.tail _ (.tail _ (.tail _ (.tail _ (.head _)))))))).1, rfl, _, rfl⟩ rfl (by (first | (law_clear; lia) | lia | omega)) ?_
          k_steps
          unfold Halt
          (try k_fold)
          refine pow_int_small (by (first | (law_clear; lia) | lia | omega)) (by (first | (law_clear; lia) | lia | omega)) (by decide) ?_
          have ep : (2 : Int) ^ ((av.length : Int) - 1).toNat = ((2 ^ (av.length - 1) : Nat) : Int) := by rw [show ((av.length : Int) - 1).toNat = av.length - 1 by (first | (law_clear; lia) | lia | omega)]; simp
          rw [ep]
          k_steps
          unfold Halt
          (try k_fold)
          (rename News _ _ _ _ => N38)
          have hchl : ch.length = (chainTo (colsOf tN) 20).length := by rw [← c3, List.length_map]
          have hchl2 := chain_len (colsOf tN) 20
          refine len_of (vs := refsOf ch) (k := ch.length) ⟨_, (N38 (CL, _) (.tail _ (.tail _ (.tail _ (.tail _ (.tail _ (.tail _ (.tail _ (.head _))))))))).1, rfl, _, rfl⟩ (by unfold refsOf; rw [List.length_map]) (by (first | (law_clear; lia) | lia | omega)) ?_
          k_steps
          rename_i h9 he9 hit9 hsz9 hk9
          (rename Fr _ _ _ _ => F40)
          (rename News _ _ _ _ => N40)
          obtain ⟨h40, eh40⟩ := frHeap F40
          subst eh40
          dsimp only at he9 hit9 hsz9 hk9 ⊢
          have lL0 := F40.ns.lt
          have lL := ltN lL0
          have lG4 := ltN (Heap.lt_size (N40 (L' + 1 + 1 + 1 + 1, oG) (.head _)).1)
          dsimp only at lG4
          have lCL := ltN (Heap.lt_size (N40 (CL, W.listOf (refsOf ch).toArray ccap) (.tail _ (.tail _ (.tail _ (.tail _ (.tail _ (.tail _ (.tail _ (.head _))))))))).1)
          dsimp only at lCL
          have hsub : ∀ q ∈ (L' + 1 + 1 + 1 + 1, oG) :: (L' + 1 + 1 + 1, oR1) :: (149, tabObj psB) :: (163, tabObj psC) :: (CL, W.listOf (refsOf ch).toArray ccap) :: nz, q ∈ (L' + 1 + 1 + 1 + 1, oG) :: (L' + 1 + 1 + 1, oR1) :: (L' + 1 + 1, oP1) :: (L' + 1, oT) :: (149, tabObj psB) :: (163, tabObj psC) :: (AL, W.listOf av.toArray an) :: (CL, W.listOf (refsOf ch).toArray ccap) :: nz := by
            intro q hq
            rcases (mc hq).imp_right fun h => (mc h).imp_right fun h => (mc h).imp_right fun h => (mc h).imp_right fun h => (mc h) with h | h | h | h | h | h <;> first | (rw [h]; first | exact mem_at 0 rfl | exact mem_at 1 rfl | exact mem_at 2 rfl | exact mem_at 3 rfl | exact mem_at 4 rfl | exact mem_at 5 rfl | exact mem_at 6 rfl | exact mem_at 7 rfl | exact mem_at 8 rfl | exact mem_at 9 rfl | exact mem_at 10 rfl | exact mem_at 11 rfl | exact mem_at 12 rfl | exact mem_at 13 rfl) | exact .tail _ (h) | exact .tail _ (.tail _ (h)) | exact .tail _ (.tail _ (.tail _ (h))) | exact .tail _ (.tail _ (.tail _ (.tail _ (h)))) | exact .tail _ (.tail _ (.tail _ (.tail _ (.tail _ (h))))) | exact .tail _ (.tail _ (.tail _ (.tail _ (.tail _ (.tail _ (h)))))) | exact .tail _ (.tail _ (.tail _ (.tail _ (.tail _ (.tail _ (.tail _ (h))))))) | exact .tail _ (.tail _ (.tail _ (.tail _ (.tail _ (.tail _ (.tail _ (.tail _ (h)))))))) | exact .tail _ (.tail _ (.tail _ (.tail _ (.tail _ (.tail _ (.tail _ (.tail _ (.tail _ (h))))))))) | exact .tail _ (.tail _ (.tail _ (.tail _ (.tail _ (.tail _ (.tail _ (.tail _ (.tail _ (.tail _ (h)))))))))) | exact .tail _ (.tail _ (.tail _ (.tail _ (.tail _ (.tail _ (.tail _ (.tail _ (.tail _ (.tail _ (.tail _ (h)))))))))))
          have hrl : (refsOf ch).length = ch.length := by unfold refsOf; rw [List.length_map]
          have bE : (h9.get? (h40.objs.size + 1)).isSome = true := by have e : h9.get? _ = some _ := he9; rw [e]; rfl
          refine' ForGo.mk' (fun (_ : Obj) => [(Str.ofString "step", Value.int (rN : Int) tr)]) (fun c => (L' + 1 + 1 + 1 + 1, c) :: (L' + 1 + 1 + 1, oR1) :: (149, tabObj psB) :: (163, tabObj psC) :: (CL, W.listOf (refsOf ch).toArray ccap) :: nz) (fun i c _ => ∃ v, c.data = .cell v) oG
            (FSrcT.enum (B := h40.objs.size) rfl he9 hit9 ⟨_, hk9 _ _ (N40 (CL, W.listOf (refsOf ch).toArray ccap) (.tail _ (.tail _ (.tail _ (.tail _ (.tail _ (.tail _ (.tail _ (.head _))))))))).1, rfl, _, rfl⟩ (neN (by (first | (law_clear; lia) | lia | omega))) (neN (by (first | (law_clear; lia) | lia | omega))) (neN (by (first | (law_clear; lia) | lia | omega))) (by (first | (law_clear; lia) | lia | omega)) (by (first | (law_clear; lia) | lia | omega))) (F40.keeps hk9) (newsSub (N40.grown hk9) hsub) ?hps lL0 (fun q hq => Heap.lt_size (N40 q (hsub q hq)).1) ⟨_, dG⟩ (fun _ _ _ _ q _ => q) ?step ?done
          case hps => kst_all
          case step =>
            rintro i oG1 v m₁ h tk own wr hi9 hP ⟨v0, dG1⟩ hT F41 N41 hw2 ho2 hb2
            obtain ⟨T9, x9, t9, rfl, hv9, hT9'⟩ := hP
            obtain ⟨qe, mqe, rfl, hqe⟩ := refs_at hv9
            rw [hrl] at hi9
            have bO : ∀ q ∈ own, @LE.le Nat _ h40.objs.size q.1 ∨ q.1 = CL := fun q hq => (hb2.2.1 q hq).elim .inl fun e => .inr (List.mem_singleton.mp e)
            obtain ⟨k1, k2, _, _⟩ := c4 qe mqe
            dsimp only at F41 N41 hT
            have mnz : qe.obj ∈ nz := by rw [enz]; exact mem_l (List.mem_map_of_mem mqe)
            have mnr : (rl, W.listOf rv.toArray nr) ∈ nz := by rw [enz]; exact mem_r (.head _)
            obtain ⟨rs, ers⟩ : ∃ rs, rs = nz ++ own := ⟨_, rfl⟩
            have mnq : ∀ q ∈ nz, q ∈ rs := fun q hq => by rw [ers]; exact mem_l hq
            have moq : ∀ q ∈ own, q ∈ rs := fun q hq => by rw [ers]; exact mem_r hq
            have N42 : News g' L' h ((L' + 1 + 1 + 1 + 1, oG1) :: (L' + 1 + 1 + 1, oR1) :: (149, tabObj psB) :: (163, tabObj psC) :: (CL, W.listOf (refsOf ch).toArray ccap) :: rs) := newsSub N41 (by
              intro q hq
              rw [ers] at hq
              simp only [List.mem_cons, List.mem_append] at hq ⊢
              rcases hq with h | h | h | h | h | h | h <;> simp only [h, true_or, or_true])
            clear N41 F40 N40
            k_steps
            unfold Halt
            (try k_fold)
            (rename Fr _ _ _ _ => F43)
            (rename News _ _ _ _ => N43)
            refine kso_sorted F43 N43 ⟨_, (N43 qe.obj (.tail _ (.tail _ (.tail _ (.tail _ (.tail _ (mnq _ mnz))))))).1, rfl, _, rfl⟩ k1 (by rw [k2.1]; decide) fun DS vsS nsS cS hS FS NS lDS iS _ hpS hsS _ => ?_
            clear F43 N43
            k_steps
            unfold Halt
            (try k_fold)
            refine' krv_ints (s := ⟨_, _, _, _, _⟩) FS NS ⟨_, (NS _ (.head _)).1, rfl, _, rfl⟩ (IsPart.int _ _) iS ?_ ?z1 ?z2 ?z3
            case z1 => with_unfolding_all rfl
            case z2 => kmk_pure
            case z3 => rw [sizeLine_eq, List.size_toArray, iS.length, hpS.length_eq, k2.1]; decide
            intro DR vsR hR FR NR lDR iR _
            rw [great_eq hpS hsS] at iR
            clear FS NS
            obtain ⟨gr, egr⟩ : ∃ gr, gr = (qe.nums.mergeSort (· ≤ ·)).reverse := ⟨_, rfl⟩
            rw [← egr] at iR
            have hgr : gr.length = 5 := by rw [egr, List.length_reverse, List.length_mergeSort, k2.1]
            have N44 := newsSub (news' := (L' + 1 + 1 + 1 + 1, oG1) :: (L' + 1 + 1 + 1, oR1) :: (149, tabObj psB) :: (163, tabObj psC) :: (CL, W.listOf (refsOf ch).toArray ccap) :: (DR, W.listOf vsR.toArray 0) :: rs) NR (by
              intro q hq
              rcases (mc hq).imp_right fun h => (mc h).imp_right fun h => (mc h).imp_right fun h => (mc h).imp_right fun h => (mc h).imp_right fun h => (mc h) with h | h | h | h | h | h | h <;> first | (rw [h]; first | exact mem_at 0 rfl | exact mem_at 1 rfl | exact mem_at 2 rfl | exact mem_at 3 rfl | exact mem_at 4 rfl | exact mem_at 5 rfl | exact mem_at 6 rfl | exact mem_at 7 rfl | exact mem_at 8 rfl | exact mem_at 9 rfl | exact mem_at 10 rfl | exact mem_at 11 rfl | exact mem_at 12 rfl | exact mem_at 13 rfl) | exact .tail _ (h) | exact .tail _ (.tail _ (h)) | exact .tail _ (.tail _ (.tail _ (h))) | exact .tail _ (.tail _ (.tail _ (.tail _ (h)))) | exact .tail _ (.tail _ (.tail _ (.tail _ (.tail _ (h))))) | exact .tail _ (.tail _ (.tail _ (.tail _ (.tail _ (.tail _ (h)))))) | exact .tail _ (.tail _ (.tail _ (.tail _ (.tail _ (.tail _ (.tail _ (h))))))) | exact .tail _ (.tail _ (.tail _ (.tail _ (.tail _ (.tail _ (.tail _ (.tail _ (h)))))))) | exact .tail _ (.tail _ (.tail _ (.tail _ (.tail _ (.tail _ (.tail _ (.tail _ (.tail _ (h))))))))) | exact .tail _ (.tail _ (.tail _ (.tail _ (.tail _ (.tail _ (.tail _ (.tail _ (.tail _ (.tail _ (h)))))))))) | exact .tail _ (.tail _ (.tail _ (.tail _ (.tail _ (.tail _ (.tail _ (.tail _ (.tail _ (.tail _ (.tail _ (h))))))))))))
            clear NR
            have lDR4 := ltN (lDR (L' + 1 + 1 + 1 + 1, oG1) (.tail _ (.head _)))
            dsimp only at lDR4
            have nG : ∀ q ∈ (L' + 1 + 1 + 1, oR1) :: (149, tabObj psB) :: (163, tabObj psC) :: (CL, W.listOf (refsOf ch).toArray ccap) :: (DR, W.listOf vsR.toArray 0) :: rs, q.1 ≠ L' + 1 + 1 + 1 + 1 := by
              have hc := (N44 (L' + 1 + 1 + 1 + 1, oG1) (.head _)).1
              have hl := (N44 (CL, W.listOf (refsOf ch).toArray ccap) (.tail _ (.tail _ (.tail _ (.tail _ (.head _)))))).1
              intro q hq
              rcases (mc hq).imp_right fun h => (mc h).imp_right fun h => (mc h).imp_right fun h => (mc h).imp_right fun h => (mc h) with rfl | rfl | rfl | rfl | rfl | h
              · exact neN (by dsimp only; (first | (law_clear; lia) | lia | omega))
              · exact neN (by dsimp only; (first | (law_clear; lia) | lia | omega))
              · exact neN (by dsimp only; (first | (law_clear; lia) | lia | omega))
              · exact cell_ne hc dG1 hl
              · exact neN (by dsimp only; (first | (law_clear; lia) | lia | omega))
              · have hg := (N44 q (.tail _ (.tail _ (.tail _ (.tail _ (.tail _ (.tail _ h))))))).1
                rw [ers] at h
                rcases List.mem_append.mp h with h | h
                · obtain ⟨_, vs, n, e⟩ := hnz q h
                  rw [e] at hg
                  exact cell_ne hc dG1 hg
                · rcases bO q h with x | x
                  · exact neN (by (first | (law_clear; lia) | lia | omega))
                  · rw [x]; exact cell_ne hc dG1 hl
            k_steps
            (rename Fr _ _ _ _ => F45)
            refine' storeX_C F45 N44 ?s1 (.head nG) dG1 ?_ ?s3 ?s4
            case s1 => rfl
            case s3 => rfl
            case s4 => rfl
            intro h45 oG2 F46 N46 dG2
            clear F45 N44
            (try dsimp only at N46)
            k_steps
            unfold Halt
            (try k_fold)
            (rename _ ≤ _ => htR5)
            (try dsimp only at htR5)
            (rename Fr _ _ _ _ => F47)
            (rename News _ _ _ _ => N47)
            (rename IsRange _ _ _ _ _ _ _ _ => R47)
            refine CGoA.intro ⟨5, (fun j v => ∃ t, v = .int (1 + (j : Int)) t ∧ _ ≤ t), (fun j ys _ => IntsAre ys (castL ((List.range' 1 j).filter (overQ (rowsOf tN) gr)))), _, _, F47, (by rw [sizeLine_eq]; (first | (law_clear; lia) | lia | omega)), SrcT.range rfl R47 (by decide) (by decide), (fun _ _ _ _ q _ => q), .nil, ?g8, ?g9⟩
            case g8 =>
              rintro j v ys h tk hj ⟨tj, rfl, htj⟩ hJ hT hk C c hIc hCns hCn hcn
              refine CStep.one ?_
              have F9' := F47.keeps hk
              have N9' := N47.grown hk
              clear F47 N47
              k_steps
              unfold Halt
              (try k_fold)
              refine nameN_cell hIc rfl rfl rfl ?_
              k_steps
              unfold Halt
              (try k_fold)
              refine upto_kp ⟨_, (N9' (DR, _) (.tail _ (.tail _ (.tail _ (.tail _ (.tail _ (.head _)))))) ).1, rfl, _, rfl⟩ iR (by (first | (law_clear; lia) | lia | omega)) (by rw [iR.length, hgr]; decide) fun h50 DK wsK kp50 lK iK => ?_
              k_steps
              unfold Halt
              (try k_fold)
              refine sum_kp rfl lK iK fun h51 t51 tk51 kp51 => ?_
              have kp52 := Kp.trans kp50 kp51
              have F10' := F9'.keeps kp52
              have N10' := N9'.grown kp52
              have hIc2 := hIc.keeps kp52
              clear F9' N9'
              k_steps
              unfold Halt
              (try k_fold)
              k_dflt (refine' compq_eval ?r1 ?r2 ?r3 ?r4 ?r5 ?_; (case r1 => exact rfl); (case r2 => decide); (case r3 => rfl); (case r4 => decide); (case r5 => rfl))
              (try dsimp only)
              k_steps
              unfold Halt
              (try k_fold)
              refine CGo.intro ⟨rv.length, (fun k v => rv[k]? = some v), (fun k ys _ => IntsAre ys (((rowsOf tN).take k).map fun r => min r (1 + (j : Int)))), ?u1, SrcT.list rfl ⟨_, (N10' (rl, _) (.tail _ (.tail _ (.tail _ (.tail _ (.tail _ (.tail _ (mnq _ mnr)))))))).1, rfl, _, rfl⟩, (fun _ _ _ _ q _ => q), .nil, ?u2, ?u3⟩
              case u1 => rw [i2.length, (rows_five tN).1, sizeLine_eq]; (first | (law_clear; lia) | lia | omega)
              case u2 =>
                intro k v ys2 h2 tk2' hk2 hP2 hJ2' hT2' hkk C2 m₂ hC2 hm2 hC2n
                refine CStep.nil ?_
                obtain ⟨hz9, t9, rfl⟩ := ints_at_map i2 hP2
                have F9'' := F10'.keeps hkk
                have N9'' := N10'.grown hkk
                have hIc3 := hIc2.keeps hkk
                clear F10' N10'
                (try dsimp only)
                k_steps
                unfold Halt
                (try k_fold)
                refine LCgL.ld_built F9'' (by k_asm) (by k_asm) (by k_is) (by boot_by_name) (by decide) ?_
                k_steps
                unfold Halt
                (try k_fold)
                refine nameN_loc hC2 hm2 rfl rfl rfl ?_
                k_steps
                unfold Halt
                (try k_fold)
                refine nameN_cell hIc3 rfl rfl rfl ?_
                k_steps
                unfold Halt
                (try k_fold)
                refine min2_kp rfl fun h5 t5 tk5 kp5 => ?_
                exact ⟨h5, _, rfl, kp5, fun _ => by show IntsAre _ _; rw [take_map_snoc _ hz9]; exact ints_snoc hJ2' _ _⟩
              case u3 =>
                intro D53 ys53 h53 tk53 hJ53 hT53 hD53 hge53 hk53
                rw [i2.length, List.take_length] at hJ53
                (try dsimp only)
                k_steps
                unfold Halt
                (try k_fold)
                refine sum_kp rfl hD53.isList hJ53 fun h54 t54 tk54 kp54 => ?_
                have kp55 := Kp.trans hk53 kp54
                have hIc4 := hIc2.keeps kp55
                have F11' := F10'.keeps kp55
                have N11' := N10'.grown kp55
                clear F10' N10'
                (try dsimp only)
                k_steps
                · unfold Halt
                  refine nameN_cell hIc4 rfl rfl rfl ?_
                  exact ⟨h54, _, rfl, Kp.trans kp52 kp55, fun _ => by show IntsAre _ _; rw [over_yes (by assumption)]; exact ints_snoc hJ _ _⟩
                · exact ⟨h54, _, rfl, Kp.trans kp52 kp55, fun _ => by show IntsAre _ _; rw [over_no (by assumption)]; exact hJ⟩
            case g9 =>
              intro D48 ys48 h48 tk48 hJ48 hT48 hD48 hge48 F48 hk48
              (try dsimp only at hT48)
              obtain ⟨nn48, N48⟩ := plain_news2 N47 F47 hk48 hD48 hge48
              clear F47 N47
              k_steps
              unfold Halt
              (try k_fold)
              (rename News _ _ _ _ => N49)
              have eov : decide (castL ((List.range' 1 5).filter (overQ (rowsOf tN) gr)) = []) = decide (i < rN) := over_cut htN hsN c3 hqe (by (first | (law_clear; lia) | lia | omega)) egr hcut
              refine ke_eq_ints ⟨_, (N49 (D48, _) (.tail _ (.head _))).1, rfl, _, rfl⟩ (ys := []) ⟨_, (N49 _ (.head _)).1, rfl, _, rfl⟩ hJ48 .nil (room_law _) ?_
              rw [eov]
              k_steps
              · have hz := bne_lt i rN
                (rename (decide (i < rN) != _) = true => hz1)
                exact absurd (hz1.symm.trans hz) Bool.noConfusion
              unfold Halt
              (try k_fold)
              (rename Fr _ _ _ _ => Fz)
              (rename News _ _ _ _ => Nz)
              refine FEnd.intro oG2 Fz Nz (fun q hq => (.tail _ (.tail _ (.tail _ (.tail _ (.tail _ (.tail _ (.tail _ (.tail _ (moq q hq)))))))))) ?_ (by kst_all) fun _ => ⟨_, dG2⟩
              intro q hq
              rcases (mc hq).imp_right fun h => (mc h).imp_right fun h => (mc h).imp_right fun h => (mc h).imp_right fun h => (mc h) with h | h | h | h | h | h
              · exact ⟨by rw [h]; exact (.tail _ (.tail _ (.head _))), by rw [h]; exact hw2 (L' + 1 + 1 + 1 + 1, oG1) (.head _)⟩
              · exact ⟨by rw [h]; exact (.tail _ (.tail _ (.tail _ (.head _)))), by rw [h]; exact hw2 _ (.tail _ (.head _))⟩
              · exact ⟨by rw [h]; exact (.tail _ (.tail _ (.tail _ (.tail _ (.head _))))), by rw [h]; exact hw2 _ (.tail _ (.tail _ (.head _)))⟩
              · exact ⟨by rw [h]; exact (.tail _ (.tail _ (.tail _ (.tail _ (.tail _ (.head _)))))), by rw [h]; exact hw2 _ (.tail _ (.tail _ (.tail _ (.head _))))⟩
              · exact ⟨by rw [h]; exact (.tail _ (.tail _ (.tail _ (.tail _ (.tail _ (.tail _ (.head _))))))), by rw [h]; exact hw2 _ (.tail _ (.tail _ (.tail _ (.tail _ (.head _)))))⟩
              · exact ⟨(.tail _ (.tail _ (.tail _ (.tail _ (.tail _ (.tail _ (.tail _ (.tail _ (mnq q h))))))))), hw2 _ (.tail _ (.tail _ (.tail _ (.tail _ (.tail _ h)))))⟩
          case done =>
            rintro oG1 m₁ h tk ⟨v0, dG1⟩ hT F41 N41
            dsimp only at F41 N41 hT
            k_steps
            (rename Fr _ _ _ _ => Fz)
            (rename News _ _ _ _ => Nz)
            exact hR _ _ (fun b o e => Fz.keep b o (eg' ▸ e)) ⟨_, (Nz (163, _) (.tail _ (.tail _ (.tail _ (.head _))))).1⟩ ⟨_, (Nz (149, _) (.tail _ (.tail _ (.head _)))).1⟩
end
section
theorem frag_sub {K K2 : Frag} {h : Heap} (KX : K2.In h) (hs : K.map (fun p => K2.lookup p.1) = K.map (fun p => some p.2)) : K.In h := fun a o e => by
  refine KX a o ?_
  have hm : (a, o) ∈ K := by
    clear hs
    induction K with
    | nil => cases e
    | cons p K ih =>
      obtain ⟨b, ob⟩ := p
      rw [List.lookup_cons] at e
      split at e
      · rename_i hb
        rw [beq_iff_eq] at hb
        cases e
        rw [hb]
        exact .head _
      · exact .tail _ (ih e)
  exact List.map_inj_left.mp hs (a, o) hm
theorem zz : PySem.Challenge.rw_wb0054_01.Holds := hd54 ⟨left54, by
  k_fill
  intro w s₀ s₁ mg mb G y fa o pm cd doc dV kV ho hd hcd hD hmg hg args vals as L hpre hlay hrd hwl hlo
  obtain ⟨_, ZI, ZN, ZT⟩ := X.z_facts (by intro P; kernel_rfl) y
  have KX := InK.keeps w _ _ ZI (Laid.keeps L)
  refine Ground.open G ?_
  intro T B D TE TW
  have X : (hd54.heap_1 w.params).In s₁.heap := frag_sub KX (by kernel_rfl)
  have hT8 : ∀ P ∈ [149, 163], s₁.heap.get? P = some (tabObj #[]) := List.forall_mem_cons.mpr ⟨KX 149 _ (by kernel_rfl), List.forall_mem_cons.mpr ⟨KX 163 _ (by kernel_rfl), fun _ h => nomatch h⟩⟩
  have hfa := hmg
  clear KX ZI y
  km_lay T hmg ho hd cd
  clear hmg
  wrow_args hpre hlay hrd hwl hlo
  have htk := PySem.W.X.script_toks L ZT
  (first | refine callC_kw (enter_call ?_) | refine enter_call ?_)
  w_top on
  kn_posts
  rename_i ns _ _ _ _ _ _ _ sl sv _ hsl _ _ _ hint _ hmost _
  have h183 : mg (Str.ofString "law") = some (.ref 183) := mg_of X T.g (by kernel_rfl)
  have hfe := hfa.symm.trans h183
  cases hfe
  refine law_top T X hT9 htk _ _ _ hsl hint (by omega) fun h' tk hk t1 t2 => ?_
  refine ⟨⟨.inl ⟨.bool true, .bool true, [], rfl, raisesW_false ?_, .bool true, ?_, unshared_nil⟩, hk, rfl, hg⟩, t1, t2, trivial⟩
  · wrow_none_raised
  · wrow_post⟩
end
end Mine
theorem PySem.Challenge.cw_wb0054_01_holds : PySem.Challenge.rw_wb0054_01.Holds :=
  Mine.zz
